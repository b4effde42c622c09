import Derived.Test.Qxb6601706aGrow
import Derived.Test.Qxb6601706aShape
namespace Go.Proofs.Qxb6601706a
open Go.RowKit
set_option linter.unusedVariables false
set_option linter.unusedSimpArgs false
theorem tree_fl {w : World} {h : Nat} {k : Kid} (t : Tree w h k) (hr : 1 ≤ k.r) : 1 ≤ k.fl.length := by
  obtain ⟨rs, ks, rv, kv, hh, hk, _, hkl, _⟩ := t.open
  have h1 : k.r = rs.length := by rw [hk]
  have h2 : k.fl = weave ks rs := by rw [hk]
  have := (weave_sub hkl).length_le
  rw [h2]; omega
theorem eb_cells {w : World} {b : Nat} {v0 v1 v2 v3 : Value} (h : w.heap[b]? = some (.cells #[v0, v1, v2, v3] 52)) : w.cell? ⟨b, 0, none⟩ = some v0 ∧ w.cell? ⟨b, 1, none⟩ = some v1 ∧ w.cell? ⟨b, 2, none⟩ = some v2 ∧ w.cell? ⟨b, 3, none⟩ = some v3 ∧ ∀ j, w.frozen? ⟨b, j, none⟩ = false := by
  refine ⟨?_, ?_, ?_, ?_, fun j => ?_⟩ <;> simp [World.cell?, World.frozen?, h]
theorem set_chain {w : World} {b : Nat} {v0 v1 v2 v3 : Value} (u0 u1 u2 u3 : Value) (h : w.heap[b]? = some (.cells #[v0, v1, v2, v3] 52 (0, 0))) :
    (w.setCell ⟨b, 0, none⟩ u0).cell? ⟨b, 0, none⟩ = some u0 ∧ ((w.setCell ⟨b, 0, none⟩ u0).setCell ⟨b, 1, none⟩ u1).cell? ⟨b, 1, none⟩ = some u1 ∧ (((w.setCell ⟨b, 0, none⟩ u0).setCell ⟨b, 1, none⟩ u1).setCell ⟨b, 2, none⟩ u2).cell? ⟨b, 2, none⟩ = some u2 ∧ ((((w.setCell ⟨b, 0, none⟩ u0).setCell ⟨b, 1, none⟩ u1).setCell ⟨b, 2, none⟩ u2).setCell ⟨b, 3, none⟩ u3).cell? ⟨b, 3, none⟩ = some u3 := by
  have h1 : (w.setCell ⟨b, 0, none⟩ u0).heap[b]? = some (.cells #[u0, v1, v2, v3] 52 (0, 0)) := heap_setCell_same w b 0 _ 52 u0 h
  have h2 := heap_setCell_same _ b 1 _ 52 u1 h1
  have h3 := heap_setCell_same _ b 2 _ 52 u2 h2
  have h4 := heap_setCell_same _ b 3 _ 52 u3 h3
  refine ⟨?_, ?_, ?_, ?_⟩
  · simp [World.cell?, h1]
  · simp [World.cell?, h2]
  · simp [World.cell?, h3]
  · simp [World.cell?, h4]
theorem set_all {w : World} {b : Nat} {v0 v1 v2 v3 : Value} (u0 u1 u2 u3 : Value) (h : w.heap[b]? = some (.cells #[v0, v1, v2, v3] 52 (0, 0))) :
    ((((w.setCell ⟨b, 0, none⟩ u0).setCell ⟨b, 1, none⟩ u1).setCell ⟨b, 2, none⟩ u2).setCell ⟨b, 3, none⟩ u3).cell? ⟨b, 0, none⟩ = some u0 ∧ ((((w.setCell ⟨b, 0, none⟩ u0).setCell ⟨b, 1, none⟩ u1).setCell ⟨b, 2, none⟩ u2).setCell ⟨b, 3, none⟩ u3).cell? ⟨b, 1, none⟩ = some u1 ∧ ((((w.setCell ⟨b, 0, none⟩ u0).setCell ⟨b, 1, none⟩ u1).setCell ⟨b, 2, none⟩ u2).setCell ⟨b, 3, none⟩ u3).cell? ⟨b, 2, none⟩ = some u2 ∧ ((((w.setCell ⟨b, 0, none⟩ u0).setCell ⟨b, 1, none⟩ u1).setCell ⟨b, 2, none⟩ u2).setCell ⟨b, 3, none⟩ u3).cell? ⟨b, 3, none⟩ = some u3 := by
  have h1 : (w.setCell ⟨b, 0, none⟩ u0).heap[b]? = some (.cells #[u0, v1, v2, v3] 52 (0, 0)) := heap_setCell_same w b 0 _ 52 u0 h
  have h2 := heap_setCell_same _ b 1 _ 52 u1 h1
  have h3 := heap_setCell_same _ b 2 _ 52 u2 h2
  have h4 := heap_setCell_same _ b 3 _ 52 u3 h3
  refine ⟨?_, ?_, ?_, ?_⟩ <;> simp [World.cell?, h4]

def firstRel (W : World) (e : Ent) (k : Nat) (v : Value) (wr : World) : Prop := ∃ (c : Kid) (m : Nat), v = .pointer (some ⟨c.b, 0, none⟩) ∧ Tree W k c ∧ 1 ≤ c.r ∧ (∃ p, c.fl = e :: p) ∧ wr = W.drewN m

set_option maxHeartbeats 8000000 in
set_option maxRecDepth 100000 in
theorem first48 {w : World} {h : Nat} {k : Kid} (t : Tree w h k) (hr : 1 ≤ k.r) (e : Ent) (he : ∃ p, k.fl = e :: p) :
    Calls Try.prog 48 #[.pointer (some ⟨k.b, 0, none⟩)] w fun en w' => en = .returned (EAgg e) ∧ w.grownBy w' none := by
  have HT : Hid (firstRel (w.alloc (.cells #[.string (⟨#[]⟩ : ByteArray), .slice none 0 0, .int .u64 0, .int .u64 0] 52)) e h (.pointer (some ⟨k.b, 0, none⟩)) (w.alloc (.cells #[.string (⟨#[]⟩ : ByteArray), .slice none 0 0, .int .u64 0, .int .u64 0] 52))) :=
    ⟨k, 0, rfl, Tree.loc' h k w _ (fun b hb => Below.heap_alloc w _ b (t.nodup.2 b hb)) t, hr, he, rfl⟩
  have HEB : Hid ((w.alloc (.cells #[.string (⟨#[]⟩ : ByteArray), .slice none 0 0, .int .u64 0, .int .u64 0] 52)).heap[w.heap.size]? = some (.cells #[.string (⟨#[]⟩ : ByteArray), .slice none 0 0, .int .u64 0, .int .u64 0] 52)) := heap_alloc_new _ _
  have HGW : Hid (w.grownBy (w.alloc (.cells #[.string (⟨#[]⟩ : ByteArray), .slice none 0 0, .int .u64 0, .int .u64 0] 52)) none) := World.grownBy_alloc _ _ _
  clear t hr he
  go_enter Try.func48, Try.ntmps48
  go_wp2
  obtain ⟨eb, heb⟩ : ∃ eb, eb = w.heap.size := ⟨_, rfl⟩
  have HEBW : Hid (w.heap.size ≤ eb) := by rw [heb]; exact Nat.le_refl _
  rw [← heb] at HEB ⊢
  obtain ⟨W, hW⟩ : ∃ W, W = w.alloc (.cells #[.string (⟨#[]⟩ : ByteArray), .slice none 0 0, .int .u64 0, .int .u64 0] 52) := ⟨_, rfl⟩
  try rw [← hW] at HT HEB HGW ⊢
  clear heb hW
  go_loopg [0] h (firstRel W e)
  case atStart => exact HT.out
  case round =>
    clear HT
    obtain ⟨c, m, rfl, t, hr, he, rfl⟩ := hrel
    obtain ⟨rs, ks, rv, kv, hh, hk, h63, hkl, hkm⟩ := t.open
    have hkr : c.r = rs.length := by rw [hk]
    have hkf : c.fl = weave ks rs := by rw [hk]
    have hnode : (W.drewN m).heap[c.b]? = some (.cells #[rv, kv] 71 (0, 0)) := hh.ok (Res.node c.b rv kv) (by simp [parts])
    have hre : OwnE W 52 rv rs := hh.ok (Res.rowE rv rs) (by simp [parts])
    have hrn : OwnN W kv ks := hh.ok (Res.rowN kv ks) (by simp [parts])
    obtain ⟨c0, c1, f0, f1, clt⟩ := node_cells hnode
    have HLF : Hid (Calls Try.prog 39 #[.pointer (some ⟨c.b, 0, none⟩)] (W.drewN m) fun e w' => e = .returned (.bool (decide (ks.length = 0))) ∧ w' = W.drewN m) := leaf39 hnode hrn
    have HKT : Hid (∀ f ∈ ks, Tree W (gk - 1) f ∧ 31 ≤ f.r) := fun f hf => ⟨hh.ok (Res.tree (gk - 1) f) (by simp only [parts, List.mem_cons, List.mem_map]; exact .inr (.inr (.inr ⟨f, hf, rfl⟩))), hkm f hf⟩
    have HF : Hid (c.fl = weave ks rs ∧ KLen gk ks rs ∧ rs.length = c.r ∧ (∃ p, c.fl = e :: p)) := ⟨hkf, hkl, hkr.symm, he⟩
    have HO : Hid (OwnE W 52 rv rs ∧ OwnN W kv ks ∧ W.heap[c.b]? = some (.cells #[rv, kv] 71 (0, 0))) := ⟨hre, hrn, hnode⟩
    clear t hh hk hkf hkl hkm he hnode
    go_upto_if 5 with (go_at_call 39; refine HLF.out.mono ?_; rintro e5 w2 ⟨rfl, hw2⟩; replace hw2 := hw2.symm; subst hw2)
    clear HLF
    by_cases hk0 : ks = []
    · subst hk0
      have hlast : rs[0]? = some e := by
        obtain ⟨h1, _, h3, p, h4⟩ := HF.out
        rw [h1] at h4
        have h5 : rs = e :: p := h4
        rw [h5]; simp
      rcases hre.form with ⟨_, h0⟩ | ⟨rg, rcap, rfl, hrg, hrn', hrc⟩
      · rw [h0] at hkr; simp at hkr; omega
      obtain ⟨n, hn⟩ : ∃ n, n = rs.length := ⟨_, rfl⟩
      rw [← hn] at c0 hrn'
      have hn1 : 1 ≤ n := by omega
      have hn63 : n ≤ 63 := by omega
      have HN : Hid (n = rs.length ∧ rs[0]? = some e) := ⟨hn, hlast⟩
      have hcells : (W.drewN m).cell? ⟨rg, (0) * 4, none⟩ = some (.string e.key) ∧ (W.drewN m).cell? ⟨rg, (0) * 4 + 1, none⟩ = some (.slice e.va e.vl e.vc) ∧ (W.drewN m).cell? ⟨rg, (0) * 4 + 2, none⟩ = some (.int .u64 e.rev) ∧ (W.drewN m).cell? ⟨rg, (0) * 4 + 3, none⟩ = some (.int .u64 e.lease) := by
        have h2 : OwnE W 52 (.slice (some ⟨rg, 0, none⟩) rs.length rcap) rs := HO.out.1
        have h3 := OwnE.cell (w := W) h2 rfl (i := 0) (e := e) (by simpa [hn] using hlast)
        exact h3
      have heb4 : (W.drewN m).heap[eb]? = some (.cells #[.string (⟨#[]⟩ : ByteArray), .slice none 0 0, .int .u64 0, .int .u64 0] 52) := HEB.out
      have HFIN : Hid (∀ m', w.grownBy ((((((W.drewN m').setCell ⟨eb, 0, none⟩ (.string e.key)).setCell ⟨eb, 1, none⟩ (.slice e.va e.vl e.vc)).setCell ⟨eb, 2, none⟩ (.int .u64 e.rev)).setCell ⟨eb, 3, none⟩ (.int .u64 e.lease))) none) := by
        intro m'
        refine ⟨HGW.out.os, HGW.out.tape, HGW.out.output, by simp [World.setCell, World.drewN]; exact HGW.out.size, fun k hk _ => ?_⟩
        have hne : k ≠ eb := by have := HEBW.out; omega
        rw [Below.heap_setCell _ _ _ k (by simpa using hne), Below.heap_setCell _ _ _ k (by simpa using hne), Below.heap_setCell _ _ _ k (by simpa using hne), Below.heap_setCell _ _ _ k (by simpa using hne)]
        exact HGW.out.block k hk (by simp)
      clear hlast hre hrn hn hkr
      obtain ⟨q0, q1, q2, q3⟩ := hcells
      simp only [Nat.zero_mul, Nat.zero_add] at q0 q1 q2 q3
      obtain ⟨z0, z1, z2, z3, zf⟩ := eb_cells heb4
      obtain ⟨s0, s1, s2, s3⟩ := set_chain (.string e.key) (.slice e.va e.vl e.vc) (.int .u64 e.rev) (.int .u64 e.lease) heb4
      go_wp2
      have hfin := HFIN.out m
      obtain ⟨y0, y1, y2, y3⟩ := set_all (.string e.key) (.slice e.va e.vl e.vc) (.int .u64 e.rev) (.int .u64 e.lease) heb4
      obtain ⟨W4, hW4⟩ : ∃ W4, W4 = ((((W.drewN m).setCell ⟨eb, 0, none⟩ (.string e.key)).setCell ⟨eb, 1, none⟩ (.slice e.va e.vl e.vc)).setCell ⟨eb, 2, none⟩ (.int .u64 e.rev)).setCell ⟨eb, 3, none⟩ (.int .u64 e.lease) := ⟨_, rfl⟩
      rw [← hW4] at y0 y1 y2 y3 hfin ⊢
      refine bodyPost_ret (v := EAgg e) (by simp [results, Try.results48, go_sem, y0, y1, y2, y3]) rfl ⟨rfl, hfin⟩
    · have hnd : decide (ks = []) = false := decide_eq_false hk0
      have hgk : gk ≠ 0 := fun h => hk0 (HF.out.2.1.1 h)
      have hkl := HF.out.2.1.2 hgk
      obtain ⟨f, ks1, rfl⟩ : ∃ f ks1, ks = f :: ks1 := by
        cases ks with
        | nil => exact absurd rfl hk0
        | cons f ks1 => exact ⟨f, ks1, rfl⟩
      rcases hrn.form with ⟨_, h0⟩ | ⟨kg, kcap, rfl, hkg, hkn, hkc⟩
      · simp at h0
      obtain ⟨n, hn⟩ : ∃ n, n = (f :: ks1).length := ⟨_, rfl⟩
      have hkc0 : (W.drewN m).cell? ⟨kg, 0, none⟩ = some (.pointer (some ⟨f.b, 0, none⟩)) := OwnN.cell (w := W) (n := (f :: ks1).length) HO.out.2.1 rfl rfl
      rw [← hn] at c1 hkn
      have hn1 : 1 ≤ n := by rw [hn]; simp
      have hn64 : n ≤ 64 := by rw [hn]; simp at hkl ⊢; omega
      clear hre hrn hkr hkl hn
      rw [hnd]
      go_wp2
      go_roundg (gk - 1)
      case measure => omega
      case rel =>
        have hf := HKT.out f (by simp)
        refine ⟨f, _, rfl, hf.1, by omega, ?_, rfl⟩
        obtain ⟨h1, h2, h3, p, h4⟩ := HF.out
        rw [h1] at h4
        have hne : 1 ≤ f.fl.length := tree_fl hf.1 (by omega)
        cases hfl : f.fl with
        | nil => rw [hfl] at hne; simp at hne
        | cons y q =>
          have h5 : weave (f :: ks1) rs = f.fl ++ R rs ks1 := rfl
          rw [h5, hfl] at h4
          simp at h4
          exact ⟨q, by rw [h4.1]⟩


end Go.Proofs.Qxb6601706a
