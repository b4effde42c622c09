import Derived.Test.Qxb6601706aFirst
namespace Go.Proofs.Qxb6601706a
open Go.RowKit
set_option linter.unusedVariables false
set_option linter.unusedSimpArgs false

def lastRel (W : World) (e : Ent) (k : Nat) (v : Value) (wr : World) : Prop := ∃ (c : Kid) (m : Nat), v = .pointer (some ⟨c.b, 0, none⟩) ∧ Tree W k c ∧ 1 ≤ c.r ∧ (∃ p, c.fl = p ++ [e]) ∧ wr = W.drewN m

theorem st_eb {w : World} {b : Nat} {v0 v1 v2 v3 : Value} (e : Ent) (h : w.heap[b]? = some (.cells #[v0, v1, v2, v3] 52 (0, 0))) :
    (Instr.storeAt 52 (.pointer (some ⟨b, 0, none⟩)) (EAgg e)).run Try.prog w = .ok () ((((w.setCell ⟨b, 0, none⟩ (.string e.key)).setCell ⟨b, 1, none⟩ (.slice e.va e.vl e.vc)).setCell ⟨b, 2, none⟩ (.int .u64 e.rev)).setCell ⟨b, 3, none⟩ (.int .u64 e.lease)) := by
  have h1 : (w.setCell ⟨b, 0, none⟩ (.string e.key)).heap[b]? = some (.cells #[.string e.key, v1, v2, v3] 52 (0, 0)) := heap_setCell_same w b 0 _ 52 _ h
  have h2 : ((w.setCell ⟨b, 0, none⟩ (.string e.key)).setCell ⟨b, 1, none⟩ (.slice e.va e.vl e.vc)).heap[b]? = some (.cells #[.string e.key, .slice e.va e.vl e.vc, v2, v3] 52 (0, 0)) := heap_setCell_same _ b 1 _ 52 _ h1
  have h3 : (((w.setCell ⟨b, 0, none⟩ (.string e.key)).setCell ⟨b, 1, none⟩ (.slice e.va e.vl e.vc)).setCell ⟨b, 2, none⟩ (.int .u64 e.rev)).heap[b]? = some (.cells #[.string e.key, .slice e.va e.vl e.vc, .int .u64 e.rev, v3] 52 (0, 0)) := heap_setCell_same _ b 2 _ 52 _ h2
  obtain ⟨a0, _, _, _, af⟩ := eb_cells h
  obtain ⟨_, b1, _, _, bf⟩ := eb_cells h1
  obtain ⟨_, _, c2, _, cf⟩ := eb_cells h2
  obtain ⟨_, _, _, d3, df⟩ := eb_cells h3
  have f0 := af 0
  have f1 := bf 1
  have f2 := cf 2
  have f3 := df 3
  clear af bf cf df h h1 h2 h3
  go_simp

set_option maxHeartbeats 8000000 in
set_option maxRecDepth 100000 in
theorem last47 {w : World} {h : Nat} {k : Kid} (t : Tree w h k) (hr : 1 ≤ k.r) (e : Ent) (he : ∃ p, k.fl = p ++ [e]) :
    Calls Try.prog 47 #[.pointer (some ⟨k.b, 0, none⟩)] w fun en w' => en = .returned (EAgg e) ∧ w.grownBy w' none := by
  have HT : Hid (lastRel (w.alloc (.cells #[.string (⟨#[]⟩ : ByteArray), .slice none 0 0, .int .u64 0, .int .u64 0] 52)) e h (.pointer (some ⟨k.b, 0, none⟩)) (w.alloc (.cells #[.string (⟨#[]⟩ : ByteArray), .slice none 0 0, .int .u64 0, .int .u64 0] 52))) :=
    ⟨k, 0, rfl, Tree.loc' h k w _ (fun b hb => Below.heap_alloc w _ b (t.nodup.2 b hb)) t, hr, he, rfl⟩
  have HEB : Hid ((w.alloc (.cells #[.string (⟨#[]⟩ : ByteArray), .slice none 0 0, .int .u64 0, .int .u64 0] 52)).heap[w.heap.size]? = some (.cells #[.string (⟨#[]⟩ : ByteArray), .slice none 0 0, .int .u64 0, .int .u64 0] 52)) := heap_alloc_new _ _
  have HGW : Hid (w.grownBy (w.alloc (.cells #[.string (⟨#[]⟩ : ByteArray), .slice none 0 0, .int .u64 0, .int .u64 0] 52)) none) := World.grownBy_alloc _ _ _
  clear t hr he
  go_enter Try.func47, Try.ntmps47
  go_wp2
  obtain ⟨eb, heb⟩ : ∃ eb, eb = w.heap.size := ⟨_, rfl⟩
  have HEBW : Hid (w.heap.size ≤ eb) := by rw [heb]; exact Nat.le_refl _
  rw [← heb] at HEB ⊢
  obtain ⟨W, hW⟩ : ∃ W, W = w.alloc (.cells #[.string (⟨#[]⟩ : ByteArray), .slice none 0 0, .int .u64 0, .int .u64 0] 52) := ⟨_, rfl⟩
  try rw [← hW] at HT HEB HGW ⊢
  clear heb hW
  go_loopg [0] h (lastRel W e)
  case atStart => exact HT.out
  case round =>
    clear HT
    obtain ⟨c, m, rfl, t, hr, he, rfl⟩ := hrel
    obtain ⟨rs, ks, rv, kv, hh, hk, h63, hkl, hkm⟩ := t.open
    have hkr : c.r = rs.length := by rw [hk]
    have hkf : c.fl = weave ks rs := by rw [hk]
    have hnode : (W.drewN m).heap[c.b]? = some (.cells #[rv, kv] 71 (0, 0)) := hh.ok (Res.node c.b rv kv) (by simp [parts])
    have hre : OwnE W 52 rv rs := hh.ok (Res.rowE rv rs) (by simp [parts])
    have hrn : OwnN W kv ks := hh.ok (Res.rowN kv ks) (by simp [parts])
    obtain ⟨c0, c1, f0, f1, clt⟩ := node_cells hnode
    have HLF : Hid (Calls Try.prog 39 #[.pointer (some ⟨c.b, 0, none⟩)] (W.drewN m) fun e w' => e = .returned (.bool (decide (ks.length = 0))) ∧ w' = W.drewN m) := leaf39 hnode hrn
    have HKT : Hid (∀ f ∈ ks, Tree W (gk - 1) f ∧ 31 ≤ f.r) := fun f hf => ⟨hh.ok (Res.tree (gk - 1) f) (by simp only [parts, List.mem_cons, List.mem_map]; exact .inr (.inr (.inr ⟨f, hf, rfl⟩))), hkm f hf⟩
    have HF : Hid (c.fl = weave ks rs ∧ KLen gk ks rs ∧ rs.length = c.r ∧ (∃ p, c.fl = p ++ [e])) := ⟨hkf, hkl, hkr.symm, he⟩
    have HO : Hid (OwnE W 52 rv rs ∧ OwnN W kv ks ∧ W.heap[c.b]? = some (.cells #[rv, kv] 71 (0, 0))) := ⟨hre, hrn, hnode⟩
    clear t hh hk hkf hkl hkm he hnode
    go_upto_if 5 with (go_at_call 39; refine HLF.out.mono ?_; rintro e5 w2 ⟨rfl, hw2⟩; replace hw2 := hw2.symm; subst hw2)
    clear HLF
    by_cases hk0 : ks = []
    · subst hk0
      have hlast : rs[rs.length - 1]? = some e := by
        obtain ⟨h1, _, h3, p, h4⟩ := HF.out
        rw [h1] at h4
        have h5 : rs = p ++ [e] := h4
        rw [h5]; simp
      rcases hre.form with ⟨_, h0⟩ | ⟨rg, rcap, rfl, hrg, hrn', hrc⟩
      · rw [h0] at hkr; simp at hkr; omega
      obtain ⟨n, hn⟩ : ∃ n, n + 1 = rs.length := ⟨rs.length - 1, by omega⟩
      rw [← hn] at c0 hrn'
      have hn63 : n ≤ 63 := by omega
      have HN : Hid (n + 1 = rs.length ∧ rs[n]? = some e) := ⟨hn, by rw [show n = rs.length - 1 by omega]; exact hlast⟩
      have hcells : (W.drewN m).cell? ⟨rg, n * 4, none⟩ = some (.string e.key) ∧ (W.drewN m).cell? ⟨rg, n * 4 + 1, none⟩ = some (.slice e.va e.vl e.vc) ∧ (W.drewN m).cell? ⟨rg, n * 4 + 2, none⟩ = some (.int .u64 e.rev) ∧ (W.drewN m).cell? ⟨rg, n * 4 + 3, none⟩ = some (.int .u64 e.lease) := by
        have h2 : OwnE W 52 (.slice (some ⟨rg, 0, none⟩) rs.length rcap) rs := HO.out.1
        have h3 := OwnE.cell (w := W) h2 rfl (i := n) (e := e) HN.out.2
        exact h3
      have heb4 : (W.drewN m).heap[eb]? = some (.cells #[.string (⟨#[]⟩ : ByteArray), .slice none 0 0, .int .u64 0, .int .u64 0] 52) := HEB.out
      have HFIN : Hid (∀ m', w.grownBy ((((((W.drewN m').setCell ⟨eb, 0, none⟩ (.string e.key)).setCell ⟨eb, 1, none⟩ (.slice e.va e.vl e.vc)).setCell ⟨eb, 2, none⟩ (.int .u64 e.rev)).setCell ⟨eb, 3, none⟩ (.int .u64 e.lease))) none) := by
        intro m'
        refine ⟨HGW.out.os, HGW.out.tape, HGW.out.output, by simp [World.setCell, World.drewN]; exact HGW.out.size, fun k hk _ => ?_⟩
        have hne : k ≠ eb := by have := HEBW.out; omega
        rw [Below.heap_setCell _ _ _ k (by simpa using hne), Below.heap_setCell _ _ _ k (by simpa using hne), Below.heap_setCell _ _ _ k (by simpa using hne), Below.heap_setCell _ _ _ k (by simpa using hne)]
        exact HGW.out.block k hk (by simp)
      clear hlast hre hrn hn hkr
      go_upto_region 3 with (fail)
      have hnode2 : (W.drewN m).drew.heap[c.b]? = some (.cells #[.slice (some ⟨rg, 0, none⟩) (n + 1) rcap, kv] 71 (0, 0)) := by rw [HN.out.1]; exact HO.out.2.2
      have hre2 : OwnE (W.drewN m).drew 52 (.slice (some ⟨rg, 0, none⟩) (n + 1) rcap) rs := by rw [HN.out.1]; exact HO.out.1
      refine region_lexL [0, 1, 2, 3, 4, 5, 6, 7, 8, 9, 10, 11] [12] 12 (fun w' => w'.heap[c.b]? = some (.cells #[.slice (some ⟨rg, 0, none⟩) (n + 1) rcap, kv] 71 (0, 0)) ∧ OwnE w' 52 (.slice (some ⟨rg, 0, none⟩) (n + 1) rcap) rs) (by kernel_rfl) (by kernel_rfl) (fun _ _ d _ _ h => by cases d <;> exact h) ⟨hnode2, hre2⟩ ?_
      refine reads_cons (.pointer (some ⟨c.b, 0, none⟩)) (fun w' hw' => rfl) ?_
      simp only [Act.put, List.setIfInBounds_toArray, List.set_cons_succ, List.set_cons_zero]
      refine reads_cons (.pointer (some ⟨c.b, 0, none⟩)) (fun w' hw' => rfl) ?_
      simp only [Act.put, List.setIfInBounds_toArray, List.set_cons_succ, List.set_cons_zero]
      refine reads_cons (.pointer (some ⟨c.b, 0, none⟩)) (fun w' hw' => rd_field (fld71_0 c.b w') rfl rfl) ?_
      simp only [Act.put, List.setIfInBounds_toArray, List.set_cons_succ, List.set_cons_zero]
      refine reads_cons (.slice (some ⟨rg, 0, none⟩) (n + 1) rcap) (fun w' hw' => rd_load (ld35 (node_cells hw'.1).1) rfl rfl) ?_
      simp only [Act.put, List.setIfInBounds_toArray, List.set_cons_succ, List.set_cons_zero]
      refine reads_cons (.pointer (some ⟨c.b, 0, none⟩)) (fun w' hw' => rfl) ?_
      simp only [Act.put, List.setIfInBounds_toArray, List.set_cons_succ, List.set_cons_zero]
      refine reads_cons (.pointer (some ⟨c.b, 0, none⟩)) (fun w' hw' => rfl) ?_
      simp only [Act.put, List.setIfInBounds_toArray, List.set_cons_succ, List.set_cons_zero]
      refine reads_cons (.pointer (some ⟨c.b, 0, none⟩)) (fun w' hw' => rd_field (fld71_0 c.b w') rfl rfl) ?_
      simp only [Act.put, List.setIfInBounds_toArray, List.set_cons_succ, List.set_cons_zero]
      refine reads_cons (.slice (some ⟨rg, 0, none⟩) (n + 1) rcap) (fun w' hw' => rd_load (ld35 (node_cells hw'.1).1) rfl rfl) ?_
      simp only [Act.put, List.setIfInBounds_toArray, List.set_cons_succ, List.set_cons_zero]
      refine reads_cons (.int .i64 ((n + 1 : Nat) : Int)) (fun w' hw' => rd_len (len35 _ (n + 1) _ _ w') rfl rfl) ?_
      simp only [Act.put, List.setIfInBounds_toArray, List.set_cons_succ, List.set_cons_zero]
      refine reads_cons (.int .i64 n) (fun w' hw' => by go_simp; first | done | exact wrap_lt _ (by omega) (by omega)) ?_
      simp only [Act.put, List.setIfInBounds_toArray, List.set_cons_succ, List.set_cons_zero]
      refine reads_cons (.pointer (some ⟨rg, n * 4, none⟩)) (fun w' hw' => rd_index (ix35 w' (by omega) (by omega)) rfl rfl rfl) ?_
      simp only [Act.put, List.setIfInBounds_toArray, List.set_cons_succ, List.set_cons_zero]
      refine reads_cons (.agg #[.string e.key, .slice e.va e.vl e.vc, .int .u64 e.rev, .int .u64 e.lease]) (fun w' hw' => rd_load (ld52 (OwnE.cell hw'.2 HN.out.1 HN.out.2).1 (OwnE.cell hw'.2 HN.out.1 HN.out.2).2.1 (OwnE.cell hw'.2 HN.out.1 HN.out.2).2.2.1 (OwnE.cell hw'.2 HN.out.1 HN.out.2).2.2.2) rfl rfl) ?_
      simp only [Act.put, List.setIfInBounds_toArray, List.set_cons_succ, List.set_cons_zero]
      refine reads_nil ?_
      have heb5 : (W.drewN m).drew.heap[eb]? = some (.cells #[.string (⟨#[]⟩ : ByteArray), .slice none 0 0, .int .u64 0, .int .u64 0] 52) := HEB.out
      refine seq_skip _ (rd_store (st_eb e heb5) rfl rfl rfl) (fun h => absurd rfl h) ?_
      simp only [Act.put, List.setIfInBounds_toArray, List.set_cons_succ, List.set_cons_zero]
      refine seq_nil ?_
      have hfin : w.grownBy (((((W.drewN m).drew.setCell ⟨eb, 0, none⟩ (.string e.key)).setCell ⟨eb, 1, none⟩ (.slice e.va e.vl e.vc)).setCell ⟨eb, 2, none⟩ (.int .u64 e.rev)).setCell ⟨eb, 3, none⟩ (.int .u64 e.lease)) none := HFIN.out (m + 1)
      obtain ⟨y0, y1, y2, y3⟩ := set_all (.string e.key) (.slice e.va e.vl e.vc) (.int .u64 e.rev) (.int .u64 e.lease) heb5
      obtain ⟨W4, hW4⟩ : ∃ W4, W4 = ((((W.drewN m).drew.setCell ⟨eb, 0, none⟩ (.string e.key)).setCell ⟨eb, 1, none⟩ (.slice e.va e.vl e.vc)).setCell ⟨eb, 2, none⟩ (.int .u64 e.rev)).setCell ⟨eb, 3, none⟩ (.int .u64 e.lease) := ⟨_, rfl⟩
      rw [← hW4] at y0 y1 y2 y3 hfin ⊢
      clear hW4 hnode2 hre2 heb5 HO HN HF HKT
      go_wp2_with fail
      refine bodyPost_ret (v := EAgg e) (by simp [results, Try.results47, go_sem, y0, y1, y2, y3]) rfl ⟨rfl, hfin⟩
    · have hnd : decide (ks = []) = false := decide_eq_false hk0
      have hgk : gk ≠ 0 := fun h => hk0 (HF.out.2.1.1 h)
      have hkl := HF.out.2.1.2 hgk
      obtain ⟨ks1, f, rfl⟩ : ∃ ks1 f, ks = ks1 ++ [f] := by
        rcases List.eq_nil_or_concat ks with h0 | ⟨ks1, f, h0⟩
        · exact absurd h0 hk0
        · exact ⟨ks1, f, by rw [h0, List.concat_eq_append]⟩
      rcases hrn.form with ⟨_, h0⟩ | ⟨kg, kcap, rfl, hkg, hkn, hkc⟩
      · simp at h0
      obtain ⟨n, hn⟩ : ∃ n, n + 1 = (ks1 ++ [f]).length := ⟨ks1.length, by simp⟩
      have hkc0 : (W.drewN m).cell? ⟨kg, n, none⟩ = some (.pointer (some ⟨f.b, 0, none⟩)) := OwnN.cell (w := W) (n := (ks1 ++ [f]).length) HO.out.2.1 rfl (by rw [show n = ks1.length by simp at hn; omega]; simp)
      rw [← hn] at c1 hkn
      have hn64 : n + 1 ≤ 64 := by rw [hn]; simp at hkl ⊢; omega
      have hnlt : (n : Int) < (n : Int) + 1 := by omega
      have HN2 : Hid (n + 1 = (ks1 ++ [f]).length) := hn
      have hnode2 : (W.drewN m).drew.heap[c.b]? = some (.cells #[rv, .slice (some ⟨kg, 0, none⟩) (n + 1) kcap] 71 (0, 0)) := by rw [hn]; exact HO.out.2.2
      have hrn2 : OwnN (W.drewN m).drew (.slice (some ⟨kg, 0, none⟩) (n + 1) kcap) (ks1 ++ [f]) := by rw [hn]; exact HO.out.2.1
      clear hre hrn hkr hkl hn
      rw [hnd]
      go_upto_region 2 with (fail)
      refine region_lexS [0, 1, 2, 3, 4, 5, 6, 7, 8, 9, 10, 11] [12] (fun w' => w'.heap[c.b]? = some (.cells #[rv, .slice (some ⟨kg, 0, none⟩) (n + 1) kcap] 71 (0, 0)) ∧ OwnN w' (.slice (some ⟨kg, 0, none⟩) (n + 1) kcap) (ks1 ++ [f])) (by kernel_rfl) (by kernel_rfl) (fun _ _ d _ _ h => by cases d <;> exact h) ⟨hnode2, hrn2⟩ ?_
      refine reads_cons (.pointer (some ⟨c.b, 0, none⟩)) (fun w' hw' => rfl) ?_
      simp only [Act.put, List.setIfInBounds_toArray, List.set_cons_succ, List.set_cons_zero]
      refine reads_cons (.pointer (some ⟨c.b, 0, none⟩)) (fun w' hw' => rfl) ?_
      simp only [Act.put, List.setIfInBounds_toArray, List.set_cons_succ, List.set_cons_zero]
      refine reads_cons (.pointer (some ⟨c.b, 1, none⟩)) (fun w' hw' => rd_field (fld71_1 c.b w') rfl rfl) ?_
      simp only [Act.put, List.setIfInBounds_toArray, List.set_cons_succ, List.set_cons_zero]
      refine reads_cons (.slice (some ⟨kg, 0, none⟩) (n + 1) kcap) (fun w' hw' => rd_load (ld36 (node_cells hw'.1).2.1) rfl rfl) ?_
      simp only [Act.put, List.setIfInBounds_toArray, List.set_cons_succ, List.set_cons_zero]
      refine reads_cons (.pointer (some ⟨c.b, 0, none⟩)) (fun w' hw' => rfl) ?_
      simp only [Act.put, List.setIfInBounds_toArray, List.set_cons_succ, List.set_cons_zero]
      refine reads_cons (.pointer (some ⟨c.b, 0, none⟩)) (fun w' hw' => rfl) ?_
      simp only [Act.put, List.setIfInBounds_toArray, List.set_cons_succ, List.set_cons_zero]
      refine reads_cons (.pointer (some ⟨c.b, 1, none⟩)) (fun w' hw' => rd_field (fld71_1 c.b w') rfl rfl) ?_
      simp only [Act.put, List.setIfInBounds_toArray, List.set_cons_succ, List.set_cons_zero]
      refine reads_cons (.slice (some ⟨kg, 0, none⟩) (n + 1) kcap) (fun w' hw' => rd_load (ld36 (node_cells hw'.1).2.1) rfl rfl) ?_
      simp only [Act.put, List.setIfInBounds_toArray, List.set_cons_succ, List.set_cons_zero]
      refine reads_cons (.int .i64 ((n + 1 : Nat) : Int)) (fun w' hw' => rd_len (len36 _ (n + 1) _ _ w') rfl rfl) ?_
      simp only [Act.put, List.setIfInBounds_toArray, List.set_cons_succ, List.set_cons_zero]
      refine reads_cons (.int .i64 n) (fun w' hw' => by go_simp; first | done | exact wrap_lt _ (by omega) (by omega)) ?_
      simp only [Act.put, List.setIfInBounds_toArray, List.set_cons_succ, List.set_cons_zero]
      refine reads_cons (.pointer (some ⟨kg, n, none⟩)) (fun w' hw' => rd_index (ix36 w' (by omega) (by omega)) rfl rfl rfl) ?_
      simp only [Act.put, List.setIfInBounds_toArray, List.set_cons_succ, List.set_cons_zero]
      refine reads_cons (.pointer (some ⟨f.b, 0, none⟩)) (fun w' hw' => rd_load (ld32 (OwnN.cell hw'.2 HN2.out (by rw [show n = ks1.length by have := HN2.out; simp at this; omega]; simp))) rfl rfl) ?_
      simp only [Act.put, List.setIfInBounds_toArray, List.set_cons_succ, List.set_cons_zero]
      refine reads_nil ?_
      refine sS_value (.pointer (some ⟨f.b, 0, none⟩)) (W.drewN m).drew rfl ⟨hnode2, hrn2⟩ ?_
      simp only [Act.put, List.setIfInBounds_toArray, List.set_cons_succ, List.set_cons_zero]
      refine sS_nil ?_
      clear hnode2 hrn2
      go_wp2_with fail
      go_roundg (gk - 1)
      case measure => omega
      case rel =>
        have hf := HKT.out f (by simp)
        refine ⟨f, m + 1, rfl, hf.1, by omega, ?_, rfl⟩
        obtain ⟨h1, h2, h3, p, h4⟩ := HF.out
        rw [h1, show rs = rs ++ [] by simp, weave_zip f [] [] ks1 rs (by have := h2.2 hgk; simp at this; omega)] at h4
        have hne : 1 ≤ f.fl.length := tree_fl hf.1 (by omega)
        have h6 : R [] ([] : List Kid) = [] := rfl
        rw [h6, List.append_nil] at h4
        rcases List.eq_nil_or_concat f.fl with h7 | ⟨q, y, h7⟩
        · rw [h7] at hne; simp at hne
        · rw [List.concat_eq_append] at h7
          rw [h7, ← List.append_assoc] at h4
          have h8 := List.append_inj_right' h4 (by simp)
          simp at h8
          exact ⟨q, by rw [h7, h8]⟩


end Go.Proofs.Qxb6601706a
