import Derived.Test.Qxb6601706aStc
import Derived.Test.Qxb6601706aLex2
import Derived.Test.Qxb6601706aOps2
import Derived.Test.Qxb6601706aSearch
import Derived.Deep.DeepCutAuto
import Derived.Deep.CutBlock
import Derived.Deep.RegionHeld3
namespace Go.Proofs.Qxb6601706a
open Go.RowKit
set_option linter.unusedVariables false
set_option linter.unusedSimpArgs false

/-- a value's bytes -/
def ValIs (w : World) (va : Option Addr) (vl : Nat) (bs : List UInt8) : Prop :=
  vl = bs.length ∧ bs.length ≤ 1048576 ∧ (bs = [] ∨ ∃ g cur, va = some ⟨g, 0, none⟩ ∧ w.heap[g]? = some (.cells cur 5 (0, 0)) ∧ ∀ (j : Nat) (b : UInt8), bs[j]? = some b → cur[j]? = some (.int .u8 b.toNat))

theorem ValIs.same {w w' : World} {va : Option Addr} {vl : Nat} {bs : List UInt8} (h : ValIs w va vl bs) (hk : ∀ (g : Nat) (cur : Array Value), w.heap[g]? = some (.cells cur 5 (0, 0)) → w'.heap[g]? = w.heap[g]?) : ValIs w' va vl bs := by
  refine ⟨h.1, h.2.1, ?_⟩
  rcases h.2.2 with h0 | ⟨g, cur, h1, h2, h3⟩
  · exact .inl h0
  · exact .inr ⟨g, cur, h1, by rw [hk g cur h2]; exact h2, h3⟩
theorem ValIs.cells {w : World} {va : Option Addr} {vl : Nat} {bs : List UInt8} (h : ValIs w va vl bs) {j : Nat} (hj : j < bs.length) : ∃ g b, va = some ⟨g, 0, none⟩ ∧ bs[j]? = some b ∧ w.cell? ⟨g, j, none⟩ = some (.int .u8 b.toNat) := by
  rcases h.2.2 with h0 | ⟨g, cur, h1, h2, h3⟩
  · rw [h0] at hj; simp at hj
  · refine ⟨g, bs[j], h1, List.getElem?_eq_getElem hj, ?_⟩
    rw [cell_of_row w g _ cur 5 (0, 0) h2]
    exact h3 j _ (List.getElem?_eq_getElem hj)

/-- two records that say the same -/
def SameE (w : World) (a b : Ent) : Prop := a.key = b.key ∧ a.rev = b.rev ∧ a.lease = b.lease ∧ ∃ bs, ValIs w a.va a.vl bs ∧ ValIs w b.va b.vl bs
theorem SameE.same {w w' : World} {a b : Ent} (h : SameE w a b) (hk : ∀ (g : Nat) (cur : Array Value), w.heap[g]? = some (.cells cur 5 (0, 0)) → w'.heap[g]? = w.heap[g]?) : SameE w' a b := by
  obtain ⟨h1, h2, h3, bs, h4, h5⟩ := h
  exact ⟨h1, h2, h3, bs, h4.same hk, h5.same hk⟩

set_option maxHeartbeats 2000000 in
set_option maxRecDepth 100000 in
theorem sameBytes43 {w : World} {va vb : Option Addr} {la ca cb : Nat} {bs : List UInt8} (ha : ValIs w va la bs) (hb : ValIs w vb la bs) :
    Calls Try.prog 43 #[.slice va la ca, .slice vb la cb] w fun e w' => e = .returned (.bool true) ∧ ∃ m, w' = w.drewN m := by
  have hn := ha.1
  have hlen : la ≤ 1048576 := by rw [hn]; exact ha.2.1
  have HN : Hid (la = bs.length) := hn
  have HA : Hid (ValIs w va la bs) := ha
  have HB : Hid (ValIs w vb la bs) := hb
  clear ha hb hn
  go_enter Try.func43, Try.ntmps43
  go_wp2
  go_loopw [5] (fun i wr => ∃ (k : Nat) (m : Nat), i = .int .i64 k ∧ k ≤ la ∧ wr = w.drewN m) (fun i _ => la - (intOf i).toNat)
  case atStart => exact ⟨0, 0, rfl, Nat.zero_le _, rfl⟩
  case round =>
    obtain ⟨k, m, rfl, hk, rfl⟩ := hrel
    by_cases hlt : k < la
    · obtain ⟨g1, b1, rfl, hb1, hc1⟩ := HA.out.cells (j := k) (by have := HN.out; omega)
      obtain ⟨g2, b2, rfl, hb2, hc2⟩ := HB.out.cells (j := k) (by have := HN.out; omega)
      rw [hb1] at hb2
      obtain rfl : b1 = b2 := by injection hb2
      clear hb1 hb2
      have hlti : (k : Int) < la := by omega
      go_upto_region 6 with (fail)
      go_quiet (fail)
      go_wp2
      go_roundw
      case rel => exact ⟨k + 1, _, by go_num, by omega, rfl⟩
      case measure => simp [intOf]; omega
    · have : k = la := by omega
      subst this
      go_wp2
      go_ret
      exact ⟨rfl, m, rfl⟩

set_option maxHeartbeats 2000000 in
set_option maxRecDepth 100000 in
theorem sameEntry33 {w : World} {a b : Ent} (h : SameE w a b) :
    Calls Try.prog 33 #[.agg #[.string a.key, .slice a.va a.vl a.vc, .int .u64 a.rev, .int .u64 a.lease], .agg #[.string b.key, .slice b.va b.vl b.vc, .int .u64 b.rev, .int .u64 b.lease]] w fun e w' => e = .returned (.bool true) ∧ w.grownBy w' none := by
  obtain ⟨h1, h2, h3, bs, h4, h5⟩ := h
  have hv : b.vl = a.vl := by rw [h4.1, h5.1]
  obtain ⟨ak, ava, avl, avc, ar, al⟩ := a
  obtain ⟨bk, bva, bvl, bvc, br, bl⟩ := b
  simp only at h1 h2 h3 h4 h5 hv
  subst h1 h2 h3 hv
  have H4 : Hid (ValIs w ava bvl bs) := h4
  have H5 : Hid (ValIs w bva bvl bs) := h5
  clear h4 h5
  have HK : Hid (∀ (o1 o2 : Obj) (g : Nat) (cur : Array Value), w.heap[g]? = some (.cells cur 5 (0, 0)) → ((w.alloc o1).alloc o2).heap[g]? = w.heap[g]?) := by
    intro o1 o2 g cur hg
    have hlt := (Array.getElem?_eq_some_iff.1 hg).1
    rw [Below.heap_alloc _ _ g (by simp; omega), Below.heap_alloc _ _ g hlt]
  go_enter Try.func33, Try.ntmps33
  go_wp2_with (go_at_call 43; refine (sameBytes43 (bs := bs) (H4.out.same (HK.out _ _)) (H5.out.same (HK.out _ _))).mono ?_; rintro e w' ⟨rfl, m, rfl⟩)
  go_ret
  refine ⟨rfl, ?_⟩
  have := grownBy_alloc (grownBy_alloc (grownBy_refl w none) (.cells #[.string ak, .slice ava bvl avc, .int .u64 ar, .int .u64 al] 57)) (.cells #[.string ak, .slice bva bvl bvc, .int .u64 ar, .int .u64 al] 57)
  exact ⟨this.os, this.tape, this.output, this.size, this.block⟩

theorem ld57 {b j : Nat} {w : World} {v0 v1 v2 v3 : Value} (h0 : w.cell? ⟨b, j, none⟩ = some v0) (h1 : w.cell? ⟨b, j + 1, none⟩ = some v1) (h2 : w.cell? ⟨b, j + 2, none⟩ = some v2) (h3 : w.cell? ⟨b, j + 3, none⟩ = some v3) :
    (Instr.loadAt 57 (.pointer (some ⟨b, j, none⟩))).run Try.prog w = .ok (.agg #[v0, v1, v2, v3]) w := by go_simp
theorem ix26 {g n cap i : Nat} (w : World) (hi : i < n) (hn : n ≤ 4000000) : (Instr.indexAt 26 (.slice (some ⟨g, 0, none⟩) n cap) (.int .i64 i)).run Try.prog w = .ok (.pointer (some ⟨g, i * 4, none⟩)) w := by
  go_simp

def SameL (w : World) (l1 l2 : List Ent) : Prop := l1.length = l2.length ∧ ∀ (i : Nat) (a b : Ent), l1[i]? = some a → l2[i]? = some b → SameE w a b
theorem SameL.same {w w' : World} {a b : List Ent} (h : SameL w a b) (hk : ∀ (g : Nat) (cur : Array Value), w.heap[g]? = some (.cells cur 5 (0, 0)) → w'.heap[g]? = w.heap[g]?) : SameL w' a b :=
  ⟨h.1, fun i x y hx hy => (h.2 i x y hx hy).same hk⟩
theorem grown_bytes {w w' : World} (h : w.grownBy w' none) : ∀ (g : Nat) (cur : Array Value), w.heap[g]? = some (.cells cur 5 (0, 0)) → w'.heap[g]? = w.heap[g]? :=
  fun g cur hg => h.block g (Array.getElem?_eq_some_iff.1 hg).1 (by simp)

set_option maxHeartbeats 2000000 in
set_option maxRecDepth 100000 in
theorem sameList16 {w : World} {v1 v2 : Value} {l1 l2 : List Ent} (h1 : OwnE w 57 v1 l1) (h2 : OwnE w 57 v2 l2) (hs : SameL w l1 l2) (hlen : l1.length ≤ 4000000) :
    Calls Try.prog 16 #[v1, v2] w fun e w' => e = .returned (.bool true) ∧ w.grownBy w' none := by
  have hl := hs.1
  rcases h1.form with ⟨rfl, rfl⟩ | ⟨g1, c1, rfl, hg1, hn1, hm1⟩
  · obtain rfl : l2 = [] := List.eq_nil_of_length_eq_zero hl.symm
    rcases h2.form with ⟨rfl, _⟩ | ⟨g2, c2, rfl, hg2, hn2, hm2⟩
    · clear h1 h2 hs hl hlen
      go_enter Try.func16, Try.ntmps16
      go_wp2
      go_loopw [5] (fun i wr => i = .int .i64 0 ∧ wr = w) (fun i _ => 0)
      case atStart => exact ⟨rfl, rfl⟩
      case round =>
        obtain ⟨rfl, rfl⟩ := hrel
        go_wp2
        go_ret
        exact ⟨rfl, grownBy_refl _ _⟩
    · clear h1 h2 hs hl hlen
      go_enter Try.func16, Try.ntmps16
      go_wp2
      go_loopw [5] (fun i wr => i = .int .i64 0 ∧ wr = w) (fun i _ => 0)
      case atStart => exact ⟨rfl, rfl⟩
      case round =>
        obtain ⟨rfl, rfl⟩ := hrel
        go_wp2
        go_ret
        exact ⟨rfl, grownBy_refl _ _⟩
  · rcases h2.form with ⟨rfl, rfl⟩ | ⟨g2, c2, rfl, hg2, hn2, hm2⟩
    · obtain rfl : l1 = [] := List.eq_nil_of_length_eq_zero hl
      clear h1 h2 hs hl hlen
      go_enter Try.func16, Try.ntmps16
      go_wp2
      go_loopw [5] (fun i wr => i = .int .i64 0 ∧ wr = w) (fun i _ => 0)
      case atStart => exact ⟨rfl, rfl⟩
      case round =>
        obtain ⟨rfl, rfl⟩ := hrel
        go_wp2
        go_ret
        exact ⟨rfl, grownBy_refl _ _⟩
    · obtain ⟨n, hn⟩ : ∃ n, n = l1.length := ⟨_, rfl⟩
      have hn2' : n = l2.length := by omega
      have h2' : OwnE w 57 (.slice (some ⟨g2, 0, none⟩) n c2) l2 := by rw [hn2']; exact h2
      have h1' : OwnE w 57 (.slice (some ⟨g1, 0, none⟩) n c1) l1 := by rw [hn]; exact h1
      rw [← hn2'] at hn2 ⊢
      rw [← hn] at hn1 hlen ⊢
      clear h1 h2
      have h1 := h1'
      have h2 := h2'
      clear h1' h2'
      have H1 : Hid (OwnE w 57 (.slice (some ⟨g1, 0, none⟩) n c1) l1) := h1
      have H2 : Hid (OwnE w 57 (.slice (some ⟨g2, 0, none⟩) n c2) l2) := h2
      have HN : Hid (n = l1.length ∧ n = l2.length) := ⟨hn, hn2'⟩
      have HS : Hid (SameL w l1 l2) := hs
      clear h1 h2 hn hn2' hs hl
      go_enter Try.func16, Try.ntmps16
      go_wp2
      go_loopw [5] (fun i wr => ∃ (k : Nat), i = .int .i64 k ∧ k ≤ n ∧ w.grownBy wr none) (fun i _ => n - (intOf i).toNat)
      case atStart => exact ⟨0, rfl, Nat.zero_le _, grownBy_refl _ _⟩
      case round =>
        obtain ⟨k, rfl, hk, hgr⟩ := hrel
        have HG : Hid (w.grownBy wr none) := hgr
        clear hgr
        by_cases hlt : k < n
        · obtain ⟨a, ha⟩ : ∃ a, l1[k]? = some a := ⟨_, List.getElem?_eq_getElem (by have := HN.out; omega)⟩
          obtain ⟨b, hb⟩ : ∃ b, l2[k]? = some b := ⟨_, List.getElem?_eq_getElem (by have := HN.out; omega)⟩
          have HSE : Hid (SameE w a b) := HS.out.2 k a b ha hb
          have HA : Hid (l1[k]? = some a ∧ l2[k]? = some b) := ⟨ha, hb⟩
          clear ha hb
          have hlti : (k : Int) < n := by omega
          go_upto_region 6 with (fail)
          refine region_lexS [0, 1, 2, 3, 4, 5, 6, 7] [8, 9] (fun w' => w.grownBy w' none) (by kernel_rfl) (by kernel_rfl) (fun _ _ d _ _ h => by cases d <;> exact h) (grownBy_drew HG.out) ?_
          have y1 : ∀ w', w.grownBy w' none → w'.cell? ⟨g1, k * 4, none⟩ = some (.string a.key) ∧ w'.cell? ⟨g1, k * 4 + 1, none⟩ = some (.slice a.va a.vl a.vc) ∧ w'.cell? ⟨g1, k * 4 + 2, none⟩ = some (.int .u64 a.rev) ∧ w'.cell? ⟨g1, k * 4 + 3, none⟩ = some (.int .u64 a.lease) := fun w' hw' => OwnE.cell (w := w') (World.ownsRow.kept H1.out hw' (.inr (by simp [Value.ownBlock]))) HN.out.1 HA.out.1
          have y2 : ∀ w', w.grownBy w' none → w'.cell? ⟨g2, k * 4, none⟩ = some (.string b.key) ∧ w'.cell? ⟨g2, k * 4 + 1, none⟩ = some (.slice b.va b.vl b.vc) ∧ w'.cell? ⟨g2, k * 4 + 2, none⟩ = some (.int .u64 b.rev) ∧ w'.cell? ⟨g2, k * 4 + 3, none⟩ = some (.int .u64 b.lease) := fun w' hw' => OwnE.cell (w := w') (World.ownsRow.kept H2.out hw' (.inr (by simp [Value.ownBlock]))) HN.out.2 HA.out.2
          refine reads_cons (.slice (some ⟨g1, 0, none⟩) n c1) (fun w' hw' => rfl) ?_
          simp only [Act.put, List.setIfInBounds_toArray, List.set_cons_succ, List.set_cons_zero]
          refine reads_cons (.int .i64 k) (fun w' hw' => rfl) ?_
          simp only [Act.put, List.setIfInBounds_toArray, List.set_cons_succ, List.set_cons_zero]
          refine reads_cons (.pointer (some ⟨g1, k * 4, none⟩)) (fun w' hw' => rd_index (ix26 w' hlt hlen) rfl rfl rfl) ?_
          simp only [Act.put, List.setIfInBounds_toArray, List.set_cons_succ, List.set_cons_zero]
          refine reads_cons (.agg #[.string a.key, .slice a.va a.vl a.vc, .int .u64 a.rev, .int .u64 a.lease]) (fun w' hw' => rd_load (ld57 (y1 w' hw').1 (y1 w' hw').2.1 (y1 w' hw').2.2.1 (y1 w' hw').2.2.2) rfl rfl) ?_
          simp only [Act.put, List.setIfInBounds_toArray, List.set_cons_succ, List.set_cons_zero]
          refine reads_cons (.slice (some ⟨g2, 0, none⟩) n c2) (fun w' hw' => rfl) ?_
          simp only [Act.put, List.setIfInBounds_toArray, List.set_cons_succ, List.set_cons_zero]
          refine reads_cons (.int .i64 k) (fun w' hw' => rfl) ?_
          simp only [Act.put, List.setIfInBounds_toArray, List.set_cons_succ, List.set_cons_zero]
          refine reads_cons (.pointer (some ⟨g2, k * 4, none⟩)) (fun w' hw' => rd_index (ix26 w' hlt hlen) rfl rfl rfl) ?_
          simp only [Act.put, List.setIfInBounds_toArray, List.set_cons_succ, List.set_cons_zero]
          refine reads_cons (.agg #[.string b.key, .slice b.va b.vl b.vc, .int .u64 b.rev, .int .u64 b.lease]) (fun w' hw' => rd_load (ld57 (y2 w' hw').1 (y2 w' hw').2.1 (y2 w' hw').2.2.1 (y2 w' hw').2.2.2) rfl rfl) ?_
          simp only [Act.put, List.setIfInBounds_toArray, List.set_cons_succ, List.set_cons_zero]
          refine reads_nil ?_
          refine sS_call 33 #[.agg #[.string a.key, .slice a.va a.vl a.vc, .int .u64 a.rev, .int .u64 a.lease], .agg #[.string b.key, .slice b.va b.vl b.vc, .int .u64 b.rev, .int .u64 b.lease]] _ (by go_simp) (sameEntry33 (HSE.out.same (grown_bytes (grownBy_drew HG.out)))) ?_
          rintro e w3 ⟨rfl, hg3⟩
          have hg4 := grownBy_trans (grownBy_drew HG.out) hg3
          refine ⟨_, rfl, hg4, ?_⟩
          simp only [Act.put, List.setIfInBounds_toArray, List.set_cons_succ, List.set_cons_zero]
          refine sS_value (.bool false) w3 (by go_simp) hg4 ?_
          simp only [Act.put, List.setIfInBounds_toArray, List.set_cons_succ, List.set_cons_zero]
          refine sS_nil ?_
          have HG4 : Hid (w.grownBy w3 none) := hg4
          clear hg3 hg4 y1 y2
          go_wp2_with fail
          go_roundw
          case rel => exact ⟨k + 1, by go_num, by omega, HG4.out⟩
          case measure => simp [intOf]; omega
        · have : k = n := by omega
          subst this
          go_wp2
          go_ret
          exact ⟨rfl, HG.out⟩

end Go.Proofs.Qxb6601706a
