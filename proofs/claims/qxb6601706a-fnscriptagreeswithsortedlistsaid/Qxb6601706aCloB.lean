import Derived.Test.Qxb6601706aNT
namespace Go.Proofs.Qxb6601706a
open Go.RowKit
set_option linter.unusedVariables false
set_option linter.unusedSimpArgs false

theorem Try.info5 : (Try.prog.info? 5).map (fun i => (i.zero, i.size, i.bytes)) = some (some (.int .u8 0), 1, 1) := by kernel_rfl
theorem Try.under45 : Try.prog.underlying 45 = some (.slice 5) := by kernel_rfl

def bv (b : UInt8) : Value := .int .u8 b.toNat
def clB (bs : List UInt8) (k : Nat) : List Value := (bs.take k).map bv ++ List.replicate (bs.length - k) (.int .u8 0)
theorem clB_zero (bs : List UInt8) : clB bs 0 = List.replicate bs.length (.int .u8 0) := by simp [clB]
theorem clB_len (bs : List UInt8) (k : Nat) (h : k ≤ bs.length) : (clB bs k).length = bs.length := by simp [clB]; omega
theorem clB_all (bs : List UInt8) : clB bs bs.length = bs.map bv := by simp [clB]
theorem clB_set (bs : List UInt8) (k : Nat) (b : UInt8) (h : bs[k]? = some b) : (clB bs k).set k (bv b) = clB bs (k + 1) := by
  have hk : k < bs.length := (List.getElem?_eq_some_iff.1 h).1
  unfold clB
  rw [List.set_append_right _ _ (by simp; omega), List.take_add_one, h]
  have : bs.length - k = (bs.length - (k + 1)) + 1 := by omega
  rw [this, List.replicate_succ]
  simp only [List.length_map, List.length_take, Nat.min_eq_left (Nat.le_of_lt hk), Nat.sub_self, List.set_cons_zero, Option.toList_some, List.map_append, List.map_cons, List.map_nil, List.append_assoc, List.singleton_append]

def CloBSays (w : World) (vl : Nat) (bs : List UInt8) (e : Ending) (w' : World) : Prop :=
  ∃ va' vc', e = .returned (.slice va' vl vc') ∧ ValIs w' va' vl bs ∧ w.grownBy w' none ∧ (vl = 0 ∨ ∃ g, va' = some ⟨g, 0, none⟩ ∧ w.heap.size ≤ g)

theorem owns_val {w : World} {g n cap base : Nat} {bs : List UInt8} (h : w.ownsRow base 5 1 (.slice (some ⟨g, 0, none⟩) n cap) n (bs.map bv)) (hn : n = bs.length) (hl : bs.length ≤ 1048576) : ValIs w (some ⟨g, 0, none⟩) n bs := by
  rcases h.2 with ⟨h1, _⟩ | ⟨g', cap', cur, hv, _, hg, _, _, _, htk⟩
  · simp at h1
  · simp only [Value.slice.injEq, Option.some.injEq, Addr.mk.injEq, and_true, true_and] at hv
    obtain ⟨rfl, rfl⟩ := hv
    refine ⟨hn, hl, .inr ⟨g, cur, rfl, hg, fun j b hb => ?_⟩⟩
    have h2 : (bs.map bv)[j]? = some (bv b) := by rw [List.getElem?_map, hb]; rfl
    rw [← htk, List.getElem?_take] at h2
    split at h2
    · simpa [bv] using h2
    · cases h2

set_option maxHeartbeats 4000000 in
set_option maxRecDepth 100000 in
theorem cloneBytes21 (w : World) (va : Option Addr) (vl vc : Nat) (bs : List UInt8) (hvl : vl = bs.length) (hle : vl ≤ 1048576) (hform : va = none → vl = 0) (hcs : ∀ (j : Nat) (b : UInt8), bs[j]? = some b → ∃ g o, va = some ⟨g, o, none⟩ ∧ w.cell? ⟨g, o + j, none⟩ = some (.int .u8 b.toNat)) :
    Calls Try.prog 21 #[.slice va vl vc] w (CloBSays w vl bs) := by
  obtain ⟨i0, hi, hz0, hz1, hz2⟩ := info_parts Try.info5
  have HVL : Hid (vl = bs.length) := hvl
  have HCS : Hid (∀ (j : Nat) (b : UInt8), bs[j]? = some b → ∃ g o, va = some ⟨g, o, none⟩ ∧ w.cell? ⟨g, o + j, none⟩ = some (.int .u8 b.toNat)) := hcs
  have hnil := fun w => Lib.run_eql_slice_nil (P := Try.prog) w 45 5 va vl vc 0 0 Try.under45
  clear hvl hcs
  cases va with
  | none =>
    have h0 : vl = 0 := hform rfl
    subst h0
    have HB : Hid (bs = []) := List.eq_nil_of_length_eq_zero HVL.out.symm
    go_enter Try.func21, Try.ntmps21
    go_wp2
    go_ret
    exact ⟨none, 0, rfl, ⟨HVL.out, by rw [HB.out]; simp, .inl HB.out⟩, grownBy_refl _ _, .inl rfl⟩
  | some x =>
    clear hform
    go_enter Try.func21, Try.ntmps21
    go_wp2_with (at_make; refine wpList_make_full _ rfl _ _ 45 rfl w.heap.size 5 i0 (.int .u8 0) 1 Try.under45 hi hz0 hz1 .i64 .i64 _ _ vl rfl rfl rfl rfl (by rw [hz2]; omega) (by unfold maxLen; omega) (Nat.le_refl _) ?_; intro w1 hown1 hgrow1)
    rw [show (Value.int IntKind.u8 0).cells = #[.int .u8 0] from rfl, toList_madeCells_one, Nat.mul_one, HVL.out, ← clB_zero, ← HVL.out] at hown1
    have HG1 : Hid (w.grownBy w1 none) := hgrow1
    clear hgrow1 hi hz0 hz1 hz2
    go_loopw [4] (fun i wr => ∃ k : Nat, k ≤ vl ∧ i = .int .i64 k ∧ wr.ownsRow w.heap.size 5 1 (.slice (some ⟨w.heap.size, 0, none⟩) vl vl) vl (clB bs k) ∧ w.grownBy wr none) (fun i _ => vl - (intOf i).toNat)
    case atStart => exact ⟨0, Nat.zero_le _, rfl, hown1, HG1.out⟩
    case round =>
      obtain ⟨k, hk, rfl, hown, hbr⟩ := hrel
      clear hown1
      by_cases hlt : k < vl
      · obtain ⟨b, hb⟩ : ∃ b, bs[k]? = some b := ⟨_, List.getElem?_eq_getElem (by have := HVL.out; omega)⟩
        obtain ⟨g, off, hx, hc⟩ := HCS.out k b hb
        injection hx with hx
        subst hx
        have hc1 : wr.cell? ⟨g, off + k, none⟩ = some (.int .u8 b.toNat) := cell_kept (hbr.block g (World.block_lt_of_cell? w ⟨g, off + k, none⟩ hc) (by simp)) hc
        have hst := hown.stored k (bv b)
        rw [clB_set bs k b hb] at hst
        have hfz := hown.frozenAt k
        have hcl := hown.cellAt k (by omega)
        rw [List.getElem?_eq_getElem (by rw [clB_len _ _ (by have := HVL.out; omega)]; have := HVL.out; omega)] at hcl
        have hlen := clB_len bs k (by have := HVL.out; omega)
        generalize (clB bs k)[k]'_ = old at hcl
        have HST : Hid _ := hst
        have HB : Hid _ := hbr
        clear hst hbr hown hc hb hlen
        go_wp2
        go_roundw
        case rel =>
          refine ⟨k + 1, by omega, by go_num, HST.out.1, ?_⟩
          have h1 : wr.grownBy (wr.setCell ⟨w.heap.size, k, none⟩ (.int .u8 b.toNat)) _ := HST.out.2
          refine ⟨h1.os.trans HB.out.os, h1.tape.trans HB.out.tape, h1.output.trans HB.out.output, Nat.le_trans HB.out.size h1.size, fun j hj _ => ?_⟩
          rw [h1.block j (Nat.lt_of_lt_of_le hj HB.out.size) (by simp [Value.ownBlock]; omega), HB.out.block j hj (by simp)]
        case measure => simp [intOf] <;> omega
      · have hke : k = vl := by omega
        have HO : Hid _ := hown
        have HB : Hid _ := hbr
        clear hown hbr
        subst hke
        go_wp2
        go_ret
        have ho := HO.out
        rw [HVL.out, clB_all, ← HVL.out] at ho
        exact ⟨_, _, rfl, owns_val ho HVL.out (by have := HVL.out; omega), HB.out, .inr ⟨_, rfl, Nat.le_refl _⟩⟩

end Go.Proofs.Qxb6601706a
