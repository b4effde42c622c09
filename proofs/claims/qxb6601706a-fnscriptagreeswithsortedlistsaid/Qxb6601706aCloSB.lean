import Derived.Test.Qxb6601706aNT
namespace Go.Proofs.Qxb6601706a
open Go.RowKit
set_option linter.unusedVariables false
set_option linter.unusedSimpArgs false

theorem Try.info9 : (Try.prog.info? 9).map (fun i => (i.zero, i.size, i.bytes)) = some (some (.string ByteArray.empty), 1, 16) := by kernel_rfl
theorem Try.under62 : Try.prog.underlying 62 = some (.slice 9) := by kernel_rfl
def bvS (b : ByteArray) : Value := .string b
def clBS (bs : List ByteArray) (k : Nat) : List Value := (bs.take k).map bvS ++ List.replicate (bs.length - k) (.string ByteArray.empty)
theorem clBS_zero (bs : List ByteArray) : clBS bs 0 = List.replicate bs.length (.string ByteArray.empty) := by simp [clBS]
theorem clBS_len (bs : List ByteArray) (k : Nat) (h : k ≤ bs.length) : (clBS bs k).length = bs.length := by simp [clBS]; omega
theorem clBS_all (bs : List ByteArray) : clBS bs bs.length = bs.map bvS := by simp [clBS]
theorem clBS_set (bs : List ByteArray) (k : Nat) (b : ByteArray) (h : bs[k]? = some b) : (clBS bs k).set k (bvS b) = clBS bs (k + 1) := by
  have hk : k < bs.length := (List.getElem?_eq_some_iff.1 h).1
  unfold clBS
  rw [List.set_append_right _ _ (by simp; omega), List.take_add_one, h]
  have : bs.length - k = (bs.length - (k + 1)) + 1 := by omega
  rw [this, List.replicate_succ]
  simp only [List.length_map, List.length_take, Nat.min_eq_left (Nat.le_of_lt hk), Nat.sub_self, List.set_cons_zero, Option.toList_some, List.map_append, List.map_cons, List.map_nil, List.append_assoc, List.singleton_append]

def CloSSays (w : World) (vl : Nat) (bs : List ByteArray) (e : Ending) (w' : World) : Prop :=
  ∃ va' vc', e = .returned (.slice va' vl vc') ∧ w.grownBy w' none ∧ (vl = 0 ∨ ∃ g, va' = some ⟨g, 0, none⟩ ∧ w.heap.size ≤ g ∧ w'.ownsRow w.heap.size 9 1 (.slice va' vl vc') vl (bs.map bvS))

set_option maxHeartbeats 4000000 in
set_option maxRecDepth 100000 in
theorem cloneS28 (w : World) (va : Option Addr) (vl vc : Nat) (bs : List ByteArray) (hvl : vl = bs.length) (hle : vl ≤ 1048576) (hform : va = none → vl = 0) (hcs : ∀ (j : Nat) (b : ByteArray), bs[j]? = some b → ∃ g o, va = some ⟨g, o, none⟩ ∧ w.cell? ⟨g, o + j, none⟩ = some (.string b)) :
    Calls Try.prog 28 #[.slice va vl vc] w (CloSSays w vl bs) := by
  obtain ⟨i0, hi, hz0, hz1, hz2⟩ := info_parts Try.info9
  have HVL : Hid (vl = bs.length) := hvl
  have HCS : Hid (∀ (j : Nat) (b : ByteArray), bs[j]? = some b → ∃ g o, va = some ⟨g, o, none⟩ ∧ w.cell? ⟨g, o + j, none⟩ = some (.string b)) := hcs
  have hnil := fun w => Lib.run_eql_slice_nil (P := Try.prog) w 62 9 va vl vc 0 0 Try.under62
  clear hvl hcs
  cases va with
  | none =>
    have h0 : vl = 0 := hform rfl
    subst h0
    have HB : Hid (bs = []) := List.eq_nil_of_length_eq_zero HVL.out.symm
    go_enter Try.func28, Try.ntmps28
    go_wp2
    go_ret
    exact ⟨none, 0, rfl, grownBy_refl _ _, .inl rfl⟩
  | some x =>
    clear hform
    go_enter Try.func28, Try.ntmps28
    go_wp2_with (at_make; refine wpList_make_full _ rfl _ _ 62 rfl w.heap.size 9 i0 (.string ByteArray.empty) 1 Try.under62 hi hz0 hz1 .i64 .i64 _ _ vl rfl rfl rfl rfl (by rw [hz2]; omega) (by unfold maxLen; omega) (Nat.le_refl _) ?_; intro w1 hown1 hgrow1)
    rw [show (Value.string ByteArray.empty).cells = #[.string ByteArray.empty] from rfl, toList_madeCells_one, Nat.mul_one, HVL.out, ← clBS_zero, ← HVL.out] at hown1
    have HG1 : Hid (w.grownBy w1 none) := hgrow1
    clear hgrow1 hi hz0 hz1 hz2
    go_loopw [4] (fun i wr => ∃ k : Nat, k ≤ vl ∧ i = .int .i64 k ∧ wr.ownsRow w.heap.size 9 1 (.slice (some ⟨w.heap.size, 0, none⟩) vl vl) vl (clBS bs k) ∧ w.grownBy wr none) (fun i _ => vl - (intOf i).toNat)
    case atStart => exact ⟨0, Nat.zero_le _, rfl, hown1, HG1.out⟩
    case round =>
      obtain ⟨k, hk, rfl, hown, hbr⟩ := hrel
      clear hown1
      by_cases hlt : k < vl
      · obtain ⟨b, hb⟩ : ∃ b, bs[k]? = some b := ⟨_, List.getElem?_eq_getElem (by have := HVL.out; omega)⟩
        obtain ⟨g, off, hx, hc⟩ := HCS.out k b hb
        injection hx with hx
        subst hx
        have hc1 : wr.cell? ⟨g, off + k, none⟩ = some (.string b) := cell_kept (hbr.block g (World.block_lt_of_cell? w ⟨g, off + k, none⟩ hc) (by simp)) hc
        have hst := hown.stored k (bvS b)
        rw [clBS_set bs k b hb] at hst
        have hfz := hown.frozenAt k
        have hcl := hown.cellAt k (by omega)
        rw [List.getElem?_eq_getElem (by rw [clBS_len _ _ (by have := HVL.out; omega)]; have := HVL.out; omega)] at hcl
        have hlen := clBS_len bs k (by have := HVL.out; omega)
        generalize (clBS bs k)[k]'_ = old at hcl
        have HST : Hid _ := hst
        have HB : Hid _ := hbr
        clear hst hbr hown hc hb hlen
        go_wp2
        go_roundw
        case rel =>
          refine ⟨k + 1, by omega, by go_num, HST.out.1, ?_⟩
          have h1 : wr.grownBy (wr.setCell ⟨w.heap.size, k, none⟩ (.string b)) _ := HST.out.2
          refine ⟨h1.os.trans HB.out.os, h1.tape.trans HB.out.tape, h1.output.trans HB.out.output, Nat.le_trans HB.out.size h1.size, fun j hj _ => ?_⟩
          rw [h1.block j (Nat.lt_of_lt_of_le hj HB.out.size) (by simp [Value.ownBlock]; omega), HB.out.block j hj (by simp)]
        case measure => simp [intOf] <;> omega
      · have hke : k = vl := by omega
        have HO : Hid _ := hown
        have HB : Hid _ := hbr
        clear hown hbr
        subst hke
        go_wp2
        go_ret
        have ho := HO.out
        rw [HVL.out, clBS_all, ← HVL.out] at ho
        exact ⟨_, _, rfl, HB.out, .inr ⟨_, rfl, Nat.le_refl _, ho⟩⟩

theorem Try.info4 : (Try.prog.info? 4).map (fun i => (i.zero, i.size, i.bytes)) = some (some (.bool false), 1, 1) := by kernel_rfl
theorem Try.under63 : Try.prog.underlying 63 = some (.slice 4) := by kernel_rfl
def bvL (b : Bool) : Value := .bool b
def clBL (bs : List Bool) (k : Nat) : List Value := (bs.take k).map bvL ++ List.replicate (bs.length - k) (.bool false)
theorem clBL_zero (bs : List Bool) : clBL bs 0 = List.replicate bs.length (.bool false) := by simp [clBL]
theorem clBL_len (bs : List Bool) (k : Nat) (h : k ≤ bs.length) : (clBL bs k).length = bs.length := by simp [clBL]; omega
theorem clBL_all (bs : List Bool) : clBL bs bs.length = bs.map bvL := by simp [clBL]
theorem clBL_set (bs : List Bool) (k : Nat) (b : Bool) (h : bs[k]? = some b) : (clBL bs k).set k (bvL b) = clBL bs (k + 1) := by
  have hk : k < bs.length := (List.getElem?_eq_some_iff.1 h).1
  unfold clBL
  rw [List.set_append_right _ _ (by simp; omega), List.take_add_one, h]
  have : bs.length - k = (bs.length - (k + 1)) + 1 := by omega
  rw [this, List.replicate_succ]
  simp only [List.length_map, List.length_take, Nat.min_eq_left (Nat.le_of_lt hk), Nat.sub_self, List.set_cons_zero, Option.toList_some, List.map_append, List.map_cons, List.map_nil, List.append_assoc, List.singleton_append]

def CloLSays (w : World) (vl : Nat) (bs : List Bool) (e : Ending) (w' : World) : Prop :=
  ∃ va' vc', e = .returned (.slice va' vl vc') ∧ w.grownBy w' none ∧ (vl = 0 ∨ ∃ g, va' = some ⟨g, 0, none⟩ ∧ w.heap.size ≤ g ∧ w'.ownsRow w.heap.size 4 1 (.slice va' vl vc') vl (bs.map bvL))

set_option maxHeartbeats 4000000 in
set_option maxRecDepth 100000 in
theorem cloneL29 (w : World) (va : Option Addr) (vl vc : Nat) (bs : List Bool) (hvl : vl = bs.length) (hle : vl ≤ 1048576) (hform : va = none → vl = 0) (hcs : ∀ (j : Nat) (b : Bool), bs[j]? = some b → ∃ g o, va = some ⟨g, o, none⟩ ∧ w.cell? ⟨g, o + j, none⟩ = some (.bool b)) :
    Calls Try.prog 29 #[.slice va vl vc] w (CloLSays w vl bs) := by
  obtain ⟨i0, hi, hz0, hz1, hz2⟩ := info_parts Try.info4
  have HVL : Hid (vl = bs.length) := hvl
  have HCS : Hid (∀ (j : Nat) (b : Bool), bs[j]? = some b → ∃ g o, va = some ⟨g, o, none⟩ ∧ w.cell? ⟨g, o + j, none⟩ = some (.bool b)) := hcs
  have hnil := fun w => Lib.run_eql_slice_nil (P := Try.prog) w 63 4 va vl vc 0 0 Try.under63
  clear hvl hcs
  cases va with
  | none =>
    have h0 : vl = 0 := hform rfl
    subst h0
    have HB : Hid (bs = []) := List.eq_nil_of_length_eq_zero HVL.out.symm
    go_enter Try.func29, Try.ntmps29
    go_wp2
    go_ret
    exact ⟨none, 0, rfl, grownBy_refl _ _, .inl rfl⟩
  | some x =>
    clear hform
    go_enter Try.func29, Try.ntmps29
    go_wp2_with (at_make; refine wpList_make_full _ rfl _ _ 63 rfl w.heap.size 4 i0 (.bool false) 1 Try.under63 hi hz0 hz1 .i64 .i64 _ _ vl rfl rfl rfl rfl (by rw [hz2]; omega) (by unfold maxLen; omega) (Nat.le_refl _) ?_; intro w1 hown1 hgrow1)
    rw [show (Value.bool false).cells = #[.bool false] from rfl, toList_madeCells_one, Nat.mul_one, HVL.out, ← clBL_zero, ← HVL.out] at hown1
    have HG1 : Hid (w.grownBy w1 none) := hgrow1
    clear hgrow1 hi hz0 hz1 hz2
    go_loopw [4] (fun i wr => ∃ k : Nat, k ≤ vl ∧ i = .int .i64 k ∧ wr.ownsRow w.heap.size 4 1 (.slice (some ⟨w.heap.size, 0, none⟩) vl vl) vl (clBL bs k) ∧ w.grownBy wr none) (fun i _ => vl - (intOf i).toNat)
    case atStart => exact ⟨0, Nat.zero_le _, rfl, hown1, HG1.out⟩
    case round =>
      obtain ⟨k, hk, rfl, hown, hbr⟩ := hrel
      clear hown1
      by_cases hlt : k < vl
      · obtain ⟨b, hb⟩ : ∃ b, bs[k]? = some b := ⟨_, List.getElem?_eq_getElem (by have := HVL.out; omega)⟩
        obtain ⟨g, off, hx, hc⟩ := HCS.out k b hb
        injection hx with hx
        subst hx
        have hc1 : wr.cell? ⟨g, off + k, none⟩ = some (.bool b) := cell_kept (hbr.block g (World.block_lt_of_cell? w ⟨g, off + k, none⟩ hc) (by simp)) hc
        have hst := hown.stored k (bvL b)
        rw [clBL_set bs k b hb] at hst
        have hfz := hown.frozenAt k
        have hcl := hown.cellAt k (by omega)
        rw [List.getElem?_eq_getElem (by rw [clBL_len _ _ (by have := HVL.out; omega)]; have := HVL.out; omega)] at hcl
        have hlen := clBL_len bs k (by have := HVL.out; omega)
        generalize (clBL bs k)[k]'_ = old at hcl
        have HST : Hid _ := hst
        have HB : Hid _ := hbr
        clear hst hbr hown hc hb hlen
        go_wp2
        go_roundw
        case rel =>
          refine ⟨k + 1, by omega, by go_num, HST.out.1, ?_⟩
          have h1 : wr.grownBy (wr.setCell ⟨w.heap.size, k, none⟩ (.bool b)) _ := HST.out.2
          refine ⟨h1.os.trans HB.out.os, h1.tape.trans HB.out.tape, h1.output.trans HB.out.output, Nat.le_trans HB.out.size h1.size, fun j hj _ => ?_⟩
          rw [h1.block j (Nat.lt_of_lt_of_le hj HB.out.size) (by simp [Value.ownBlock]; omega), HB.out.block j hj (by simp)]
        case measure => simp [intOf] <;> omega
      · have hke : k = vl := by omega
        have HO : Hid _ := hown
        have HB : Hid _ := hbr
        clear hown hbr
        subst hke
        go_wp2
        go_ret
        have ho := HO.out
        rw [HVL.out, clBL_all, ← HVL.out] at ho
        exact ⟨_, _, rfl, HB.out, .inr ⟨_, rfl, Nat.le_refl _, ho⟩⟩

end Go.Proofs.Qxb6601706a
