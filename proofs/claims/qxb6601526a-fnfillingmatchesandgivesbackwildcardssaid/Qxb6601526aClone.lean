import Derived.Test.Qxb6601526aBase
namespace Go.Proofs.Qxb6601526a
open Go.RowKit
set_option linter.unusedVariables false
set_option linter.unusedSimpArgs false

theorem Try.info9 : (Try.prog.info? 9).map (fun i => (i.zero, i.size, i.bytes)) = some (some (.string ByteArray.empty), 1, 16) := by kernel_rfl

/-- the cells of the copy behind k rounds -/
def cl (ss : List ByteArray) (k : Nat) : List Value := (ss.take k).map Value.string ++ List.replicate (ss.length - k) (.string ByteArray.empty)

theorem cl_zero (ss : List ByteArray) : cl ss 0 = List.replicate ss.length (.string ByteArray.empty) := by simp [cl]
theorem cl_all (ss : List ByteArray) : cl ss ss.length = ss.map Value.string := by simp [cl]
theorem cl_len (ss : List ByteArray) (k : Nat) (h : k ≤ ss.length) : (cl ss k).length = ss.length := by simp [cl]; omega
theorem cl_set (ss : List ByteArray) (k : Nat) (h : k < ss.length) : (cl ss k).set k (.string (ss.getD k ByteArray.empty)) = cl ss (k + 1) := by
  apply List.ext_getElem
  · rw [List.length_set, cl_len _ _ (by omega), cl_len _ _ (by omega)]
  · intro i h1 h2
    rw [List.getElem_set]
    have hi : i < ss.length := by rw [cl_len _ _ (by omega)] at h2; exact h2
    simp only [cl]
    by_cases e : k = i
    · subst e
      rw [if_pos rfl, List.getElem_append_left (by simp; omega)]
      simp [List.getD, hi]
    · rw [if_neg e]
      by_cases hlt : i < k
      · rw [List.getElem_append_left (by simp; omega), List.getElem_append_left (by simp; omega)]
        simp
      · rw [List.getElem_append_right (by simp; omega), List.getElem_append_right (by simp; omega)]
        simp

/-- A row that the call made, as a 'Row'. -/
theorem Row.ofOwns {w : World} {base g n cap : Nat} {ss : List ByteArray} (h : w.ownsRow base 9 1 (.slice (some ⟨g, 0, none⟩) n cap) n (ss.map Value.string)) (hn : ss.length = n) (hcap : n ≤ cap) (hm : cap ≤ maxLen) (hsm : ∀ s ∈ ss, s.size ≤ maxLen) :
    Row w (some ⟨g, 0, none⟩) cap ss := by
  refine ⟨by omega, hm, by simp, hsm, .inr ⟨g, 0, rfl, (h.lt g rfl).2, fun i hi => ?_⟩⟩
  rw [Nat.zero_add, h.cellAt i (by omega)]
  simp [List.getD, hi]

def CloneSays (w : World) (ss : List ByteArray) (e : Ending) (w' : World) : Prop :=
  ∃ a cap, e = .returned (.slice a ss.length cap) ∧ Row w' a cap ss ∧ Below w.heap.size w w'

set_option maxHeartbeats 400000 in
/-- cloneStrs -/
theorem clone_any (a : Option Addr) (cap : Nat) (ss : List ByteArray) (w : World) (h : Row w a cap ss) (hb : 16 * ss.length ≤ 1048576) :
    Calls Try.prog 9 #[.slice a ss.length cap] w fun e w' => CloneSays w ss e w' := by
  have hl := h.lenLe
  have hm := h.capLe
  obtain ⟨i0, hi, hz0, hz1, hz2⟩ := info_parts Try.info9
  have hcs : ∀ i, i < ss.length → ∃ b off, a = some ⟨b, off, none⟩ ∧ b < w.heap.size ∧ w.cell? ⟨b, off + i, none⟩ = some (.string (ss.getD i ByteArray.empty)) := by
    intro i hi
    rcases h.cells with h | ⟨b, off, rfl, hbw, hc⟩
    · subst h; simp at hi
    · exact ⟨b, off, rfl, hbw, hc i hi⟩
  have hnil := fun w => Lib.run_eql_slice_nil (P := Try.prog) w 22 9 a ss.length cap 0 0 Try.underlying22
  cases a with
  | none =>
    obtain ⟨rfl, rfl⟩ := h.nilLen
    have hnil0 := fun w => Lib.run_eql_slice_nil (P := Try.prog) w 22 9 none 0 0 0 0 Try.underlying22
    clear hnil
    go_enter Try.func9, Try.ntmps9
    go_wp2
    go_ret
    exact ⟨none, 0, rfl, h, Below.refl _ _⟩
  | some x =>
    have HSM : Hid (∀ s ∈ ss, s.size ≤ maxLen) := h.small
    unfold maxLen at hm
    clear h
    go_enter Try.func9, Try.ntmps9
    go_wp2_with (at_make; refine wpList_make_full _ rfl _ _ 22 rfl w.heap.size 9 i0 (.string ByteArray.empty) 1 Try.underlying22 hi hz0 hz1 .i64 .i64 _ _ ss.length rfl rfl rfl rfl (by rw [hz2]; omega) (by unfold maxLen; omega) (Nat.le_refl _) ?_; intro w1 hown1 hgrow1)
    have hb1 : Below w.heap.size w w1 := (Below.refl _ _).grown hgrow1 (Nat.le_refl _) (by simp)
    rw [show (Value.string ByteArray.empty).cells = #[.string ByteArray.empty] from rfl, toList_madeCells_one, Nat.mul_one, ← cl_zero] at hown1
    clear hgrow1 hi hz0 hz1 hz2
    go_loopw [4] (fun i wr => ∃ k : Nat, k ≤ ss.length ∧ i = .int .i64 k ∧ wr.ownsRow w.heap.size 9 1 (.slice (some ⟨w.heap.size, 0, none⟩) ss.length ss.length) ss.length (cl ss k) ∧ Below w.heap.size w wr) (fun i _ => ss.length - (intOf i).toNat)
    case atStart => exact ⟨0, Nat.zero_le _, rfl, hown1, hb1⟩
    case round =>
      obtain ⟨k, hk, rfl, hown, hbr⟩ := hrel
      clear hown1 hb1
      by_cases hlt : k < ss.length
      · obtain ⟨b, off, hx, hbw, hc⟩ := hcs k hlt
        injection hx with hx
        subst hx
        have hc1 : wr.cell? ⟨b, off + k, none⟩ = some (.string (ss.getD k ByteArray.empty)) := (hbr.cell (p := ⟨b, off + k, none⟩) hbw).trans hc
        have hst := hown.stored k (.string (ss.getD k ByteArray.empty))
        rw [cl_set ss k hlt] at hst
        have hfz := hown.frozenAt k
        have hcl := hown.cellAt k (by omega)
        rw [List.getElem?_eq_getElem (by rw [cl_len _ _ hk]; exact hlt)] at hcl
        have HST : Hid _ := hst
        have HB : Hid _ := hbr
        clear hst hbr hown hc hcs
        generalize ss.getD k ByteArray.empty = s at hc1 HST
        generalize (cl ss k)[k]'(by rw [cl_len _ _ hk]; exact hlt) = old at hcl
        go_wp2
        go_roundw
        case rel => exact ⟨k + 1, by omega, by go_num, HST.out.1, HB.out.trans ((Below.refl _ _).grown HST.out.2 HB.out.size (by simp))⟩
        case measure => simp [intOf]; omega
      · have hke : k = ss.length := by omega
        have HO : Hid _ := hown
        clear hcs hown
        go_wp2
        go_ret
        subst hke
        have ho := HO.out
        rw [cl_all] at ho
        exact ⟨_, _, rfl, Row.ofOwns ho rfl (Nat.le_refl _) (by unfold maxLen; omega) HSM.out, hbr⟩

end Go.Proofs.Qxb6601526a
