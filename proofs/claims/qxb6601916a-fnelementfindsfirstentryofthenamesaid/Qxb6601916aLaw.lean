import Derived.Test.Qxb6601916aElem
import Derived.LaidEqlPtr
namespace Go.Proofs.Qxb6601916a
open Go.RowKit
set_option linter.unusedVariables false
set_option linter.unusedSimpArgs false

def TrueSays (w : World) (e : Ending) (w' : World) : Prop := e = .returned (.bool true) ∧ Below w.heap.size w w'

set_option maxHeartbeats 1000000 in
theorem law3 (a : Option Addr) (n cap : Nat) (nm : Nat → ByteArray) (pt0 : Nat → Option Addr) (name : ByteArray) (w : World) (hr : Ents w a n cap nm pt0) (hh : Held w n pt0) (hs : name.size ≤ maxLen) :
    Calls Try.prog 3 #[.slice a n cap, .string name] w fun e w' => TrueSays w e w' := by
  have hl := hr.lenLe
  have hm := hr.capLe
  have HSM : Hid (∀ i, i < n → (nm i).size ≤ maxLen) := hr.small
  have HN : Hid (name.size ≤ maxLen) := hs
  unfold maxLen at hm hs
  go_enter Try.func3, Try.ntmps3
  go_wp2_with fail
  refine (bytes5_any a n cap nm pt0 name w hr hh HN.out).mono ?_
  rintro e w' ⟨ok, rfl, rfl⟩
  cases ok
  · go_wp2_with fail
    go_ret
    exact ⟨rfl, Below.refl _ _⟩
  · by_cases h1 : 65536 < n
    · go_wp2_with fail
      go_ret
      exact ⟨rfl, Below.refl _ _⟩
    · by_cases h2 : 1048576 < name.size
      · go_wp2_with fail
        go_ret
        exact ⟨rfl, Below.refl _ _⟩
      · go_wp2_with fail
        refine (sum6_any a n cap nm pt0 w' hr hh).mono ?_
        rintro e w'' ⟨m, rfl, rfl, hm0, hm1, hm2⟩
        by_cases h3 : 1048576 < m + name.size
        · go_wp2_with fail
          go_ret
          exact ⟨rfl, Below.refl _ _⟩
        · have hn := hm2 (by omega)
          go_wp2_with fail
          refine (copy7_any a n cap nm pt0 w'' hr hh hn).mono ?_
          rintro e w1 ⟨a1, cap1, pt, rfl, hr1, hb1⟩
          go_wp2_with fail
          refine (split8_any a1 n cap1 nm pt w1 hr1 hn).mono ?_
          rintro e w2 ⟨x, y, rfl, hx, hy, hb2⟩
          have hr2 := hr1.below hb2
          go_wp2_with fail
          refine (zz9_any x y n nm pt name w2 hx hy hn HSM.out).mono ?_
          rintro e w3 ⟨rfl, hb3⟩
          have hcs := (hr2.below hb3).cells
          have HB3 : Hid (Below w''.heap.size w'' w3) := (hb1.trans (hb2.mono hb1.size)).trans (hb3.mono (Nat.le_trans hb1.size hb2.size))
          clear hr hh hr1 hr2 hx hy hb1 hb2 hb3
          go_wp2_with fail
          go_loop [8, 9] (fun v i => ∃ z : Int, -1 ≤ z ∧ z < n ∧ i = .int .i64 z ∧ v = .pointer (find nm pt name (n - (z + 1).toNat) (z + 1).toNat)) (fun _ i => (intOf i + 1).toNat)
          case atStart => exact ⟨n - 1, by omega, by omega, rfl, by rw [show ((n : Int) - 1 + 1).toNat = n from by omega, Nat.sub_self]; rfl⟩
          case round =>
            obtain ⟨z, hz0, hz1, rfl, rfl⟩ := hrel
            by_cases hz : 0 ≤ z
            · obtain ⟨k, rfl⟩ := Int.eq_ofNat_of_zero_le hz
              obtain ⟨b, off, rfl, hbw, hc1, hc2⟩ := hcs k (by omega)
              clear hcs
              rw [show ((k : Int) + 1).toNat = k + 1 from by omega]
              cases hst : ((nm k).toList == name.toList)
              · have HF : Hid (_ = _) := find_miss nm pt name n k (by omega) hst
                generalize find nm pt name (n - (k + 1)) (k + 1) = F at HF
                go_wp2
                go_round
                case rel => exact ⟨k - 1, by omega, by omega, by go_num, by rw [show ((k : Int) - 1 + 1).toNat = k from by omega, HF.out]⟩
                case measure => simp [intOf]
              · have HF : Hid (_ = _) := find_hit nm pt name n k (by omega) hst
                go_wp2
                go_round
                case rel => exact ⟨k - 1, by omega, by omega, by go_num, by rw [show ((k : Int) - 1 + 1).toNat = k from by omega, HF.out]⟩
                case measure => simp [intOf]
            · have hz' : z = -1 := by omega
              subst hz'
              clear hcs
              rw [show ((-1 : Int) + 1).toNat = 0 from rfl, Nat.sub_zero]
              generalize find nm pt name n 0 = F
              obtain ⟨i0, hi, _⟩ := info_parts Try.info9
              have hsame := fun w p => run_eql_ptr_same (P := Try.prog) w (tp := 30) (te := 9) p Try.underlying30 hi
              cases F
              · go_wp2
                go_ret
                exact ⟨by simp, HB3.out⟩
              · go_wp2
                go_ret
                exact ⟨by simp, HB3.out⟩

end Go.Proofs.Qxb6601916a
