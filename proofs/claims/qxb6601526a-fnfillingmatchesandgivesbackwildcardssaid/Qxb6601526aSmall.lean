import Derived.Test.Qxb6601526aClone
import Derived.Test.Qxb6601526aGlob
import Derived.Test.Qxb6601526aMath2
namespace Go.Proofs.Qxb6601526a
open Go.RowKit
set_option linter.unusedVariables false
set_option linter.unusedSimpArgs false

def IntSays (w : World) (n : Int) (e : Ending) (w' : World) : Prop := e = .returned (.int .i64 n) ∧ w' = w
def YesSays (w : World) (b : Bool) (e : Ending) (w' : World) : Prop := e = .returned (.bool b) ∧ w' = w

theorem stars_le (ps : List ByteArray) : stars ps ≤ ps.length := List.length_filter_le star ps

set_option maxHeartbeats 400000 in
/-- countStars -/
theorem count_any (a : Option Addr) (cap : Nat) (pat : List ByteArray) (w : World) (hr : Row w a cap pat) (hp : pat.length ≤ 1048576) :
    Calls Try.prog 15 #[.slice a pat.length cap] w fun e w' => IntSays w (stars pat) e w' := by
  have hcs := hr.at
  clear hr
  go_enter Try.func15, Try.ntmps15
  go_wp2
  go_loop [3, 4] (fun t i => ∃ k m : Nat, k ≤ pat.length ∧ i = .int .i64 k ∧ t = .int .i64 m ∧ m ≤ k ∧ Hid (m = stars (pat.take k))) (fun _ i => pat.length - (intOf i).toNat)
  case atStart => exact ⟨0, 0, Nat.zero_le _, rfl, rfl, Nat.le_refl _, rfl⟩
  case round =>
    obtain ⟨k, m, hk, rfl, rfl, hm, HM⟩ := hrel
    by_cases hlt : k < pat.length
    · obtain ⟨b, off, rfl, hbw, hcp⟩ := hcs k hlt
      have HS : Hid (_ = _) := stars_snoc pat k hlt
      clear hcs
      generalize pat.getD k ByteArray.empty = p at hcp HS
      cases hst : (p.toList == [42])
      · have HF : Hid (m = stars (pat.take (k + 1))) := by rw [Hid, HS.out, HM.out, show star p = false from hst]; rfl
        go_wp2
        go_round
        case rel => exact ⟨k + 1, m, by omega, by go_num, rfl, by omega, HF⟩
        case measure => simp [intOf]; omega
      · have HF : Hid (m + 1 = stars (pat.take (k + 1))) := by rw [Hid, HS.out, HM.out, show star p = true from hst]; rfl
        go_wp2
        go_round
        case rel => exact ⟨k + 1, m + 1, by omega, by go_num, by go_num, by omega, HF⟩
        case measure => simp [intOf]; omega
    · clear hcs
      have HF : Hid (m = stars pat) := by rw [Hid, HM.out, List.take_of_length_le (by omega)]
      go_wp2
      go_ret
      exact ⟨by rw [HF.out]; rfl, rfl⟩

theorem all_take (ss : List ByteArray) (k : Nat) (h : k < ss.length) : (ss.take (k + 1)).all ne = ((ss.take k).all ne && ne (ss.getD k ByteArray.empty)) := by
  rw [List.take_succ_eq_append_getElem h, List.all_append]
  simp [List.getD, h]

theorem all_false (ss : List ByteArray) (k : Nat) (h : (ss.take k).all ne = false) : ss.all ne = false := by
  have : ss.all ne = ((ss.take k).all ne && (ss.drop k).all ne) := by rw [← List.all_append, List.take_append_drop]
  rw [this, h]; rfl

set_option maxHeartbeats 400000 in
/-- allNonEmpty -/
theorem nonempty_any (a : Option Addr) (cap : Nat) (ss : List ByteArray) (w : World) (hr : Row w a cap ss) (hp : ss.length ≤ 1048576) :
    Calls Try.prog 16 #[.slice a ss.length cap] w fun e w' => YesSays w (ss.all ne) e w' := by
  have hcs := hr.at
  clear hr
  go_enter Try.func16, Try.ntmps16
  go_wp2
  go_loop [3] (fun i => ∃ k : Nat, k ≤ ss.length ∧ i = .int .i64 k ∧ Hid ((ss.take k).all ne = true)) (fun i => ss.length - (intOf i).toNat)
  case atStart => exact ⟨0, Nat.zero_le _, rfl, rfl⟩
  case round =>
    obtain ⟨k, hk, rfl, HM⟩ := hrel
    by_cases hlt : k < ss.length
    · obtain ⟨b, off, rfl, hbw, hcp⟩ := hcs k hlt
      have HS : Hid (_ = _) := all_take ss k hlt
      clear hcs
      generalize ss.getD k ByteArray.empty = p at hcp HS
      cases hst : p.toList.isEmpty
      · have HF : Hid ((ss.take (k + 1)).all ne = true) := by rw [Hid, HS.out, HM.out, ne, hst]; rfl
        go_wp2
        go_round
        case rel => exact ⟨k + 1, by omega, by go_num, HF⟩
        case measure => simp [intOf]; omega
      · have HF : Hid (ss.all ne = false) := all_false ss (k + 1) (by rw [HS.out, HM.out, ne, hst]; rfl)
        go_wp2
        go_ret
        exact ⟨by rw [HF.out]; rfl, rfl⟩
    · clear hcs
      have HF : Hid (ss.all ne = true) := by have := HM.out; rwa [List.take_of_length_le (by omega)] at this
      go_wp2
      go_ret
      exact ⟨by rw [HF.out]; rfl, rfl⟩

set_option maxHeartbeats 400000 in
/-- equalStrs at two slices of the same strings -/
theorem equal_same (a : Option Addr) (cap : Nat) (b : Option Addr) (capb : Nat) (ss : List ByteArray) (w : World) (hr : Row w a cap ss) (hr' : Row w b capb ss) (hp : ss.length ≤ 1048576) :
    Calls Try.prog 17 #[.slice a ss.length cap, .slice b ss.length capb] w fun e w' => GlobSays w true e w' := by
  have hcs := hr.at
  have hcs' := hr'.at
  have hne : ((ss.length : Int) != (ss.length : Int)) = false := by simp
  clear hr hr'
  go_enter Try.func17, Try.ntmps17
  go_wp2
  go_loopw [5] (fun i wr => ∃ k n : Nat, k ≤ ss.length ∧ i = .int .i64 k ∧ wr = w.drewN n) (fun i _ => ss.length - (intOf i).toNat)
  case atStart => exact ⟨0, 0, Nat.zero_le _, rfl, rfl⟩
  case round =>
    obtain ⟨k, n, hk, rfl, rfl⟩ := hrel
    by_cases hlt : k < ss.length
    · obtain ⟨b, off, rfl, hbw, hcp⟩ := hcs k hlt
      obtain ⟨b', off', rfl, hbw', hcp'⟩ := hcs' k hlt
      clear hcs hcs'
      generalize ss.getD k ByteArray.empty = p at hcp hcp'
      have hi1 : (k : Int) < (ss.length : Int) := by omega
      have hnn : (p.toList != p.toList) = false := by simp
      go_wp2
      go_quiet (fail)
      go_wp2
      go_roundw
      case rel => exact ⟨k + 1, n + nq, by omega, by go_num, rfl⟩
      case measure => simp [intOf]; omega
    · clear hcs hcs'
      go_wp2
      go_ret
      exact ⟨rfl, n, rfl⟩

end Go.Proofs.Qxb6601526a
