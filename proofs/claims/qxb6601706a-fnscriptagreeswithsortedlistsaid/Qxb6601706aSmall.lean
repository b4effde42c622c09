import Derived.Test.Qxb6601706aSt
import Derived.Test.Qxb6601706aSearch
namespace Go.Proofs.Qxb6601706a
open Go.RowKit
set_option linter.unusedVariables false
set_option linter.unusedSimpArgs false

set_option maxHeartbeats 1000000 in
/-- leaf -/
theorem leaf39 {w : World} {b : Nat} {rv kv : Value} {ks : List Kid} (h : w.heap[b]? = some (.cells #[rv, kv] 71 (0, 0))) (hk : OwnN w kv ks) :
    Calls Try.prog 39 #[.pointer (some ⟨b, 0, none⟩)] w fun e w' => e = .returned (.bool (decide (ks.length = 0))) ∧ w' = w := by
  obtain ⟨c0, c1, f0, f1, hlt⟩ := node_cells h
  rcases hk.form with ⟨rfl, rfl⟩ | ⟨g, cap, rfl, _⟩
  · clear hk h
    go_enter Try.func39, Try.ntmps39
    go_wp2
    go_ret
    exact ⟨by simp, rfl⟩
  · clear hk h
    go_enter Try.func39, Try.ntmps39
    go_wp2
    go_ret
    refine ⟨?_, rfl⟩
    have : (((ks.length : Nat) : Int) == 0) = decide (ks.length = 0) := by rw [Bool.eq_iff_iff, beq_iff_eq, decide_eq_true_iff]; omega
    rw [← this]
    rfl

set_option maxHeartbeats 1000000 in
/-- search -/
theorem search44 {w : World} {b : Nat} {rv kv : Value} {rs : List Ent} (key : ByteArray) (h : w.heap[b]? = some (.cells #[rv, kv] 71 (0, 0))) (hr : OwnE w 52 rv rs) (hn : rs.length ≤ 1000) (hs : Sorted rs) :
    Calls Try.prog 44 #[.pointer (some ⟨b, 0, none⟩), .string key] w (SearchSays w rs key) := by
  obtain ⟨c0, c1, f0, f1, hlt⟩ := node_cells h
  clear h
  go_enter Try.func44, Try.ntmps44
  go_wp2_with (go_at_call 53; refine (bsearch53 rv rs key _ hr hn hs).mono ?_; rintro e w' ⟨i, ok, rfl, h1, h2, h3, h4, h5⟩)
  go_ret2
  exact ⟨i, ok, rfl, h1, h2, h3, h4, h5⟩

end Go.Proofs.Qxb6601706a
