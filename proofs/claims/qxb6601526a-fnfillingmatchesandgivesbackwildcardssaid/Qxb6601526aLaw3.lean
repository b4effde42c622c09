import Derived.Test.Qxb6601526aClone
import Derived.Test.Qxb6601526aMatch
import Derived.Test.Qxb6601526aBytes
namespace Go.Proofs.Qxb6601526a
open Go.RowKit
set_option linter.unusedVariables false
set_option linter.unusedSimpArgs false

/-- ZZMakePattern -/
theorem make_any (a : Option Addr) (n cap : Nat) (rest : Bool) (w : World) :
    Calls Try.prog 10 #[.slice a n cap, .bool rest] w fun e w' => e = .returned (.agg #[.slice a n cap, .bool rest]) ∧ Below w.heap.size w w' := by
  go_enter Try.func10, Try.ntmps10
  go_wp2
  exact bodyPost_ret (v := .agg #[.slice a n cap, .bool rest]) (by simp [results, Try.results10, go_sem]) rfl ⟨rfl, (Below.refl _ _).alloc (Nat.le_refl _) _⟩

def TrueSays (w : World) (e : Ending) (w' : World) : Prop := e = .returned (.bool true) ∧ Below w.heap.size w w'

theorem row_nil (w : World) : Row w none 0 [] := ⟨Nat.le_refl _, Nat.zero_le _, fun _ => rfl, by simp, .inl rfl⟩

set_option maxHeartbeats 1000000 in
theorem law3 (a : Option Addr) (cap : Nat) (pat : List ByteArray) (rest : Bool) (c : Option Addr) (capc : Nat) (segs : List ByteArray) (w : World) (hr : Row w a cap pat) (hc : Row w c capc segs) :
    Calls Try.prog 3 #[.slice a pat.length cap, .bool rest, .slice c segs.length capc] w fun e w' => TrueSays w e w' := by
  go_enter Try.func3, Try.ntmps3
  go_wp2_with fail
  refine (bytes7_any a cap pat rest c capc segs w hr hc).mono ?_
  rintro e w' ⟨ok, rfl, rfl⟩
  cases ok
  · go_wp2_with fail
    go_ret
    exact ⟨rfl, Below.refl _ _⟩
  · go_wp2_with fail
    refine (fits_any a c none cap capc 0 pat segs [] w' hr hc (row_nil _)).mono ?_
    rintro e w'' ⟨ok, rfl, rfl, hfit⟩
    cases ok
    · go_wp2_with fail
      go_ret
      exact ⟨rfl, Below.refl _ _⟩
    · have hfit := hfit rfl
      simp only [List.length_nil] at hfit
      go_wp2_with fail
      refine (clone_any a cap pat w'' hr (by omega)).mono ?_
      rintro e w1 ⟨a1, cap1, rfl, hr1, hb1⟩
      go_wp2_with fail
      refine (clone_any c capc segs w1 (hc.below hb1) (by omega)).mono ?_
      rintro e w2 ⟨c1, capc1, rfl, hc2, hb2⟩
      go_wp2_with fail
      refine (make_any a1 pat.length cap1 rest w2).mono ?_
      rintro e w3 ⟨rfl, hb3⟩
      have hr3 := (hr1.below hb2).below hb3
      have hc3 := hc2.below hb3
      have hb0 : Below w''.heap.size w'' w3 := (hb1.trans (hb2.mono hb1.size)).trans (hb3.mono (Nat.le_trans hb1.size hb2.size))
      clear hr1 hc2 hb1 hb2 hb3 hr hc
      go_wp2_with fail
      have hb4 := (Below.refl w3.heap.size w3).alloc (Nat.le_refl _) (.cells #[.slice a1 pat.length cap1, .bool rest] 27)
      refine (match_any a1 cap1 pat rest c1 capc1 segs _ (hr3.below hb4) (hc3.below hb4) (by omega) (by omega)).mono ?_
      rintro e w5 ⟨rfl, hb5⟩
      go_wp2_with fail
      refine (glob_any a1 cap1 pat rest c1 capc1 segs (by omega) (by omega) (pat.length + segs.length + 1) 0 0 w5 ((hr3.below hb4).below hb5) ((hc3.below hb4).below hb5) (by omega) (by omega) (by omega) (by omega) (by omega)).mono ?_
      rintro e w6 ⟨rfl, m, rfl⟩
      go_wp2_with fail
      go_ret
      refine ⟨?_, below_drewN (hb0.trans ((hb4.mono hb0.size).trans (hb5.mono (Nat.le_trans hb0.size hb4.size)))) m⟩
      simp

end Go.Proofs.Qxb6601526a
