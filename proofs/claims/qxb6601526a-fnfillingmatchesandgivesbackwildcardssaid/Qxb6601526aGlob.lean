import Derived.Test.Qxb6601526aBase
import Derived.Test.Qxb6601526aMath
import Derived.Deep.QuietTactic
import Derived.BigQuiet
namespace Go.Proofs.Qxb6601526a
open Go.RowKit
set_option linter.unusedVariables false
set_option linter.unusedSimpArgs false

theorem Row.drewN {w : World} {a : Option Addr} {cap : Nat} {ss : List ByteArray} (h : Row w a cap ss) (n : Nat) : Row (w.drewN n) a cap ss :=
  h.below (below_drewN (Below.refl _ _) n)

theorem Row.at {w : World} {a : Option Addr} {cap : Nat} {ss : List ByteArray} (h : Row w a cap ss) (i : Nat) (hi : i < ss.length) :
    ∃ b off, a = some ⟨b, off, none⟩ ∧ b < w.heap.size ∧ w.cell? ⟨b, off + i, none⟩ = some (.string (ss.getD i ByteArray.empty)) := by
  rcases h.cells with h | ⟨b, off, rfl, hbw, hc⟩
  · subst h; simp at hi
  · exact ⟨b, off, rfl, hbw, hc i hi⟩

set_option maxHeartbeats 400000 in
/-- globMatch behind the last token, where the pattern ends in "**" -/
theorem glob_last (a : Option Addr) (cap : Nat) (n : Nat) (c : Option Addr) (capc m : Nat) (t s : Int) (w : World) (ht : t = n + 1) (hn : n ≤ 1048576) (hm : m ≤ 1048576) (hs : 0 ≤ s) (hs' : s ≤ m) :
    Calls Try.prog 12 #[.slice a n cap, .bool true, .slice c m capc, .int .i64 t, .int .i64 s] w fun e w' => e = .returned (.bool (s == (m : Int))) ∧ w' = w := by
  have h1 : (t == (n : Int) + 1) = true := by simp [ht]
  clear ht
  go_enter Try.func12, Try.ntmps12
  go_wp2_with fail
  go_ret
  exact ⟨rfl, rfl⟩

def GlobSays (w : World) (ok : Bool) (e : Ending) (w' : World) : Prop := e = .returned (.bool ok) ∧ ∃ m, w' = w.drewN m

set_option maxHeartbeats 1000000 in
/-- globMatch -/
theorem glob_any (a : Option Addr) (cap : Nat) (pat : List ByteArray) (rest : Bool) (c : Option Addr) (capc : Nat) (segs : List ByteArray) (hp : pat.length ≤ 1048576) (hq : segs.length ≤ 1048576) (f : Nat) :
    ∀ (t s : Int) (w : World), Row w a cap pat → Row w c capc segs → 0 ≤ t → t ≤ pat.length → 0 ≤ s → s ≤ segs.length → (pat.length - t.toNat) + (segs.length - s.toNat) < f →
    Calls Try.prog 12 #[.slice a pat.length cap, .bool rest, .slice c segs.length capc, .int .i64 t, .int .i64 s] w fun e w' => GlobSays w (matchB (pat.drop t.toNat) rest (segs.drop s.toNat)) e w' := by
  induction f with
  | zero => intro t s w _ _ _ _ _ _ h; omega
  | succ f ih =>
    intro t s w hr hc ht0 ht hs0 hs hf
    obtain ⟨tn, rfl⟩ := Int.eq_ofNat_of_zero_le ht0
    obtain ⟨sn, rfl⟩ := Int.eq_ofNat_of_zero_le hs0
    rw [Int.toNat_natCast, Int.toNat_natCast] at *
    have IH : Hid _ := ih
    clear ih
    by_cases h1 : tn = pat.length
    · -- the pattern's end
      subst h1
      have hb1 : ((pat.length : Int) == (pat.length : Int)) = true := by simp
      have hfin := matchB_tail pat rest segs pat.length sn (Nat.le_refl _)
      rw [hfin]
      clear hfin
      cases rest with
      | false =>
        clear hr hc IH
        go_enter Try.func12, Try.ntmps12
        go_wp2_with fail
        go_ret
        refine ⟨?_, 0, rfl⟩
        refine congrArg (fun b => Ending.returned (.bool b)) ?_
        rw [Bool.eq_iff_iff]
        simp
        omega
      | true =>
        have hb2 : ((pat.length : Int) == (pat.length : Int) + 1) = false := by simp; omega
        by_cases h2 : sn = segs.length
        · subst h2
          have hb3 : ((segs.length : Int) == (segs.length : Int)) = true := by simp
          clear hr hc IH
          go_enter Try.func12, Try.ntmps12
          go_wp2_with fail
          refine (glob_last a cap pat.length c capc segs.length _ _ _ rfl hp hq hs0 hs).mono ?_
          rintro e w1 ⟨rfl, rfl⟩
          go_wp2_with fail
          go_ret
          exact ⟨by simp, 0, rfl⟩
        · have hb3 : ((sn : Int) == (segs.length : Int)) = false := by simp; omega
          have hlt2 : (sn : Int) < (segs.length : Int) := by omega
          have HR : Hid _ := hr
          have HC : Hid _ := hc
          clear hr hc
          go_enter Try.func12, Try.ntmps12
          go_wp2_with fail
          refine (glob_last a cap pat.length c capc segs.length _ _ _ rfl hp hq hs0 hs).mono ?_
          rintro e w1 ⟨rfl, rfl⟩
          go_wp2_with fail
          refine (IH.out (pat.length : Int) ((sn : Int) + 1) w1 HR.out HC.out (by omega) (by omega) (by omega) (by omega) (by omega)).mono ?_
          rintro e w2 ⟨rfl, m, rfl⟩
          rw [show ((pat.length : Int)).toNat = pat.length from by omega, show ((sn : Int) + 1).toNat = sn + 1 from by omega, matchB_tail pat true segs pat.length (sn + 1) (Nat.le_refl _)]
          go_wp2_with fail
          go_ret
          exact ⟨by simp, m, rfl⟩
    · have hlt : tn < pat.length := by omega
      have hb1 : ((tn : Int) == (pat.length : Int)) = false := by simp; omega
      have hb2 : ((tn : Int) == (pat.length : Int) + 1) = false := by simp; omega
      by_cases h2 : sn = segs.length
      · rw [matchB_end pat rest segs tn sn hlt (by omega)]
        subst h2
        have hb3 : ((segs.length : Int) == (segs.length : Int)) = true := by simp
        clear hr hc IH
        cases rest
        all_goals
          go_enter Try.func12, Try.ntmps12
          go_wp2_with fail
          go_ret
          exact ⟨by simp, 0, rfl⟩
      · have hb3 : ((sn : Int) == (segs.length : Int)) = false := by simp; omega
        rw [matchB_step pat rest segs tn sn hlt (by omega)]
        obtain ⟨b, off, rfl, hbw, hcp⟩ := hr.at tn hlt
        obtain ⟨b', off', rfl, hbw', hcq⟩ := hc.at sn (by omega)
        have hIH := fun w1 hr1 hc1 => IH.out ((tn : Int) + 1) ((sn : Int) + 1) w1 hr1 hc1 (by omega) (by omega) (by omega) (by omega) (by omega)
        rw [show ((tn : Int) + 1).toNat = tn + 1 from by omega, show ((sn : Int) + 1).toNat = sn + 1 from by omega] at hIH
        have HIH : Hid _ := hIH
        have HR : Hid _ := hr
        have HC : Hid _ := hc
        clear hr hc IH hIH hf
        generalize pat.getD tn ByteArray.empty = p at hcp ⊢
        generalize segs.getD sn ByteArray.empty = q at hcq ⊢
        generalize matchB (pat.drop (tn + 1)) rest (segs.drop (sn + 1)) = r at HIH ⊢
        have hi1 : (tn : Int) < (pat.length : Int) := by omega
        have hi2 : (sn : Int) < (segs.length : Int) := by omega
        cases hst : (p.toList == [42])
        · have hok : ok1 p q = (q.toList == p.toList) := by
            rw [ok1, hst, cond_false]; exact Bool.beq_comm
          rw [hok]
          clear hok
          cases heq : (q.toList == p.toList)
          · cases rest
            all_goals
              go_enter Try.func12, Try.ntmps12
              go_wp2_with fail
              go_quiet (fail)
              go_wp2_with fail
              go_ret
              exact ⟨by simp, _, rfl⟩
          · cases rest
            all_goals
              go_enter Try.func12, Try.ntmps12
              go_wp2_with fail
              go_quiet ((go_at_call 12; exact Calls.quiet_of ((HIH.out _ (HR.out.drewN _) (HC.out.drewN _)).mono fun _ _ h => h)))
              go_wp2_with fail
              go_ret
              exact ⟨by simp, _, rfl⟩
        · have hok : ok1 p q = !q.toList.isEmpty := by rw [ok1, hst, cond_true]
          rw [hok]
          clear hok
          cases hem : q.toList.isEmpty
          · cases rest
            all_goals
              go_enter Try.func12, Try.ntmps12
              go_wp2_with fail
              refine (HIH.out _ HR.out HC.out).mono ?_
              rintro e w1 ⟨rfl, m, rfl⟩
              go_wp2_with fail
              go_ret
              exact ⟨by simp, m, rfl⟩
          · cases rest
            all_goals
              go_enter Try.func12, Try.ntmps12
              go_wp2_with fail
              go_ret
              exact ⟨by simp, 0, rfl⟩

end Go.Proofs.Qxb6601526a
