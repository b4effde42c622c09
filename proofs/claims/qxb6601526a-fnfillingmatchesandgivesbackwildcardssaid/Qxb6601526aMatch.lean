import Derived.Test.Qxb6601526aGlob
namespace Go.Proofs.Qxb6601526a
open Go.RowKit
set_option linter.unusedVariables false
set_option linter.unusedSimpArgs false

def MatchSays (w : World) (ok : Bool) (e : Ending) (w' : World) : Prop := e = .returned (.bool ok) ∧ Below w.heap.size w w'

set_option maxHeartbeats 1000000 in
/-- (Pattern).Match -/
theorem match_any (a : Option Addr) (cap : Nat) (pat : List ByteArray) (rest : Bool) (c : Option Addr) (capc : Nat) (segs : List ByteArray) (w : World) (hr : Row w a cap pat) (hc : Row w c capc segs) (hp : pat.length ≤ 1048576) (hq : segs.length ≤ 1048576) :
    Calls Try.prog 11 #[.agg #[.slice a pat.length cap, .bool rest], .slice c segs.length capc] w fun e w' => MatchSays w (matchB pat rest segs) e w' := by
  have hcs := hr.at
  have hcs' := hc.at
  clear hr hc
  have HB : Hid (∀ o, Below w.heap.size w (w.alloc o)) := fun o => (Below.refl _ _).alloc (Nat.le_refl _) _
  by_cases h1 : segs.length < pat.length
  · rw [matchB_short pat rest segs h1]
    clear hcs hcs'
    go_enter Try.func11, Try.ntmps11
    go_wp2
    go_ret
    exact ⟨rfl, HB.out _⟩
  · by_cases h2 : rest = false ∧ segs.length ≠ pat.length
    · obtain ⟨rfl, h2⟩ := h2
      rw [matchB_long pat segs h2]
      have hn : ((segs.length : Int) != (pat.length : Int)) = true := by simp; omega
      clear hcs hcs'
      go_enter Try.func11, Try.ntmps11
      go_wp2
      go_ret
      exact ⟨rfl, HB.out _⟩
    · have hn : rest = false → segs.length = pat.length := fun h => Classical.byContradiction fun h' => h2 ⟨h, h'⟩
      have hend : matchB (pat.drop pat.length) rest (segs.drop pat.length) = true := by
        rw [matchB_tail _ _ _ _ _ (Nat.le_refl _)]
        cases rest
        · rw [hn rfl]; simp
        · rfl
      have HE : Hid _ := hend
      have hnb : rest = false → ((segs.length : Int) != (pat.length : Int)) = false := by
        intro h; rw [hn h]; simp
      clear hn h2 hend
      cases rest
      · have hn := hnb rfl
        clear hnb
        go_enter Try.func11, Try.ntmps11
        go_wp2
        go_loop [30] (fun i => ∃ k : Nat, k ≤ pat.length ∧ i = .int .i64 k ∧ Hid (matchB (pat.drop k) false (segs.drop k) = matchB pat false segs)) (fun i => pat.length - (intOf i).toNat)
        case atStart => exact ⟨0, Nat.zero_le _, rfl, rfl⟩
        case round =>
          obtain ⟨k, hk, rfl, HM⟩ := hrel
          by_cases hlt : k < pat.length
          · obtain ⟨b, off, rfl, hbw, hcp⟩ := hcs k hlt
            obtain ⟨b', off', rfl, hbw', hcq⟩ := hcs' k (by omega)
            have HS : Hid (_ = _) := matchB_step pat false segs k k hlt (by omega)
            clear hcs hcs'
            generalize pat.getD k ByteArray.empty = p at hcp HS
            generalize segs.getD k ByteArray.empty = q at hcq HS
            have hi1 : (k : Int) < (pat.length : Int) := by omega
            have hi2 : (k : Int) < (segs.length : Int) := by omega
            have hcp1 : ∀ o, (w.alloc o).cell? ⟨b, off + k, none⟩ = some (.string p) := fun o => ((HB.out o).cell (p := ⟨b, off + k, none⟩) hbw).trans hcp
            have hcq1 : ∀ o, (w.alloc o).cell? ⟨b', off' + k, none⟩ = some (.string q) := fun o => ((HB.out o).cell (p := ⟨b', off' + k, none⟩) hbw').trans hcq
            cases hst : (p.toList == [42])
            · have hst' : (p.toList != [42]) = true := by simp only [bne, hst]; rfl
              cases heq : (p.toList == q.toList)
              · have heq' : (p.toList != q.toList) = true := by simp only [bne, heq]; rfl
                have hok : ok1 p q = false := by rw [ok1, hst, cond_false, heq]
                have HF : Hid (matchB pat false segs = false) := by rw [← HM.out, HS.out, hok]; rfl
                clear hok
                go_wp2
                go_ret
                exact ⟨by rw [HF.out]; rfl, HB.out _⟩
              · have heq' : (p.toList != q.toList) = false := by simp only [bne, heq]; rfl
                have hok : ok1 p q = true := by rw [ok1, hst, cond_false, heq]
                have HF : Hid (matchB (pat.drop (k + 1)) false (segs.drop (k + 1)) = matchB pat false segs) := by rw [← HM.out, HS.out, hok, Bool.true_and]; rfl
                clear hok
                go_wp2
                go_round
                case rel => exact ⟨k + 1, by omega, by go_num, HF⟩
                case measure => simp [intOf]; omega
            · have hst' : (p.toList != [42]) = false := by simp only [bne, hst]; rfl
              cases hem : q.toList.isEmpty
              · have hok : ok1 p q = true := by rw [ok1, hst, cond_true, hem]; rfl
                have HF : Hid (matchB (pat.drop (k + 1)) false (segs.drop (k + 1)) = matchB pat false segs) := by rw [← HM.out, HS.out, hok, Bool.true_and]; rfl
                clear hok
                go_wp2
                go_round
                case rel => exact ⟨k + 1, by omega, by go_num, HF⟩
                case measure => simp [intOf]; omega
              · have hok : ok1 p q = false := by rw [ok1, hst, cond_true, hem]; rfl
                have HF : Hid (matchB pat false segs = false) := by rw [← HM.out, HS.out, hok]; rfl
                clear hok
                go_wp2
                go_ret
                exact ⟨by rw [HF.out]; rfl, HB.out _⟩
          · have hke : k = pat.length := by omega
            clear hcs hcs'
            have HK : Hid _ := hke
            clear hke
            have HF : Hid (matchB pat false segs = true) := by rw [← HM.out, HK.out]; exact HE.out
            go_wp2
            go_ret
            exact ⟨by rw [HF.out]; rfl, HB.out _⟩
      · clear hnb
        go_enter Try.func11, Try.ntmps11
        go_wp2
        go_loop [30] (fun i => ∃ k : Nat, k ≤ pat.length ∧ i = .int .i64 k ∧ Hid (matchB (pat.drop k) true (segs.drop k) = matchB pat true segs)) (fun i => pat.length - (intOf i).toNat)
        case atStart => exact ⟨0, Nat.zero_le _, rfl, rfl⟩
        case round =>
          obtain ⟨k, hk, rfl, HM⟩ := hrel
          by_cases hlt : k < pat.length
          · obtain ⟨b, off, rfl, hbw, hcp⟩ := hcs k hlt
            obtain ⟨b', off', rfl, hbw', hcq⟩ := hcs' k (by omega)
            have HS : Hid (_ = _) := matchB_step pat true segs k k hlt (by omega)
            clear hcs hcs'
            generalize pat.getD k ByteArray.empty = p at hcp HS
            generalize segs.getD k ByteArray.empty = q at hcq HS
            have hi1 : (k : Int) < (pat.length : Int) := by omega
            have hi2 : (k : Int) < (segs.length : Int) := by omega
            have hcp1 : ∀ o, (w.alloc o).cell? ⟨b, off + k, none⟩ = some (.string p) := fun o => ((HB.out o).cell (p := ⟨b, off + k, none⟩) hbw).trans hcp
            have hcq1 : ∀ o, (w.alloc o).cell? ⟨b', off' + k, none⟩ = some (.string q) := fun o => ((HB.out o).cell (p := ⟨b', off' + k, none⟩) hbw').trans hcq
            cases hst : (p.toList == [42])
            · have hst' : (p.toList != [42]) = true := by simp only [bne, hst]; rfl
              cases heq : (p.toList == q.toList)
              · have heq' : (p.toList != q.toList) = true := by simp only [bne, heq]; rfl
                have hok : ok1 p q = false := by rw [ok1, hst, cond_false, heq]
                have HF : Hid (matchB pat true segs = false) := by rw [← HM.out, HS.out, hok]; rfl
                clear hok
                go_wp2
                go_ret
                exact ⟨by rw [HF.out]; rfl, HB.out _⟩
              · have heq' : (p.toList != q.toList) = false := by simp only [bne, heq]; rfl
                have hok : ok1 p q = true := by rw [ok1, hst, cond_false, heq]
                have HF : Hid (matchB (pat.drop (k + 1)) true (segs.drop (k + 1)) = matchB pat true segs) := by rw [← HM.out, HS.out, hok, Bool.true_and]; rfl
                clear hok
                go_wp2
                go_round
                case rel => exact ⟨k + 1, by omega, by go_num, HF⟩
                case measure => simp [intOf]; omega
            · have hst' : (p.toList != [42]) = false := by simp only [bne, hst]; rfl
              cases hem : q.toList.isEmpty
              · have hok : ok1 p q = true := by rw [ok1, hst, cond_true, hem]; rfl
                have HF : Hid (matchB (pat.drop (k + 1)) true (segs.drop (k + 1)) = matchB pat true segs) := by rw [← HM.out, HS.out, hok, Bool.true_and]; rfl
                clear hok
                go_wp2
                go_round
                case rel => exact ⟨k + 1, by omega, by go_num, HF⟩
                case measure => simp [intOf]; omega
              · have hok : ok1 p q = false := by rw [ok1, hst, cond_true, hem]; rfl
                have HF : Hid (matchB pat true segs = false) := by rw [← HM.out, HS.out, hok]; rfl
                clear hok
                go_wp2
                go_ret
                exact ⟨by rw [HF.out]; rfl, HB.out _⟩
          · have hke : k = pat.length := by omega
            clear hcs hcs'
            have HK : Hid _ := hke
            clear hke
            have HF : Hid (matchB pat true segs = true) := by rw [← HM.out, HK.out]; exact HE.out
            go_wp2
            go_ret
            exact ⟨by rw [HF.out]; rfl, HB.out _⟩

end Go.Proofs.Qxb6601526a
