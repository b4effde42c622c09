import Derived.Test.Qxb6601526aSmall
namespace Go.Proofs.Qxb6601526a
open Go.RowKit
set_option linter.unusedVariables false
set_option linter.unusedSimpArgs false

theorem str_oneCell (s : ByteArray) : ∀ u ∈ [Value.string s], u.oneCell' = true := by
  intro u hu; simp at hu; subst hu; rfl

theorem map_snoc (l : List ByteArray) (s : ByteArray) : l.map Value.string ++ [Value.string s] = (l ++ [s]).map Value.string := by simp

theorem below_app {w wr w2 : World} {o : Obj} (hb : Below w.heap.size w wr) (hg : (wr.alloc o).grownBy w2 (some w.heap.size)) : Below w.heap.size w w2 :=
  (hb.alloc hb.size o).grown hg (by simp; have := hb.size; omega) (by intro k h; simp at h; omega)

theorem fillL_small (ps ws : List ByteArray) (h1 : ∀ s ∈ ps, s.size ≤ maxLen) (h2 : ∀ s ∈ ws, s.size ≤ maxLen) : ∀ s ∈ fillL ps ws, s.size ≤ maxLen := by
  induction ps generalizing ws with
  | nil => intro s hs; simp [fillL] at hs
  | cons p ps ih =>
    intro s hs
    rw [fillL] at hs
    cases hp : star p
    · rw [hp, cond_false] at hs
      rcases List.mem_cons.1 hs with rfl | hs
      · exact h1 _ (List.mem_cons_self ..)
      · exact ih ws (fun s h => h1 s (List.mem_cons_of_mem _ h)) h2 s hs
    · rw [hp, cond_true] at hs
      rcases List.mem_cons.1 hs with rfl | hs
      · cases ws with
        | nil => exact Nat.zero_le _
        | cons x ws => exact h2 _ (List.mem_cons_self ..)
      · exact ih ws.tail (fun s h => h1 s (List.mem_cons_of_mem _ h)) (fun s h => h2 s (List.mem_of_mem_tail h)) s hs

set_option maxHeartbeats 1000000 in
/-- fill -/
theorem fill_any (a : Option Addr) (cap : Nat) (pat : List ByteArray) (rest : Bool) (b : Option Addr) (capb : Nat) (ws : List ByteArray) (c : Option Addr) (capc : Nat) (tail : List ByteArray) (w : World)
    (hr : Row w a cap pat) (hrw : Row w b capb ws) (hrt : Row w c capc tail) (hp : pat.length ≤ 1048576) (hw : ws.length ≤ 1048576) (ht : tail.length ≤ 1048576) :
    Calls Try.prog 18 #[.slice a pat.length cap, .bool rest, .slice b ws.length capb, .slice c tail.length capc] w fun e w' => CloneSays w (fillL pat ws ++ bif rest then tail else []) e w' := by
  have hcs := hr.at
  have hcw := hrw.at
  have hct := hrt.at
  have HSM : Hid (∀ s ∈ fillL pat ws, s.size ≤ maxLen) := fillL_small pat ws hr.small hrw.small
  have HST : Hid (∀ s ∈ tail, s.size ≤ maxLen) := hrt.small
  have HL := fillL_len pat ws
  obtain ⟨i0, hi, hz0, hz1, hz2⟩ := info_parts Try.info9
  clear hr hrw hrt
  go_enter Try.func18, Try.ntmps18
  go_wp2_with (at_make; refine wpList_make_own _ rfl _ _ 22 rfl w.heap.size 9 i0 (.string ByteArray.empty) 1 Try.underlying22 hi hz0 hz1 .i64 .i64 _ (pat.length + tail.length) rfl rfl (by omega) (by rw [hz2]; omega) (by unfold maxLen; omega) (Nat.le_refl _) ?_; intro w1 hown1 hgrow1)
  have hb1 : Below w.heap.size w w1 := (Below.refl _ _).grown hgrow1 (Nat.le_refl _) (by simp)
  have HLen : Hid _ := HL
  clear hgrow1 HL
  go_loopw [9, 10, 11] (fun v t i wr => ∃ k m : Nat, k ≤ pat.length ∧ i = .int .i64 k ∧ t = .int .i64 m ∧ m ≤ k ∧ Hid (m = stars (pat.take k)) ∧ v = .slice (some ⟨w.heap.size, 0, none⟩) k (pat.length + tail.length) ∧
      wr.ownsRow w.heap.size 9 1 (.slice (some ⟨w.heap.size, 0, none⟩) k (pat.length + tail.length)) k (((fillL pat ws).take k).map Value.string) ∧ Below w.heap.size w wr) (fun _ _ i _ => pat.length - (intOf i).toNat)
  case atStart => exact ⟨0, 0, Nat.zero_le _, rfl, rfl, Nat.le_refl _, rfl, rfl, hown1, hb1⟩
  case round =>
    obtain ⟨k, m, hk, rfl, rfl, hm, HM, rfl, hown, hbr⟩ := hrel
    clear hown1 hb1
    have hsz := hbr.size
    by_cases hlt : k < pat.length
    · obtain ⟨ab, off, rfl, hbw, hcp⟩ := hcs k hlt
      have hcp1 : wr.cell? ⟨ab, off + k, none⟩ = some (.string (pat.getD k ByteArray.empty)) := (hbr.cell (p := ⟨ab, off + k, none⟩) hbw).trans hcp
      have HS : Hid (_ = _) := stars_snoc pat k hlt
      have HF : Hid (_ = _) := fillL_snoc pat ws k hlt
      have hi1 : (k : Int) < (pat.length : Int) := by omega
      clear hcp
      rw [← HM.out] at HF
      cases hst : ((pat.getD k ByteArray.empty).toList == [42])
      · have HS' : Hid (m = stars (pat.take (k + 1))) := by rw [Hid, HS.out, HM.out, show star (pat.getD k ByteArray.empty) = false from hst]; rfl
        have HF' : Hid ((fillL pat ws).take (k + 1) = (fillL pat ws).take k ++ [pat.getD k ByteArray.empty]) := by rw [Hid, HF.out, show star (pat.getD k ByteArray.empty) = false from hst]; rfl
        clear HS HF hcs hcw hct
        generalize pat.getD k ByteArray.empty = p at hcp1 hst HF'
        go_wp2_with (at_builtin; refine wpList_append_fits _ rfl _ _ 22 rfl w.heap.size 9 i0 1 Try.underlying22 hi hz1 w.heap.size k (pat.length + tail.length) _ rfl (hown.alloc _) ⟨wr.heap.size, 0, none⟩ 1 1 [.string p] rfl rfl (cell_one_new _ _ _) (str_oneCell p) (by omega) ?_; intro w2 hown2 hgrow2)
        rw [map_snoc, ← HF'.out] at hown2
        have HO2 : Hid _ := hown2
        have HB2 : Hid _ := below_app hbr hgrow2
        clear hown hown2 hgrow2 hbr
        go_wp2_with fail
        go_roundw
        case rel => exact ⟨k + 1, m, by omega, by go_num, by go_num, by omega, HS', rfl, HO2.out, HB2.out⟩
        case measure => simp [intOf]; omega
      · have HS' : Hid (m + 1 = stars (pat.take (k + 1))) := by rw [Hid, HS.out, HM.out, show star (pat.getD k ByteArray.empty) = true from hst]; rfl
        have HF1 : Hid ((fillL pat ws).take (k + 1) = (fillL pat ws).take k ++ [ws.getD m ByteArray.empty]) := by rw [Hid, HF.out, show star (pat.getD k ByteArray.empty) = true from hst]; rfl
        clear HS HF hcs hct
        generalize pat.getD k ByteArray.empty = p at hcp1 hst
        by_cases hmw : m < ws.length
        · obtain ⟨bb, offb, rfl, hbwb, hcpb⟩ := hcw m hmw
          have hcp2 : wr.cell? ⟨bb, offb + m, none⟩ = some (.string (ws.getD m ByteArray.empty)) := (hbr.cell (p := ⟨bb, offb + m, none⟩) hbwb).trans hcpb
          have hi2 : (m : Int) < (ws.length : Int) := by omega
          have HF' := HF1
          clear HF1 hcw hcpb
          generalize ws.getD m ByteArray.empty = q at hcp2 HF'
          go_wp2_with (at_builtin; refine wpList_append_fits _ rfl _ _ 22 rfl w.heap.size 9 i0 1 Try.underlying22 hi hz1 w.heap.size k (pat.length + tail.length) _ rfl (hown.alloc _) ⟨wr.heap.size, 0, none⟩ 1 1 [.string q] rfl rfl (cell_one_new _ _ _) (str_oneCell q) (by omega) ?_; intro w2 hown2 hgrow2)
          rw [map_snoc, ← HF'.out] at hown2
          have HO2 : Hid _ := hown2
          have HB2 : Hid _ := below_app hbr hgrow2
          clear hown hown2 hgrow2 hbr
          go_wp2_with fail
          go_roundw
          case rel => exact ⟨k + 1, (m + 1), by omega, by go_num, by go_num, by omega, HS', rfl, HO2.out, HB2.out⟩
          case measure => simp [intOf]; omega
        · have hq : ws.getD m ByteArray.empty = ByteArray.empty := by rw [List.getD_eq_getElem?_getD, List.getElem?_eq_none (by omega), Option.getD_none]
          have HF' := HF1
          rw [hq] at HF'
          clear HF1 hcw hq
          go_wp2_with (at_builtin; refine wpList_append_fits _ rfl _ _ 22 rfl w.heap.size 9 i0 1 Try.underlying22 hi hz1 w.heap.size k (pat.length + tail.length) _ rfl (hown.alloc _) ⟨wr.heap.size, 0, none⟩ 1 1 [.string ByteArray.empty] rfl rfl (cell_one_new _ _ _) (str_oneCell ByteArray.empty) (by omega) ?_; intro w2 hown2 hgrow2)
          rw [map_snoc, ← HF'.out] at hown2
          have HO2 : Hid _ := hown2
          have HB2 : Hid _ := below_app hbr hgrow2
          clear hown hown2 hgrow2 hbr
          go_wp2_with fail
          go_roundw
          case rel => exact ⟨k + 1, (m + 1), by omega, by go_num, by go_num, by omega, HS', rfl, HO2.out, HB2.out⟩
          case measure => simp [intOf]; omega
    · have hke : k = pat.length := by omega
      have HO : Hid _ := hown
      have HK : Hid _ := hke
      clear hcs hcw hown hke
      have hO : wr.ownsRow w.heap.size 9 1 (.slice (some ⟨w.heap.size, 0, none⟩) k (pat.length + tail.length)) k ((fillL pat ws).map Value.string) := by
        have h := HO.out
        rw [HK.out] at h ⊢
        rwa [List.take_of_length_le (by rw [HLen.out]; exact Nat.le_refl _)] at h
      clear HO
      cases rest
      · have HO : Hid _ := hO
        clear hO
        go_wp2_with fail
        go_ret
        rw [cond_false, List.append_nil]
        refine ⟨_, _, ?_, Row.ofOwns HO.out (by rw [HLen.out]; omega) (by omega) (by unfold maxLen; omega) HSM.out, hbr⟩
        rw [HLen.out, ← HK.out]; rfl
      · go_wp2_with fail
        go_loopw [9, 12] (fun v i wr => ∃ j : Nat, j ≤ tail.length ∧ i = .int .i64 j ∧ v = .slice (some ⟨w.heap.size, 0, none⟩) (k + j) (pat.length + tail.length) ∧
            wr.ownsRow w.heap.size 9 1 (.slice (some ⟨w.heap.size, 0, none⟩) (k + j) (pat.length + tail.length)) (k + j) ((fillL pat ws ++ tail.take j).map Value.string) ∧ Below w.heap.size w wr) (fun _ i _ => tail.length - (intOf i).toNat)
        case atStart => exact ⟨0, Nat.zero_le _, rfl, rfl, by simpa using hO, hbr⟩
        case round =>
          obtain ⟨j, hj, rfl, rfl, hown, hbr2⟩ := hrel
          clear hO hbr
          by_cases hlt2 : j < tail.length
          · obtain ⟨bb, offb, rfl, hbwb, hcpb⟩ := hct j hlt2
            have hcp2 : wr.cell? ⟨bb, offb + j, none⟩ = some (.string (tail.getD j ByteArray.empty)) := (hbr2.cell (p := ⟨bb, offb + j, none⟩) hbwb).trans hcpb
            have hi2 : (j : Int) < (tail.length : Int) := by omega
            have HF' : Hid (fillL pat ws ++ tail.take (j + 1) = fillL pat ws ++ tail.take j ++ [tail.getD j ByteArray.empty]) := by
              rw [Hid, List.take_succ_eq_append_getElem hlt2, List.append_assoc]; simp [List.getD, hlt2]
            clear hcpb hct
            generalize tail.getD j ByteArray.empty = q at hcp2 HF'
            go_wp2_with (at_builtin; refine wpList_append_fits _ rfl _ _ 22 rfl w.heap.size 9 i0 1 Try.underlying22 hi hz1 w.heap.size (k + j) (pat.length + tail.length) _ rfl (hown.alloc _) ⟨wr.heap.size, 0, none⟩ 1 1 [.string q] rfl rfl (cell_one_new _ _ _) (str_oneCell q) (by omega) ?_; intro w2 hown2 hgrow2)
            rw [map_snoc, ← HF'.out] at hown2
            have HO2 : Hid _ := hown2
            have HB2 : Hid _ := below_app hbr2 hgrow2
            clear hown hown2 hgrow2 hbr2
            go_wp2_with fail
            go_roundw
            case rel => exact ⟨j + 1, by omega, by go_num, rfl, HO2.out, HB2.out⟩
            case measure => simp [intOf]; omega
          · have hje : j = tail.length := by omega
            have hO2 : wr.ownsRow w.heap.size 9 1 (.slice (some ⟨w.heap.size, 0, none⟩) (k + j) (pat.length + tail.length)) (k + j) ((fillL pat ws ++ tail).map Value.string) := by
              rwa [List.take_of_length_le (by omega)] at hown
            have HO : Hid _ := hO2
            have HJ : Hid _ := hje
            clear hO2 hown hct hje
            go_wp2_with fail
            go_ret
            rw [cond_true]
            refine ⟨_, _, ?_, Row.ofOwns HO.out (by rw [List.length_append, HLen.out]; omega) (by omega) (by unfold maxLen; omega) ?_, hbr2⟩
            · rw [List.length_append, HLen.out, ← HK.out, ← HJ.out]; rfl
            · intro s hs
              rcases List.mem_append.1 hs with hs | hs
              · exact HSM.out s hs
              · exact HST.out s hs

end Go.Proofs.Qxb6601526a
