import Derived.Test.Qxb6601526aFill
namespace Go.Proofs.Qxb6601526a
open Go.RowKit
set_option linter.unusedVariables false
set_option linter.unusedSimpArgs false

theorem wildL_snoc : ∀ (ps ss : List ByteArray) (k : Nat), k < ps.length → k < ss.length →
    wildL (ps.take (k + 1)) ss = wildL (ps.take k) ss ++ bif star (ps.getD k ByteArray.empty) then [ss.getD k ByteArray.empty] else []
  | [], _, _, h, _ => by simp at h
  | _ :: _, [], _, _, h => by simp at h
  | p :: ps, s :: ss, 0, _, _ => by
    simp only [List.take_succ_cons, List.take_zero, wildL, List.getD_cons_zero, List.nil_append]
  | p :: ps, s :: ss, k + 1, h, h' => by
    rw [List.take_succ_cons, wildL, wildL_snoc ps ss k (by simpa using h) (by simpa using h'), List.take_succ_cons, wildL, List.getD_cons_succ, List.getD_cons_succ]
    cases star p <;> simp

theorem wildL_len : ∀ (ps ss : List ByteArray), (wildL ps ss).length ≤ ps.length
  | [], _ => Nat.le_refl _
  | _ :: _, [] => Nat.zero_le _
  | p :: ps, s :: ss => by
    have := wildL_len ps ss
    rw [wildL]
    cases star p <;> simp <;> omega

theorem wildL_mem : ∀ (ps ss : List ByteArray) (s : ByteArray), s ∈ wildL ps ss → s ∈ ss
  | [], _, _, h => by simp [wildL] at h
  | _ :: _, [], _, h => by simp [wildL] at h
  | p :: ps, x :: ss, s, h => by
    rw [wildL] at h
    cases hp : star p
    · rw [hp, cond_false] at h
      exact List.mem_cons_of_mem _ (wildL_mem ps ss s h)
    · rw [hp, cond_true] at h
      rcases List.mem_cons.1 h with rfl | h
      · exact List.mem_cons_self ..
      · exact List.mem_cons_of_mem _ (wildL_mem ps ss s h)

theorem Row.ofOwnsAny {w : World} {base n : Nat} {v : Value} {ss : List ByteArray} (h : w.ownsRow base 9 1 v n (ss.map Value.string)) (hn : ss.length = n) (hsm : ∀ s ∈ ss, s.size ≤ maxLen) :
    ∃ a cap, v = .slice a ss.length cap ∧ Row w a cap ss := by
  have h' := h
  obtain ⟨h1, h2⟩ := h
  rcases h2 with ⟨rfl, h0⟩ | ⟨g, cap, cur, rfl, hb, hh, hc, hm, _⟩
  · have : ss = [] := List.eq_nil_of_length_eq_zero (by omega)
    subst this
    exact ⟨none, 0, rfl, ⟨Nat.le_refl _, Nat.zero_le _, fun _ => rfl, by simp, .inl rfl⟩⟩
  · exact ⟨_, cap, by rw [hn], Row.ofOwns h' hn hc hm hsm⟩

theorem below_grow {w wr w2 : World} {o : Obj} {v : Value} {n : Nat} {xs : List Value} (hb : Below w.heap.size w wr) (ho : wr.ownsRow w.heap.size 9 1 v n xs) (hg : (wr.alloc o).grownBy w2 v.ownBlock) : Below w.heap.size w w2 :=
  (hb.alloc hb.size o).grown hg (by simp; have := hb.size; omega) (fun k h => (ho.lt k h).1)

set_option maxHeartbeats 1000000 in
/-- (Pattern).Wildcards -/
theorem wild_any (a : Option Addr) (cap : Nat) (pat : List ByteArray) (rest : Bool) (c : Option Addr) (capc : Nat) (segs : List ByteArray) (w : World) (hr : Row w a cap pat) (hc : Row w c capc segs) (hp : pat.length ≤ 1048576) (hq : segs.length ≤ 2097152) (hle : pat.length ≤ segs.length) :
    Calls Try.prog 14 #[.agg #[.slice a pat.length cap, .bool rest], .slice c segs.length capc] w fun e w' => CloneSays w (wildL pat segs) e w' := by
  have hcs := hr.at
  have hcs' := hc.at
  have HSM : Hid (∀ s ∈ wildL pat segs, s.size ≤ maxLen) := fun s hs => hc.small s (wildL_mem pat segs s hs)
  obtain ⟨i0, hi, hz0, hz1, hz2⟩ := info_parts Try.info9
  clear hr hc
  have HB : Hid (∀ o, Below w.heap.size w (w.alloc o)) := fun o => (Below.refl _ _).alloc (Nat.le_refl _) _
  go_enter Try.func14, Try.ntmps14
  go_wp2_with fail
  go_loopw [5, 11] (fun v i wr => ∃ k : Nat, k ≤ pat.length ∧ i = .int .i64 k ∧ wr.ownsRow w.heap.size 9 1 v (wildL (pat.take k) segs).length ((wildL (pat.take k) segs).map Value.string) ∧ Below w.heap.size w wr) (fun _ i _ => pat.length - (intOf i).toNat)
  case atStart => exact ⟨0, Nat.zero_le _, rfl, World.ownsRow_nil _ _ _ _, HB.out _⟩
  case round =>
    obtain ⟨k, hk, rfl, hown, hbr⟩ := hrel
    have hsz := hbr.size
    by_cases hlt : k < pat.length
    · obtain ⟨b, off, rfl, hbw, hcp⟩ := hcs k hlt
      obtain ⟨b', off', rfl, hbw', hcq⟩ := hcs' k (by omega)
      have hcp1 : wr.cell? ⟨b, off + k, none⟩ = some (.string (pat.getD k ByteArray.empty)) := (hbr.cell (p := ⟨b, off + k, none⟩) hbw).trans hcp
      have hcq1 : wr.cell? ⟨b', off' + k, none⟩ = some (.string (segs.getD k ByteArray.empty)) := (hbr.cell (p := ⟨b', off' + k, none⟩) hbw').trans hcq
      have HS : Hid (_ = _) := wildL_snoc pat segs k hlt (by omega)
      have hwl : (wildL (pat.take k) segs).length ≤ k := Nat.le_trans (wildL_len _ _) (List.length_take_le _ _)
      have hi1 : (k : Int) < (pat.length : Int) := by omega
      have hi2 : (k : Int) < (segs.length : Int) := by omega
      clear hcp hcq hcs hcs'
      generalize pat.getD k ByteArray.empty = p at hcp1 HS
      generalize segs.getD k ByteArray.empty = q at hcq1 HS
      cases hst : (p.toList == [42])
      · rw [show star p = false from hst, cond_false, List.append_nil] at HS
        have HO : Hid _ := hown
        clear hown
        go_wp2_with fail
        go_roundw
        case rel => exact ⟨k + 1, by omega, by go_num, by rw [HS.out]; exact HO.out, hbr⟩
        case measure => simp [intOf]; omega
      · rw [show star p = true from hst, cond_true] at HS
        generalize wildL (pat.take k) segs = l at HS hown hwl
        have HS' : Hid ((wildL (pat.take (k + 1)) segs).length = l.length + 1) := by rw [Hid, HS.out]; simp
        go_wp2_with (at_builtin; refine wpList_append_own _ rfl _ _ 22 rfl w.heap.size 9 i0 (.string ByteArray.empty) 1 16 Try.underlying22 hi hz0 hz1 hz2 rfl (by decide) _ l.length _ rfl (hown.alloc _) ⟨wr.heap.size, 0, none⟩ 1 1 [.string q] rfl rfl (cell_one_new _ _ _) (str_oneCell q) (by unfold maxLen; omega) (by omega) (by simp; omega) ?_; intro v' w2 hown2 hgrow2 hnil2)
        rw [map_snoc, ← HS.out, ← HS'.out] at hown2
        have HO2 : Hid _ := hown2
        have HB2 : Hid _ := below_grow hbr hown hgrow2
        clear hown hown2 hgrow2 hbr hnil2
        go_wp2_with fail
        go_roundw
        case rel => exact ⟨k + 1, by omega, by go_num, HO2.out, HB2.out⟩
        case measure => simp [intOf]; omega
    · have hke : pat.take k = pat := List.take_of_length_le (by omega)
      rw [hke] at hown
      obtain ⟨a', cap', hv, hrow⟩ := Row.ofOwnsAny hown rfl HSM.out
      have HV : Hid _ := hv
      have HRW : Hid _ := hrow
      clear hown hcs hcs' hke hv hrow
      go_wp2_with fail
      go_ret
      exact ⟨a', cap', by rw [← HV.out]; rfl, HRW.out, hbr⟩

end Go.Proofs.Qxb6601526a
