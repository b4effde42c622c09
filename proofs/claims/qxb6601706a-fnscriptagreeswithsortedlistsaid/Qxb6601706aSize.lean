import Derived.Test.Qxb6601706aNT
namespace Go.Proofs.Qxb6601706a
open Go.RowKit
set_option linter.unusedVariables false
set_option linter.unusedSimpArgs false

def SizeSays (d : Nat) (T : NT d) (acc : Nat) (w : World) (e : Ending) (w' : World) : Prop :=
  ∃ r : Nat, e = .returned (.int .i64 r) ∧ (∃ m, w' = w.drewN m) ∧ r ≤ 16777216 ∧ (r ≤ 1048576 → acc + cntT d T * 56 ≤ r ∧ ValT d T)
def SizeStmt (d : Nat) : Prop := ∀ (rd : Rd) (v : Value) (T : NT d) (w : World) (acc : Nat), At rd d v T → Reads rd w → acc ≤ 16777216 → d ≤ 8 →
    Calls Try.prog 8 #[v, .int .i64 acc, .int .i64 d] w (SizeSays d T acc w)

theorem SizeSays.big {d : Nat} {T : NT d} {acc : Nat} {w : World} (m : Nat) (r : Nat) (h1 : r ≤ 16777216) (h2 : 1048576 < r) : SizeSays d T acc w (.returned (.int .i64 r)) (w.drewN m) :=
  ⟨r, rfl, ⟨m, rfl⟩, h1, fun h => by omega⟩

def SzRel1 (w : World) (acc : Nat) (rs : List Ent) (av kv : Value) (wr : World) : Prop :=
  ∃ (k a m : Nat), av = .int .i64 a ∧ kv = .int .i64 k ∧ k ≤ rs.length ∧ a ≤ 16777216 ∧ wr = w.drewN m ∧ acc + k * 56 ≤ a ∧ ∀ e ∈ rs.take k, e.vl ≤ 1048576
def SzRel2 (d : Nat) (w : World) (acc : Nat) (rs : List Ent) (ks : List (NT d)) (av kv : Value) (wr : World) : Prop :=
  ∃ (k a m : Nat), av = .int .i64 a ∧ kv = .int .i64 k ∧ k ≤ ks.length ∧ a ≤ 16777216 ∧ wr = w.drewN m ∧ (a ≤ 1048576 → acc + (rs.length + ((ks.take k).map (cntT d)).sum) * 56 ≤ a ∧ (∀ e ∈ rs, e.vl ≤ 1048576) ∧ ∀ x ∈ ks.take k, ValT d x)

set_option maxHeartbeats 4000000 in
set_option maxRecDepth 100000 in
theorem size8_nil (v : Value) (w : World) (acc : Nat) (B : Nat) : Calls Try.prog 8 #[.pointer none, .int .i64 acc, .int .i64 B] w fun e w' => e = .returned (.int .i64 acc) ∧ w' = w := by
  go_enter Try.func8, Try.ntmps8
  go_wp2
  go_returns
  exact ⟨rfl, rfl⟩
set_option maxHeartbeats 4000000 in
set_option maxRecDepth 100000 in
theorem size8_zero (a : Addr) (w : World) (acc : Nat) : Calls Try.prog 8 #[.pointer (some a), .int .i64 acc, .int .i64 0] w fun e w' => e = .returned (.int .i64 1048577) ∧ w' = w := by
  go_enter Try.func8, Try.ntmps8
  go_wp2
  go_returns
  exact ⟨rfl, rfl⟩

set_option maxHeartbeats 8000000 in
set_option maxRecDepth 100000 in
theorem size8_step (d : Nat) (IH : SizeStmt d) : SizeStmt (d + 1) := by
  have HIH : Hid (SizeStmt d) := IH
  clear IH
  intro rd v T w acc hat hrd hacc hd
  cases T with
  | none =>
    have hv : v = .pointer none := hat
    subst hv
    refine (size8_nil (.pointer none) w acc (d + 1)).mono ?_
    rintro e w' ⟨rfl, rfl⟩
    exact ⟨acc, rfl, ⟨0, rfl⟩, hacc, fun _ => ⟨by simp [cntT], trivial⟩⟩
  | some n =>
    obtain ⟨hv, h1, h2, h3, h4, h5, h6⟩ := hat
    subst hv
    have c0 := hrd _ _ h1
    have c1 := hrd _ _ h2
    obtain ⟨b, o, rh, rc, kh, kc, rs, ks⟩ := n
    simp only at h1 h2 h3 h4 h5 h6 c0 c1
    have HR : Hid (RowAt rd rh rs) := h5
    have HK : Hid (∀ (i : Nat) (k : NT d), ks[i]? = some k → ∃ g o u, kh = some ⟨g, o, none⟩ ∧ rd ⟨g, o + i, none⟩ = some u ∧ At rd d u k) := h6
    have HD : Hid (Reads rd w) := hrd
    obtain ⟨nr, hnr⟩ : ∃ nr, nr = rs.length := ⟨_, rfl⟩
    obtain ⟨nk, hnk⟩ : ∃ nk, nk = ks.length := ⟨_, rfl⟩
    rw [← hnr] at c0 h3
    rw [← hnk] at c1 h4
    have HN : Hid (nr = rs.length ∧ nk = ks.length) := ⟨hnr, hnk⟩
    clear h1 h2 h5 h6 hrd hnr hnk
    unfold maxLen at h3 h4
    rw [show ((d + 1 : Nat) : Int) = (d : Int) + 1 by omega]
    have hd0 : ¬ ((d : Int) + 1 ≤ 0) := by omega
    by_cases ha : acc ≤ 1048576
    · by_cases hk : nk ≤ 1048576
      · by_cases hr : nr ≤ 1048576
        · have ha' : ¬ (1048576 < (acc : Int)) := by omega
          have hk' : ¬ (1048576 < (nk : Int)) := by omega
          have hr' : ¬ (1048576 < (nr : Int)) := by omega
          go_enter Try.func8, Try.ntmps8
          go_wp2
          go_loopw [1, 7] (SzRel1 w acc rs) (fun _ kv _ => nr - (intOf kv).toNat)
          case atStart =>
            refine ⟨0, acc + 8 * nk, 0, ?_, rfl, Nat.zero_le _, by omega, rfl, by omega, by simp⟩
            go_num
          case round =>
            obtain ⟨k, a, m, rfl, rfl, hkr, ha2, rfl, hak, hval⟩ := hrel
            have HV : Hid (acc + k * 56 ≤ a ∧ (∀ e ∈ rs.take k, e.vl ≤ 1048576) ∧ k ≤ rs.length) := ⟨hak, hval, hkr⟩
            clear hak hval hkr
            have hkn : k ≤ nr := by have := HN.out.1; have := HV.out.2.2; omega
            by_cases hlt : k < nr
            · by_cases hac : a ≤ 1048576
              · obtain ⟨e, he⟩ : ∃ e, rs[k]? = some e := ⟨_, List.getElem?_eq_getElem (by have := HN.out; omega)⟩
                obtain ⟨g, og, hrh, p0, p1, p2, p3, pb⟩ := HR.out k e he
                have q0 := HD.out _ _ p0
                have q1 := HD.out _ _ p1
                have HE : Hid (rs[k]? = some e) := he
                subst hrh
                simp only [adr, Option.map_some] at c0
                clear p0 p1 p2 p3 pb he
                have hac' : ¬ (1048576 < (a : Int)) := by omega
                by_cases hkl : e.key.size ≤ 1048576
                · by_cases hvl : e.vl ≤ 1048576
                  · as_aux_lemma =>
                      have hkl' : ¬ (1048576 < (e.key.size : Int)) := by omega
                      have hvl' : ¬ (1048576 < (e.vl : Int)) := by omega
                      have hlti : (k : Int) < nr := by omega
                      go_upto_region 13 with (fail)
                      go_quiet (fail)
                      go_wp2
                      go_roundw
                      case rel =>
                        refine ⟨k + 1, a + (56 + e.key.size + e.vl), _, by go_num, by go_num, by have := HN.out; omega, by omega, rfl, by have := HV.out.1; omega, ?_⟩
                        intro x hx
                        rw [List.take_add_one, HE.out] at hx
                        rcases List.mem_append.1 hx with h | h
                        · exact HV.out.2.1 x h
                        · simp at h; subst h; exact hvl
                      case measure => simp [intOf] <;> omega
                  · as_aux_lemma =>
                      have hkl' : ¬ (1048576 < (e.key.size : Int)) := by omega
                      have hvl' : (1048576 < (e.vl : Int)) := by omega
                      go_wp2
                      go_returns
                      exact SizeSays.big m 1048577 (by omega) (by omega)
                · as_aux_lemma =>
                    have hkl' : (1048576 < (e.key.size : Int)) := by omega
                    go_wp2
                    go_returns
                    exact SizeSays.big m 1048577 (by omega) (by omega)
              · as_aux_lemma =>
                  have hac' : (1048576 < (a : Int)) := by omega
                  go_wp2
                  go_returns
                  exact SizeSays.big m a (by omega) (by omega)
            · have hkn2 : k = nr := by omega
              have HV1 : Hid (acc + rs.length * 56 ≤ a ∧ (∀ e ∈ rs, e.vl ≤ 1048576)) := by
                obtain ⟨h1, h2, h3⟩ := HV.out
                have hk2 : k = rs.length := by have := HN.out.1; omega
                rw [hk2, List.take_length] at h2
                rw [hk2] at h1
                exact ⟨h1, h2⟩
              subst hkn2
              clear HV
              as_aux_lemma =>
                go_wp2
                go_loopw [1, 8] (SzRel2 d w acc rs ks) (fun _ kv _ => nk - (intOf kv).toNat)
                case atStart => exact ⟨0, a, m, rfl, rfl, Nat.zero_le _, ha2, rfl, fun _ => ⟨by simp; exact HV1.out.1, HV1.out.2, by simp⟩⟩
                case round =>
                  clear ha2 HV1
                  obtain ⟨j, a2, m2, rfl, rfl, hjk, ha3, rfl, hcond⟩ := hrel
                  have HV2 : Hid (j ≤ ks.length ∧ (a2 ≤ 1048576 → acc + (rs.length + ((ks.take j).map (cntT d)).sum) * 56 ≤ a2 ∧ (∀ e ∈ rs, e.vl ≤ 1048576) ∧ ∀ x ∈ ks.take j, ValT d x)) := ⟨hjk, hcond⟩
                  clear hjk hcond
                  have hjn : j ≤ nk := by have := HN.out.2; have := HV2.out.1; omega
                  by_cases hjl : j < nk
                  · by_cases hac2 : a2 ≤ 1048576
                    · obtain ⟨kd, hkd⟩ : ∃ kd, ks[j]? = some kd := ⟨_, List.getElem?_eq_getElem (by have := HN.out; omega)⟩
                      obtain ⟨g, og, u, hkh, p0, hat⟩ := HK.out j kd hkd
                      have q0 := HD.out _ _ p0
                      obtain ⟨q, hq⟩ := At.pointer d u kd hat
                      subst hq
                      have HC : Hid (Calls Try.prog 8 #[.pointer q, .int .i64 a2, .int .i64 d] (w.drewN m2) (SizeSays d kd a2 (w.drewN m2))) := HIH.out rd (.pointer q) kd (w.drewN m2) a2 hat (HD.out.drewN m2) ha3 (by omega)
                      have HE : Hid (ks[j]? = some kd) := hkd
                      subst hkh
                      simp only [adr, Option.map_some] at c1
                      clear p0 hkd hat
                      have hac' : ¬ (1048576 < (a2 : Int)) := by omega
                      as_aux_lemma =>
                        go_wp2_with (go_at_call 8; refine HC.out.mono ?_; rintro e w' ⟨r, rfl, ⟨m', rfl⟩, hr1, hr2⟩; have HR2 : Hid (r ≤ 1048576 → a2 + cntT d kd * 56 ≤ r ∧ ValT d kd) := hr2; clear hr2)
                        go_roundw
                        case rel =>
                          refine ⟨j + 1, r, m2 + m', rfl, by go_num, by have := HN.out; omega, hr1, by simp [World.drewN, Nat.add_assoc], fun hle => ?_⟩
                          obtain ⟨h1, h2⟩ := HR2.out hle
                          obtain ⟨h3, h4, h5⟩ := HV2.out.2 hac2
                          rw [List.take_add_one, HE.out]
                          refine ⟨?_, h4, fun x hx => ?_⟩
                          · simp only [Option.toList_some, List.map_append, List.map_cons, List.map_nil, List.sum_append, List.sum_cons, List.sum_nil]
                            omega
                          · rcases List.mem_append.1 hx with h | h
                            · exact h5 x h
                            · simp at h; subst h; exact h2
                        case measure => simp [intOf] <;> omega
                    · as_aux_lemma =>
                        have hac' : (1048576 < (a2 : Int)) := by omega
                        go_wp2
                        go_returns
                        exact SizeSays.big m2 a2 (by omega) (by omega)
                  · have hjn2 : j = nk := by omega
                    subst hjn2
                    as_aux_lemma =>
                      go_wp2
                      go_returns
                      refine ⟨a2, rfl, ⟨m2, rfl⟩, ha3, fun hle => ?_⟩
                      obtain ⟨h3, h4, h5⟩ := HV2.out.2 hle
                      rw [HN.out.2, List.take_length] at h3 h5
                      exact ⟨by simp only [cntT]; exact h3, h4, h5⟩
        · have ha' : ¬ (1048576 < (acc : Int)) := by omega
          have hk' : ¬ (1048576 < (nk : Int)) := by omega
          have hr' : (1048576 < (nr : Int)) := by omega
          go_enter Try.func8, Try.ntmps8
          go_wp2
          go_returns
          exact SizeSays.big 0 1048577 (by omega) (by omega)
      · have ha' : ¬ (1048576 < (acc : Int)) := by omega
        have hk' : (1048576 < (nk : Int)) := by omega
        go_enter Try.func8, Try.ntmps8
        go_wp2
        go_returns
        exact SizeSays.big 0 1048577 (by omega) (by omega)
    · have ha' : (1048576 < (acc : Int)) := by omega
      go_enter Try.func8, Try.ntmps8
      go_wp2
      go_returns
      exact SizeSays.big 0 1048577 (by omega) (by omega)

theorem size8 : ∀ d, SizeStmt d
  | 0 => by
    intro rd v T w acc hat hrd hacc hd
    obtain ⟨q, rfl⟩ := hat
    cases q with
    | none =>
      refine (size8_nil (.pointer none) w acc 0).mono ?_
      rintro e w' ⟨rfl, rfl⟩
      exact ⟨acc, rfl, ⟨0, rfl⟩, hacc, fun _ => ⟨by simp [cntT], trivial⟩⟩
    | some a =>
      refine (size8_zero a w acc).mono ?_
      rintro e w' ⟨rfl, rfl⟩
      exact ⟨1048577, rfl, ⟨0, rfl⟩, by omega, fun h => by omega⟩
  | d + 1 => size8_step d (size8 d)

end Go.Proofs.Qxb6601706a
