import Derived.Test.Qxb6601706aNT
namespace Go.Proofs.Qxb6601706a
open Go.RowKit
set_option linter.unusedVariables false
set_option linter.unusedSimpArgs false

def ShSays (d : Nat) (T : NT d) (ir : Bool) (w : World) (e : Ending) (w' : World) : Prop :=
  ∃ (H : Nat) (ok : Bool), e = .returned (.tuple #[.int .i64 H, .bool ok]) ∧ (∃ m, w' = w.drewN m) ∧ H ≤ 9 ∧ (ok = true → ∃ h : Nat, H = h + 1 ∧ ShOk d T h ∧ (ir = false → 31 ≤ recs d T))
def ShStmt (d : Nat) : Prop := ∀ (rd : Rd) (v : Value) (T : NT d) (w : World) (ir : Bool), At rd d v T → Reads rd w → d ≤ 8 → Calls Try.prog 31 #[v, .bool ir, .int .i64 d] w (ShSays d T ir w)
theorem ShSays.no {d : Nat} {T : NT d} {ir : Bool} {w : World} (m : Nat) : ShSays d T ir w (.returned (.tuple #[.int .i64 0, .bool false])) (w.drewN m) := ⟨0, false, rfl, ⟨m, rfl⟩, by omega, fun h => by cases h⟩
def ShRelT (d : Nat) (w : World) (ks : List (NT d)) (hv cv : Value) (wr : World) : Prop :=
  ∃ (c x m : Nat), hv = .int .i64 x ∧ cv = .int .i64 c ∧ c ≤ ks.length ∧ x ≤ 8 ∧ wr = w.drewN m ∧ (c = 0 ∨ ∃ h, x = h + 1 ∧ ∀ k ∈ ks.take c, ShOk d k h ∧ 31 ≤ recs d k)

set_option maxHeartbeats 4000000 in
set_option maxRecDepth 100000 in
theorem shape31_nil (w : World) (ir : Bool) (B : Nat) : Calls Try.prog 31 #[.pointer none, .bool ir, .int .i64 B] w fun e w' => e = .returned (.tuple #[.int .i64 0, .bool false]) ∧ w' = w := by
  go_enter Try.func31, Try.ntmps31
  go_wp2
  go_returns
  exact ⟨rfl, rfl⟩
set_option maxHeartbeats 4000000 in
set_option maxRecDepth 100000 in
theorem shape31_zero (a : Addr) (w : World) (ir : Bool) : Calls Try.prog 31 #[.pointer (some a), .bool ir, .int .i64 0] w fun e w' => e = .returned (.tuple #[.int .i64 0, .bool false]) ∧ w' = w := by
  go_enter Try.func31, Try.ntmps31
  go_wp2
  go_returns
  exact ⟨rfl, rfl⟩

set_option maxHeartbeats 8000000 in
set_option maxRecDepth 100000 in
theorem shape31_step (d : Nat) (IH : ShStmt d) : ShStmt (d + 1) := by
  have HIH : Hid (ShStmt d) := IH
  clear IH
  intro rd v T w ir hat hrd hd
  cases T with
  | none =>
    have hv : v = .pointer none := hat
    subst hv
    refine (shape31_nil w ir (d + 1)).mono ?_
    rintro e w' ⟨rfl, rfl⟩
    exact ShSays.no 0
  | some n =>
    obtain ⟨hv, h1, h2, h3, h4, h5, h6⟩ := hat
    subst hv
    have c0 := hrd _ _ h1
    have c1 := hrd _ _ h2
    obtain ⟨b, o, rh, rc, kh, kc, rs, ks⟩ := n
    simp only at h1 h2 h3 h4 h5 h6 c0 c1
    have HK : Hid (∀ (i : Nat) (k : NT d), ks[i]? = some k → ∃ g o u, kh = some ⟨g, o, none⟩ ∧ rd ⟨g, o + i, none⟩ = some u ∧ At rd d u k) := h6
    have HD : Hid (Reads rd w) := hrd
    obtain ⟨nr, hnr⟩ : ∃ nr, nr = rs.length := ⟨_, rfl⟩
    obtain ⟨nk, hnk⟩ : ∃ nk, nk = ks.length := ⟨_, rfl⟩
    rw [← hnr] at c0 h3
    rw [← hnk] at c1 h4
    have HN : Hid (nr = rs.length ∧ nk = ks.length) := ⟨hnr, hnk⟩
    clear h1 h2 h5 h6 hrd hnr hnk
    unfold maxLen at h3 h4
    rw [show ((d + 1 : Nat) : Int) = (d : Int) + 1 by omega]
    have hd0 : ¬ ((d : Int) + 1 ≤ 0) := by omega
    by_cases hr : nr ≤ 63
    · have hr' : ¬ (63 < (nr : Int)) := by omega
      by_cases hmin : ir = false ∧ nr < 31
      · obtain ⟨rfl, hmin⟩ := hmin
        have hmin' : (nr : Int) < 31 := by omega
        go_enter Try.func31, Try.ntmps31
        go_wp2
        go_returns
        exact ShSays.no 0
      · have HM : Hid (ir = false → 31 ≤ nr) := fun h => by
          by_cases h2 : nr < 31
          · exact absurd ⟨h, h2⟩ hmin
          · omega
        clear hmin
        by_cases hk0 : nk = 0
        · subst hk0
          have HFIN : Hid (∀ m, ShSays (d + 1) (some ⟨b, o, rh, rc, kh, kc, rs, ks⟩) ir w (.returned (.tuple #[.int .i64 1, .bool true])) (w.drewN m)) := by
            intro m
            exact ⟨1, true, rfl, ⟨m, rfl⟩, by omega, fun _ => ⟨0, rfl, ⟨List.eq_nil_of_length_eq_zero HN.out.2.symm, by rw [← HN.out.1]; exact hr⟩, fun h => by show 31 ≤ rs.length; rw [← HN.out.1]; exact HM.out h⟩⟩
          cases ir with
          | true =>
            go_enter Try.func31, Try.ntmps31
            go_wp2
            go_returns
            exact HFIN.out 0
          | false =>
            have hm := HM.out rfl
            have hm' : ¬ ((nr : Int) < 31) := by omega
            go_enter Try.func31, Try.ntmps31
            go_wp2
            go_returns
            exact HFIN.out 0
        · have hk0' : ((nk : Int) == 0) = false := by rw [beq_eq_false_iff_ne]; omega
          by_cases hok : nr = 0 ∨ nk ≠ nr + 1
          · have HNO : Hid (∀ m, ShSays (d + 1) (some ⟨b, o, rh, rc, kh, kc, rs, ks⟩) ir w (.returned (.tuple #[.int .i64 0, .bool false])) (w.drewN m)) := fun m => ShSays.no m
            by_cases hr0 : nr = 0
            · subst hr0
              cases ir with
              | true =>
                go_enter Try.func31, Try.ntmps31
                go_wp2
                go_returns
                exact HNO.out 0
              | false => have := HM.out rfl; omega
            · have hr0' : ((nr : Int) == 0) = false := by rw [beq_eq_false_iff_ne]; omega
              have hne : ((nk : Int) == (nr : Int) + 1) = false := by rw [beq_eq_false_iff_ne]; omega
              cases ir with
              | true =>
                go_enter Try.func31, Try.ntmps31
                go_wp2
                go_returns
                exact HNO.out 0
              | false =>
                have hm := HM.out rfl
                have hm' : ¬ ((nr : Int) < 31) := by omega
                go_enter Try.func31, Try.ntmps31
                go_wp2
                go_returns
                exact HNO.out 0
          · have hr1 : 1 ≤ nr := by omega
            have hnk : nk = nr + 1 := by omega
            subst hnk
            have hr0' : ((nr : Int) == 0) = false := by rw [beq_eq_false_iff_ne]; omega
            have hz0 : ¬ ((nr : Int) + 1 = 0) := by omega
            clear hok hk0 hk0'
            cases ir with
            | true =>
              go_enter Try.func31, Try.ntmps31
              go_wp2
              try generalize ((nr : Int) + 1 == 0) = zz1
              try generalize (decide ((63 : Int) < (nr : Int)) || decide ((nr : Int) < 31)) = zz2
              try generalize decide ((63 : Int) < (nr : Int)) = zz3
              try generalize decide ((nr : Int) < 31) = zz4
              go_loopw [9, 10] (ShRelT d w ks) (fun _ cv _ => nr + 1 - (intOf cv).toNat)
              case atStart => exact ⟨0, 0, 0, rfl, rfl, Nat.zero_le _, by omega, rfl, .inl rfl⟩
              case round =>
                obtain ⟨c, x, m, rfl, rfl, hc, hx8, rfl, hcond⟩ := hrel
                have HC : Hid (c ≤ ks.length ∧ (c = 0 ∨ ∃ h, x = h + 1 ∧ ∀ k ∈ ks.take c, ShOk d k h ∧ 31 ≤ recs d k)) := ⟨hc, hcond⟩
                have hcn : c ≤ nr + 1 := by have := HN.out.2; omega
                clear hc hcond
                by_cases hlt : c < nr + 1
                · obtain ⟨kd, hkd⟩ : ∃ kd, ks[c]? = some kd := ⟨_, List.getElem?_eq_getElem (by have := HN.out; omega)⟩
                  obtain ⟨g, og, u, hkh, p0, hat⟩ := HK.out c kd hkd
                  have q0 := HD.out _ _ p0
                  obtain ⟨q, hq⟩ := At.pointer d u kd hat
                  subst hq
                  have HCL : Hid (Calls Try.prog 31 #[.pointer q, .bool false, .int .i64 d] (w.drewN m) (ShSays d kd false (w.drewN m))) := HIH.out rd (.pointer q) kd (w.drewN m) false hat (HD.out.drewN m) (by omega)
                  have HE : Hid (ks[c]? = some kd) := hkd
                  subst hkh
                  simp only [adr, Option.map_some] at c1
                  clear p0 hkd hat
                  as_aux_lemma =>
                    go_upto_if 75 with (go_at_call 31; refine HCL.out.mono ?_; rintro e w' ⟨H, ok, rfl, ⟨m', rfl⟩, hH9, hok⟩; have HO : Hid (ok = true → ∃ h : Nat, H = h + 1 ∧ ShOk d kd h ∧ (false = false → 31 ≤ recs d kd)) := hok; clear hok)
                    cases ok with
                    | false =>
                      go_wp2
                      go_returns
                      exact ⟨0, false, rfl, ⟨m + m', by simp [World.drewN, Nat.add_assoc]⟩, by omega, fun h => by cases h⟩
                    | true =>
                      obtain ⟨h, hH, hs, hrc⟩ := HO.out rfl
                      have hh8 := ShOk.lt d kd h hs
                      subst hH
                      have HS : Hid (ShOk d kd h ∧ 31 ≤ recs d kd) := ⟨hs, hrc (by trivial)⟩
                      clear HO hs hrc
                      by_cases hc0 : c = 0
                      · subst hc0
                        go_wp2
                        go_roundw
                        case rel =>
                          refine ⟨1, h + 1, m + m', by go_num, by go_num, by have := HN.out; omega, by omega, by simp [World.drewN, Nat.add_assoc], .inr ⟨h, rfl, fun k hk => ?_⟩⟩
                          rw [List.take_add_one, HE.out] at hk
                          simp at hk
                          subst hk; exact HS.out
                        case measure => simp [intOf] <;> omega
                      · have hc0' : ((c : Int) == 0) = false := by rw [beq_eq_false_iff_ne]; omega
                        rcases HC.out.2 with h0 | ⟨h2, hx2, hall⟩
                        · exact absurd h0 hc0
                        have HA : Hid (∀ k ∈ ks.take c, ShOk d k h2 ∧ 31 ≤ recs d k) := hall
                        clear hall
                        by_cases hhx : h + 1 = x
                        · have hxh : h2 = h := by omega
                          subst hxh
                          have hcmp : (((h2 + 1 : Nat) : Int) == (x : Int)) = true := by rw [beq_iff_eq]; omega
                          subst hhx
                          clear hx2
                          go_wp2
                          go_roundw
                          case rel =>
                            refine ⟨c + 1, h2 + 1, m + m', by go_num, by go_num, by have := HN.out; omega, by omega, by simp [World.drewN, Nat.add_assoc], .inr ⟨h2, rfl, fun k hk => ?_⟩⟩
                            rw [List.take_add_one, HE.out] at hk
                            rcases List.mem_append.1 hk with hk | hk
                            · exact HA.out k hk
                            · simp at hk; subst hk; exact HS.out
                          case measure => simp [intOf] <;> omega
                        · have hcmp : (((h + 1 : Nat) : Int) == (x : Int)) = false := by rw [beq_eq_false_iff_ne]; omega
                          have hcmp2 : ((h : Int) + 1 == (x : Int)) = false := by rw [beq_eq_false_iff_ne]; omega
                          clear hx2
                          go_wp2
                          go_returns
                          exact ⟨0, false, rfl, ⟨m + m', by simp [World.drewN, Nat.add_assoc]⟩, by omega, fun h => by cases h⟩
                · have hcn2 : c = nr + 1 := by omega
                  subst hcn2
                  as_aux_lemma =>
                    rcases HC.out.2 with h0 | ⟨h2, hx2, hall⟩
                    · omega
                    have HA : Hid (∀ k ∈ ks.take (nr + 1), ShOk d k h2 ∧ 31 ≤ recs d k) := hall
                    subst hx2
                    clear hall
                    go_wp2
                    go_returns
                    refine ⟨h2 + 2, true, by go_num, ⟨m, rfl⟩, by omega, fun _ => ⟨h2 + 1, rfl, ⟨?_, ?_, ?_, ?_⟩, fun h => ?_⟩⟩
                    · show ks.length = rs.length + 1; have := HN.out; omega
                    · show rs.length ≤ 63; have := HN.out; omega
                    · show 1 ≤ rs.length; have := HN.out; omega
                    · intro k hk
                      refine HA.out k ?_
                      rw [HN.out.2, List.take_length]; exact hk
                    · show 31 ≤ rs.length
                      rw [← HN.out.1]; exact HM.out (by first | exact h | trivial)
            | false =>
              have hm := HM.out rfl
              have hm' : ¬ ((nr : Int) < 31) := by omega
              go_enter Try.func31, Try.ntmps31
              go_wp2
              clear hm hm'
              try generalize ((nr : Int) + 1 == 0) = zz1
              try generalize (decide ((63 : Int) < (nr : Int)) || decide ((nr : Int) < 31)) = zz2
              try generalize decide ((63 : Int) < (nr : Int)) = zz3
              try generalize decide ((nr : Int) < 31) = zz4
              go_loopw [9, 10] (ShRelT d w ks) (fun _ cv _ => nr + 1 - (intOf cv).toNat)
              case atStart => exact ⟨0, 0, 0, rfl, rfl, Nat.zero_le _, by omega, rfl, .inl rfl⟩
              case round =>
                obtain ⟨c, x, m, rfl, rfl, hc, hx8, rfl, hcond⟩ := hrel
                have HC : Hid (c ≤ ks.length ∧ (c = 0 ∨ ∃ h, x = h + 1 ∧ ∀ k ∈ ks.take c, ShOk d k h ∧ 31 ≤ recs d k)) := ⟨hc, hcond⟩
                have hcn : c ≤ nr + 1 := by have := HN.out.2; omega
                clear hc hcond
                by_cases hlt : c < nr + 1
                · obtain ⟨kd, hkd⟩ : ∃ kd, ks[c]? = some kd := ⟨_, List.getElem?_eq_getElem (by have := HN.out; omega)⟩
                  obtain ⟨g, og, u, hkh, p0, hat⟩ := HK.out c kd hkd
                  have q0 := HD.out _ _ p0
                  obtain ⟨q, hq⟩ := At.pointer d u kd hat
                  subst hq
                  have HCL : Hid (Calls Try.prog 31 #[.pointer q, .bool false, .int .i64 d] (w.drewN m) (ShSays d kd false (w.drewN m))) := HIH.out rd (.pointer q) kd (w.drewN m) false hat (HD.out.drewN m) (by omega)
                  have HE : Hid (ks[c]? = some kd) := hkd
                  subst hkh
                  simp only [adr, Option.map_some] at c1
                  clear p0 hkd hat
                  as_aux_lemma =>
                    go_upto_if 75 with (go_at_call 31; refine HCL.out.mono ?_; rintro e w' ⟨H, ok, rfl, ⟨m', rfl⟩, hH9, hok⟩; have HO : Hid (ok = true → ∃ h : Nat, H = h + 1 ∧ ShOk d kd h ∧ (false = false → 31 ≤ recs d kd)) := hok; clear hok)
                    cases ok with
                    | false =>
                      go_wp2
                      go_returns
                      exact ⟨0, false, rfl, ⟨m + m', by simp [World.drewN, Nat.add_assoc]⟩, by omega, fun h => by cases h⟩
                    | true =>
                      obtain ⟨h, hH, hs, hrc⟩ := HO.out rfl
                      have hh8 := ShOk.lt d kd h hs
                      subst hH
                      have HS : Hid (ShOk d kd h ∧ 31 ≤ recs d kd) := ⟨hs, hrc (by trivial)⟩
                      clear HO hs hrc
                      by_cases hc0 : c = 0
                      · subst hc0
                        go_wp2
                        go_roundw
                        case rel =>
                          refine ⟨1, h + 1, m + m', by go_num, by go_num, by have := HN.out; omega, by omega, by simp [World.drewN, Nat.add_assoc], .inr ⟨h, rfl, fun k hk => ?_⟩⟩
                          rw [List.take_add_one, HE.out] at hk
                          simp at hk
                          subst hk; exact HS.out
                        case measure => simp [intOf] <;> omega
                      · have hc0' : ((c : Int) == 0) = false := by rw [beq_eq_false_iff_ne]; omega
                        rcases HC.out.2 with h0 | ⟨h2, hx2, hall⟩
                        · exact absurd h0 hc0
                        have HA : Hid (∀ k ∈ ks.take c, ShOk d k h2 ∧ 31 ≤ recs d k) := hall
                        clear hall
                        by_cases hhx : h + 1 = x
                        · have hxh : h2 = h := by omega
                          subst hxh
                          have hcmp : (((h2 + 1 : Nat) : Int) == (x : Int)) = true := by rw [beq_iff_eq]; omega
                          subst hhx
                          clear hx2
                          go_wp2
                          go_roundw
                          case rel =>
                            refine ⟨c + 1, h2 + 1, m + m', by go_num, by go_num, by have := HN.out; omega, by omega, by simp [World.drewN, Nat.add_assoc], .inr ⟨h2, rfl, fun k hk => ?_⟩⟩
                            rw [List.take_add_one, HE.out] at hk
                            rcases List.mem_append.1 hk with hk | hk
                            · exact HA.out k hk
                            · simp at hk; subst hk; exact HS.out
                          case measure => simp [intOf] <;> omega
                        · have hcmp : (((h + 1 : Nat) : Int) == (x : Int)) = false := by rw [beq_eq_false_iff_ne]; omega
                          have hcmp2 : ((h : Int) + 1 == (x : Int)) = false := by rw [beq_eq_false_iff_ne]; omega
                          clear hx2
                          go_wp2
                          go_returns
                          exact ⟨0, false, rfl, ⟨m + m', by simp [World.drewN, Nat.add_assoc]⟩, by omega, fun h => by cases h⟩
                · have hcn2 : c = nr + 1 := by omega
                  subst hcn2
                  as_aux_lemma =>
                    rcases HC.out.2 with h0 | ⟨h2, hx2, hall⟩
                    · omega
                    have HA : Hid (∀ k ∈ ks.take (nr + 1), ShOk d k h2 ∧ 31 ≤ recs d k) := hall
                    subst hx2
                    clear hall
                    go_wp2
                    go_returns
                    refine ⟨h2 + 2, true, by go_num, ⟨m, rfl⟩, by omega, fun _ => ⟨h2 + 1, rfl, ⟨?_, ?_, ?_, ?_⟩, fun h => ?_⟩⟩
                    · show ks.length = rs.length + 1; have := HN.out; omega
                    · show rs.length ≤ 63; have := HN.out; omega
                    · show 1 ≤ rs.length; have := HN.out; omega
                    · intro k hk
                      refine HA.out k ?_
                      rw [HN.out.2, List.take_length]; exact hk
                    · show 31 ≤ rs.length
                      rw [← HN.out.1]; exact HM.out (by first | exact h | trivial)
    · have hr' : (63 < (nr : Int)) := by omega
      go_enter Try.func31, Try.ntmps31
      go_wp2
      go_returns
      exact ShSays.no 0

theorem shape31 : ∀ d, ShStmt d
  | 0 => by
    intro rd v T w ir hat hrd hd
    obtain ⟨q, rfl⟩ := hat
    cases q with
    | none =>
      refine (shape31_nil w ir 0).mono ?_
      rintro e w' ⟨rfl, rfl⟩
      exact ShSays.no 0
    | some a =>
      refine (shape31_zero a w ir).mono ?_
      rintro e w' ⟨rfl, rfl⟩
      exact ShSays.no 0
  | d + 1 => shape31_step d (shape31 d)

end Go.Proofs.Qxb6601706a
