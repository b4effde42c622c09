import Derived.Test.Qxb6601706aDelQ
import Derived.Test.Qxb6601706aLast
import Derived.Test.Qxb6601706aLex4
namespace Go.Proofs.Qxb6601706a
open Go.RowKit
set_option linter.unusedVariables false
set_option linter.unusedSimpArgs false

def DelSays (w : World) (h b : Nat) (own : List Nat) (fl : List Ent) (key : ByteArray) (r : Nat) (en : Ending) (w' : World) : Prop :=
  ∃ (ok : Bool) (c' : Kid), en = .returned (.bool ok) ∧ St w own w' [Res.tree h c'] ∧ c'.b = b ∧ c'.fl = deleteL key fl ∧ r ≤ c'.r + 1 ∧ (ok = true ↔ Has key fl)
def DelRel (RR : Bool → World → Prop) (k : Nat) (v kv : Value) (wr : World) : Prop := ∃ (b : Nat) (key : ByteArray), v = .pointer (some ⟨b, 0, none⟩) ∧ kv = .string key ∧ DelInv RR key k b wr

set_option maxHeartbeats 1000000 in
set_option maxRecDepth 100000 in
theorem delete36 (key : ByteArray) {w : World} {h b : Nat} {rv kv : Value} {rs : List Ent} {ks : List Kid} (hh : Holds w (parts h b rv kv rs ks)) (hr : rs.length ≤ 63) (hkl : KLen h ks rs) (hkm : ∀ c ∈ ks, 31 ≤ c.r) (h1 : h ≠ 0 → 1 ≤ rs.length) (hs : Sorted (weave ks rs)) :
    Calls Try.prog 36 #[.pointer (some ⟨b, 0, none⟩), .string key] w (DelSays w h b (bl (parts h b rv kv rs ks)) (weave ks rs) key rs.length) := by
  obtain ⟨RR, hRR⟩ : ∃ RR : Bool → World → Prop, RR = fun ok w' => DelSays w h b (bl (parts h b rv kv rs ks)) (weave ks rs) key rs.length (.returned (.bool ok)) w' := ⟨_, rfl⟩
  have HI0 : Hid (DelInv RR key h b w) := by
    refine ⟨rs, ks, rv, kv, hh, hr, hkl, hkm, h1, hs, ?_⟩
    rintro ok w' ⟨c', S, t1, t2, t3, t4⟩
    rw [hRR]
    exact ⟨ok, c', rfl, S, t1, t2, t3, t4⟩
  have HRR : Hid (∀ ok w', RR ok w' → DelSays w h b (bl (parts h b rv kv rs ks)) (weave ks rs) key rs.length (.returned (.bool ok)) w') := by intro ok w' hx; rw [hRR] at hx; exact hx
  obtain ⟨PP, hPP⟩ : ∃ PP : Ending → World → Prop, PP = DelSays w h b (bl (parts h b rv kv rs ks)) (weave ks rs) key rs.length := ⟨_, rfl⟩
  rw [← hPP] at HRR ⊢
  clear hRR hPP hh hr hkl hkm h1 hs
  go_enter Try.func36, Try.ntmps36
  go_wp2
  go_loopg [0, 1] h (DelRel RR)
  case atStart => exact ⟨b, key, rfl, rfl, HI0.out⟩
  case round =>
    clear HI0
    obtain ⟨b1, key1, rfl, rfl, rs1, ks1, rv1, kv1, hh, hr, hkl, hkm, hz, hs, hw⟩ := hrel
    have S0 := St.start hh
    have hrs : Sorted rs1 := hs.sublist (weave_sub hkl)
    have HSR : Hid (Calls Try.prog 44 #[.pointer (some ⟨b1, 0, none⟩), .string key1] wr (SearchSays wr rs1 key1)) := search44 key1 (S0.h.ok (Res.node b1 rv1 kv1) (by simp [parts])) (S0.h.ok (Res.rowE rv1 rs1) (by simp [parts])) (by omega) hrs
    have HS0 : Hid (St wr (bl (parts gk b1 rv1 kv1 rs1 ks1)) wr (parts gk b1 rv1 kv1 rs1 ks1)) := S0
    have HF : Hid (rs1.length ≤ 63 ∧ KLen gk ks1 rs1 ∧ (∀ c ∈ ks1, 31 ≤ c.r) ∧ (gk ≠ 0 → 1 ≤ rs1.length) ∧ Sorted (weave ks1 rs1) ∧ Sorted rs1) := ⟨hr, hkl, hkm, hz, hs, hrs⟩
    have HW : Hid (∀ ok w', DelStep key1 wr gk b1 rv1 kv1 rs1 ks1 ok w' → RR ok w') := hw
    clear hr hkl hkm hz hs hw hh S0 hrs
    go_upto_if 18 with (first
      | (go_at_call 44; refine HSR.out.mono ?_; rintro e4 w1 ⟨i, ok, rfl, hi, hlo, hhi, hok, hg⟩; have HS1 : Hid (St wr (bl (parts gk b1 rv1 kv1 rs1 ks1)) w1 (parts gk b1 rv1 kv1 rs1 ks1)) := HS0.out.grow hg; have HLO : Hid (i ≤ rs1.length ∧ (∀ x ∈ rs1.take i, Lt x.key key1) ∧ ∀ x ∈ rs1.drop i, ¬ Lt x.key key1) := ⟨hi, rs_apart hi hlo hhi⟩; have HOK : Hid (ok = true ↔ ∃ x, rs1[i]? = some x ∧ x.key = key1) := hok; have HLF : Hid (Calls Try.prog 39 #[.pointer (some ⟨b1, 0, none⟩)] w1 fun e w' => e = .returned (.bool (decide (ks1.length = 0))) ∧ w' = w1) := leaf39 (HS1.out.h.ok (Res.node b1 rv1 kv1) (by simp [parts])) (HS1.out.h.ok (Res.rowN kv1 ks1) (by simp [parts])); clear hi hlo hhi hok hg HS0 HSR)
      | (go_at_call 39; refine HLF.out.mono ?_; rintro e5 w2 ⟨rfl, hw2⟩; replace hw2 := hw2.symm; subst hw2))
    clear HLF
    obtain ⟨c0, c1, f0, f1, blt⟩ := node_cells (HS1.out.h.ok (Res.node b1 rv1 kv1) (by simp [parts]))
    by_cases hk0 : ks1 = []
    · subst hk0
      obtain rfl : gk = 0 := by
        by_cases h : gk = 0
        · exact h
        · have := HF.out.2.1.2 h; simp at this
      cases ok with
      | false =>
        as_aux_lemma =>
          have hgt := rs_after HF.out.2.2.2.2.2 HLO.out.2.2 (fun h => by have := HOK.out.2 h; cases this)
          have HFIN : Hid (PP (.returned (.bool false)) w1) := by
            refine HRR.out _ _ (HW.out _ _ ?_)
            have hall : ∀ x ∈ rs1, x.key ≠ key1 := by
              intro x hx
              rw [← List.take_append_drop i rs1] at hx
              rcases List.mem_append.1 hx with hx | hx
              · exact (HLO.out.2.1 x hx).ne
              · exact (hgt x hx).ne.symm
            have SS : St wr (bl (parts 0 b1 rv1 kv1 rs1 [])) w1 ([] ++ (parts 0 b1 rv1 kv1 rs1 [] ++ [])) := by rw [List.append_nil]; exact HS1.out
            obtain ⟨c', T, t1, t2, t3⟩ := St.shut [] [] SS HF.out.1 HF.out.2.1 (by simp)
            refine ⟨c', T, t1, ?_, by omega, ?_⟩
            · rw [t3]; exact (deleteL_ne hall).symm
            · simp only [Bool.false_eq_true, false_iff]
              rintro ⟨x, hx, e⟩
              exact hall x hx e
          clear HF HW HRR HLO HOK hgt
          go_wp2_with fail
          try go_returns
          exact HFIN.out
      | true =>
        obtain ⟨x, hx, hxk⟩ := HOK.out.1 rfl
        have hil : i < rs1.length := (List.getElem?_eq_some_iff.1 hx).1
        obtain ⟨r1, r2, hr12, hri⟩ : ∃ r1 r2, rs1 = r1 ++ ([x] ++ r2) ∧ r1.length = i := by
          refine ⟨rs1.take i, rs1.drop (i + 1), ?_, by simp; omega⟩
          obtain ⟨h1, h2⟩ := List.getElem?_eq_some_iff.1 hx
          rw [← h2, List.singleton_append, ← List.drop_eq_getElem_cons, List.take_append_drop]
        have hown0 : OwnE w1 52 rv1 rs1 := HS1.out.h.ok (Res.rowE rv1 rs1) (by simp [parts])
        rcases hown0.form with ⟨_, h0⟩ | ⟨rg, rcap, rfl, hrg, hrn, hrc⟩
        · rw [h0] at hil; simp at hil
        obtain ⟨n, hn⟩ : ∃ n, n = rs1.length := ⟨_, rfl⟩
        rw [← hn] at c0 hrn HW HS1
        have HDE : Hid (Calls Try.prog 38 #[.slice (some ⟨rg, 0, none⟩) n rcap, .int .i64 i, .int .i64 ((i : Int) + 1)] w1 (RowESays wr (bl (parts 0 b1 (.slice (some ⟨rg, 0, none⟩) n rcap) kv1 rs1 [])) [Res.node b1 (.slice (some ⟨rg, 0, none⟩) n rcap) kv1] [Res.rowN kv1 []] (r1 ++ r2))) := by
          have S1 := HS1.out
          have S2 : St wr (bl (parts 0 b1 (.slice (some ⟨rg, 0, none⟩) n rcap) kv1 rs1 [])) w1 ([Res.node b1 (.slice (some ⟨rg, 0, none⟩) n rcap) kv1] ++ Res.rowE (.slice (some ⟨rg, 0, none⟩) n rcap) (r1 ++ ([x] ++ r2)) :: [Res.rowN kv1 []]) := by
            rw [← hr12]; exact S1
          have := delE_st _ _ (i := i) (j := i + 1) S2 (by have := congrArg List.length hr12; simp at this ⊢; omega) (by have := HF.out.1; omega) hri (by simp; omega) (by simp)
          rw [show ((i + 1 : Nat) : Int) = (i : Int) + 1 by omega] at this
          exact this
        have HFIN : Hid (∀ g zn cap w3, zn = (r1 ++ r2).length → St wr (bl (parts 0 b1 (.slice (some ⟨rg, 0, none⟩) n rcap) kv1 rs1 [])) w3 ([Res.node b1 (.slice (some ⟨rg, 0, none⟩) n rcap) kv1] ++ Res.rowE (.slice (some ⟨g, 0, none⟩) zn cap) (r1 ++ r2) :: [Res.rowN kv1 []]) → PP (.returned (.bool true)) (w3.setCell ⟨b1, 0, none⟩ (.slice (some ⟨g, 0, none⟩) zn cap))) := by
          intro g zn cap w3 hz S3
          have S4 := St.set0 [] _ S3 (.slice (some ⟨g, 0, none⟩) zn cap)
          refine HRR.out _ _ (HW.out _ _ ?_)
          have hl : rs1.length = (r1 ++ r2).length + 1 := by rw [hr12]; simp; omega
          have SS : St wr (bl (parts 0 b1 (.slice (some ⟨rg, 0, none⟩) n rcap) kv1 rs1 [])) (w3.setCell ⟨b1, 0, none⟩ (.slice (some ⟨g, 0, none⟩) zn cap)) ([] ++ (parts 0 b1 (.slice (some ⟨g, 0, none⟩) zn cap) kv1 (r1 ++ r2) [] ++ [])) := by rw [List.append_nil]; exact S4
          obtain ⟨c', T, t1, t2, t3⟩ := St.shut [] [] SS (by have := HF.out.1; omega) ⟨fun _ => rfl, fun h => absurd rfl h⟩ (by simp)
          refine ⟨c', T, t1, ?_, by omega, ?_⟩
          · rw [t3]
            show r1 ++ r2 = deleteL key1 rs1
            rw [hr12, List.singleton_append]
            refine (deleteL_one ?_ hxk).symm
            have := HF.out.2.2.2.2.2
            rwa [hr12, List.singleton_append] at this
          · simp only [true_iff]
            exact ⟨x, List.mem_of_getElem? hx, hxk⟩
        have HD2 : Hid (Calls Try.prog 38 #[.slice (some ⟨rg, 0, none⟩) n rcap, .int .i64 i, .int .i64 ((i : Int) + 1)] w1 fun e w3 => ∃ g zn cap, e = .returned (.slice (some ⟨g, 0, none⟩) zn cap) ∧ w3.cell? ⟨b1, 0, none⟩ = some (.slice (some ⟨rg, 0, none⟩) n rcap) ∧ w3.frozen? ⟨b1, 0, none⟩ = false ∧ PP (.returned (.bool true)) (w3.setCell ⟨b1, 0, none⟩ (.slice (some ⟨g, 0, none⟩) zn cap))) := by
          refine HDE.out.mono ?_
          rintro e w3 ⟨g, cap, rfl, S3⟩
          obtain ⟨d0, d1, df0, df1, dlt⟩ := node_cells (S3.h.ok (Res.node b1 (.slice (some ⟨rg, 0, none⟩) n rcap) kv1) (by simp))
          exact ⟨g, _, cap, rfl, d0, df0, HFIN.out g _ cap w3 rfl S3⟩
        have hi62 : i ≤ 62 := by have := HF.out.1; omega
        clear HS1 HF HW HRR HLO HOK hx hxk hil hr12 hri hown0 hn HDE HFIN
        as_aux_lemma =>
          go_wp2_with (go_at_call 38; refine HD2.out.mono ?_; rintro e w3 ⟨g, zn, cap, rfl, d0, df0, hp⟩; have HP : Hid (PP (.returned (.bool true)) (w3.setCell ⟨b1, 0, none⟩ (.slice (some ⟨g, 0, none⟩) zn cap))) := hp; clear hp)
          try go_returns
          exact HP.out
    · have hgk : gk ≠ 0 := fun h => hk0 (HF.out.2.1.1 h)
      obtain ⟨g, rfl⟩ : ∃ g, gk = g + 1 := ⟨gk - 1, by omega⟩
      clear hgk
      have hnd : decide (ks1 = []) = false := decide_eq_false hk0
      cases ok with
      | false =>
        have hkl := HF.out.2.1.2 (by omega)
        obtain ⟨hi, hlt, hge⟩ := HLO.out
        have hgt := rs_after HF.out.2.2.2.2.2 hge (fun h => by have := HOK.out.2 h; cases this)
        obtain ⟨r1, r2, hr12, hri⟩ : ∃ r1 r2, rs1 = r1 ++ r2 ∧ r1.length = i := ⟨rs1.take i, rs1.drop i, (List.take_append_drop _ _).symm, by simp; omega⟩
        subst hr12
        rw [List.take_left' hri] at hlt
        rw [List.drop_left' hri] at hgt
        obtain ⟨k1, c, k2, rfl, hk1, hk2⟩ : ∃ k1 c k2, ks1 = k1 ++ c :: k2 ∧ k1.length = r1.length ∧ k2.length = r2.length := by
          have hlen : r1.length < ks1.length := by rw [hkl]; simp; omega
          refine ⟨ks1.take r1.length, ks1[r1.length], ks1.drop (r1.length + 1), ?_, by simp; omega, by rw [List.length_drop, hkl, List.length_append]; omega⟩
          rw [← List.drop_eq_getElem_cons, List.take_append_drop]
        have hkv : OwnN w1 kv1 (k1 ++ c :: k2) := HS1.out.h.ok (Res.rowN kv1 (k1 ++ c :: k2)) (by simp [parts])
        rcases hkv.form with ⟨_, h⟩ | ⟨kg, kcap, rfl, hkg, hkn, hkc⟩
        · simp at h
        have hnl : (k1 ++ c :: k2).length = (r1 ++ r2).length + 1 := hkl
        have h64 : (k1 ++ c :: k2).length ≤ 64 := by have := HF.out.1; omega
        have SN : St wr (bl (parts (g + 1) b1 rv1 (.slice (some ⟨kg, 0, none⟩) (k1 ++ c :: k2).length kcap) (r1 ++ r2) (k1 ++ c :: k2))) w1.drew (NodeAt g b1 rv1 (.slice (some ⟨kg, 0, none⟩) (k1 ++ c :: k2).length kcap) r1 r2 k1 c k2) := by
          have e : NodeAt g b1 rv1 (.slice (some ⟨kg, 0, none⟩) (k1 ++ c :: k2).length kcap) r1 r2 k1 c k2 = parts (g + 1) b1 rv1 (.slice (some ⟨kg, 0, none⟩) (k1 ++ c :: k2).length kcap) (r1 ++ r2) (k1 ++ c :: k2) := by
            rw [parts_eq, trees_append, trees_cons]; rfl
          rw [e]
          exact HS1.out.drew
        have HGR := grow32 (kg := kg) SN hk1 hk2 HF.out.1 (HF.out.2.2.2.1 (by omega)) HF.out.2.2.1 HF.out.2.2.2.2.1 key1 hlt hgt ⟨_, _, rfl⟩
        rw [hri] at HGR
        have n1' : w1.drew.cell? ⟨b1, 1, none⟩ = some (.slice (some ⟨kg, 0, none⟩) (k1 ++ c :: k2).length kcap) := c1
        obtain ⟨n, hn⟩ : ∃ n, n = (k1 ++ c :: k2).length := ⟨_, rfl⟩
        rw [← hn] at n1' c1
        have HEND : Hid (∀ e w', GrowSays wr (bl (parts (g + 1) b1 rv1 (.slice (some ⟨kg, 0, none⟩) (k1 ++ c :: k2).length kcap) (r1 ++ r2) (k1 ++ c :: k2))) g b1 kg key1 (weave (k1 ++ c :: k2) (r1 ++ r2)) (r1 ++ r2).length e w' → ∃ (j n' cap' cb : Nat), e = .returned (.int .i64 j) ∧ j < n ∧ j < n' ∧ n' ≤ 64 ∧ w'.cell? ⟨b1, 1, none⟩ = some (.slice (some ⟨kg, 0, none⟩) n' cap') ∧ w'.cell? ⟨kg, j, none⟩ = some (.pointer (some ⟨cb, 0, none⟩)) ∧ DelInv RR key1 g cb w') := by
          rintro e w' ⟨rv', kv', rs1', rs2', ks1', ks2', c', he, S', q1, q2, q3, q4, q5, q6, q7, q8, q9, q10, n', cap', rfl⟩
          have hown : OwnN w' (.slice (some ⟨kg, 0, none⟩) n' cap') (ks1' ++ c' :: ks2') := S'.h.ok (Res.rowN (.slice (some ⟨kg, 0, none⟩) n' cap') (ks1' ++ c' :: ks2')) (by simp [NodeAt, head3])
          have hn' : n' = (ks1' ++ c' :: ks2').length := by
            rcases hown.form with ⟨h, _⟩ | ⟨g', cp', h, _⟩
            · simp at h
            · simp at h; simp; omega
          have hsum : (rs1' ++ rs2').length = rs1'.length + rs2'.length := List.length_append
          refine ⟨rs1'.length, n', cap', c'.b, he, by omega, by rw [hn']; simp; omega, by rw [hn']; simp; omega, (node_cells (S'.h.ok (Res.node b1 rv' (.slice (some ⟨kg, 0, none⟩) n' cap')) (by simp [NodeAt, head3]))).2.1, OwnN.cell hown hn' (by simp [← q1]), ?_⟩
          have hsw := HF.out.2.2.2.2.1
          rw [← q5, weave_zip _ _ _ _ _ q1] at hsw
          refine DelInv.down S' q1 q2 q3 q4 q8 hsw.right.left ?_
          intro ok w2 k' T t1 t2 t3 t4
          have hm := key_mid (e := ⟨key1, none, 0, 0, 0, 0⟩) hsw q6 q7
          refine HW.out ok w2 ⟨k', T, t1, ?_, by omega, ?_⟩
          · rw [t2, ← q5, weave_zip _ _ _ _ _ q1]
            exact (deleteL_mid hm.1 hm.2).symm
          · rw [t4, ← q5, weave_zip _ _ _ _ _ q1, ← List.append_assoc]
            exact (Has.mid hm.1 hm.2).symm
        have hi63 : i ≤ 63 := by have := HF.out.1; simp at this; omega
        have HGR2 : Hid (Calls Try.prog 32 #[.pointer (some ⟨b1, 0, none⟩), .int .i64 i] w1.drew fun e w' => ∃ (j n' cap' cb : Nat), e = .returned (.int .i64 j) ∧ j < n ∧ j < n' ∧ n' ≤ 64 ∧ w'.cell? ⟨b1, 1, none⟩ = some (.slice (some ⟨kg, 0, none⟩) n' cap') ∧ w'.cell? ⟨kg, j, none⟩ = some (.pointer (some ⟨cb, 0, none⟩)) ∧ DelInv RR key1 g cb w') := HGR.mono HEND.out
        have hn64 : n ≤ 64 := by omega
        clear HEND HGR SN HF HW HS1 HLO HOK hlt hgt hge hi hri hk1 hk2 hkl hnl h64 hkv hn hkn hk0
        rw [hnd]
        as_aux_lemma =>
          go_upto_region 7 with (fail)
          refine region_fork [0, 1, 2, 4, 5] 3 6 [6, 7, 8, 9] [3, 7, 8, 9] (fun _ => True) (by kernel_rfl) (by kernel_rfl) (fun _ _ d _ _ h => by cases d <;> exact h) trivial ?_
          refine reads_cons (.pointer (some ⟨b1, 0, none⟩)) (fun w' hw' => rfl) ?_
          simp only [Act.put, List.setIfInBounds_toArray, List.set_cons_succ, List.set_cons_zero]
          refine reads_cons (.pointer (some ⟨b1, 0, none⟩)) (fun w' hw' => rfl) ?_
          simp only [Act.put, List.setIfInBounds_toArray, List.set_cons_succ, List.set_cons_zero]
          refine reads_cons (.pointer (some ⟨b1, 1, none⟩)) (fun w' hw' => rd_field (fld71_1 b1 w') rfl rfl) ?_
          simp only [Act.put, List.setIfInBounds_toArray, List.set_cons_succ, List.set_cons_zero]
          refine reads_cons (.pointer (some ⟨b1, 0, none⟩)) (fun w' hw' => rfl) ?_
          simp only [Act.put, List.setIfInBounds_toArray, List.set_cons_succ, List.set_cons_zero]
          refine reads_cons (.int .i64 i) (fun w' hw' => rfl) ?_
          simp only [Act.put, List.setIfInBounds_toArray, List.set_cons_succ, List.set_cons_zero]
          refine reads_nil ⟨?_, ?_⟩
          · refine sS_value (.slice (some ⟨kg, 0, none⟩) n kcap) w1.drew (rd_load (ld36 n1') rfl rfl) trivial ?_
            simp only [Act.put, List.setIfInBounds_toArray, List.set_cons_succ, List.set_cons_zero]
            refine sS_call 32 #[.pointer (some ⟨b1, 0, none⟩), .int .i64 i] _ (by go_simp) HGR2.out ?_
            rintro e w2 ⟨j, n', cap', cb, rfl, h1, h2, h3, h4, h5, h6⟩
            refine ⟨_, rfl, trivial, ?_⟩
            simp only [Act.put, List.setIfInBounds_toArray, List.set_cons_succ, List.set_cons_zero]
            refine sS_value (.pointer (some ⟨kg, j, none⟩)) w2 (rd_index (ix36 w2 h1 (by omega)) rfl rfl rfl) trivial ?_
            simp only [Act.put, List.setIfInBounds_toArray, List.set_cons_succ, List.set_cons_zero]
            refine sS_value (.pointer (some ⟨cb, 0, none⟩)) w2 (rd_load (ld32 h5) rfl rfl) trivial ?_
            simp only [Act.put, List.setIfInBounds_toArray, List.set_cons_succ, List.set_cons_zero]
            refine sS_value (.pointer (some ⟨cb, 0, none⟩)) w2 rfl trivial ?_
            simp only [Act.put, List.setIfInBounds_toArray, List.set_cons_succ, List.set_cons_zero]
            refine sS_nil ?_
            have H6 : Hid (DelInv RR key1 g cb w2) := h6
            clear h1 h2 h3 h4 h5 h6
            go_wp2_with fail
            go_roundg g
            case measure => omega
            case rel => exact ⟨cb, key1, rfl, rfl, H6.out⟩
          · refine sS_call 32 #[.pointer (some ⟨b1, 0, none⟩), .int .i64 i] _ (by go_simp) HGR2.out ?_
            rintro e w2 ⟨j, n', cap', cb, rfl, h1, h2, h3, h4, h5, h6⟩
            refine ⟨_, rfl, trivial, ?_⟩
            simp only [Act.put, List.setIfInBounds_toArray, List.set_cons_succ, List.set_cons_zero]
            refine sS_value (.slice (some ⟨kg, 0, none⟩) n' cap') w2 (rd_load (ld36 h4) rfl rfl) trivial ?_
            simp only [Act.put, List.setIfInBounds_toArray, List.set_cons_succ, List.set_cons_zero]
            refine sS_value (.pointer (some ⟨kg, j, none⟩)) w2 (rd_index (ix36 w2 h2 (by omega)) rfl rfl rfl) trivial ?_
            simp only [Act.put, List.setIfInBounds_toArray, List.set_cons_succ, List.set_cons_zero]
            refine sS_value (.pointer (some ⟨cb, 0, none⟩)) w2 (rd_load (ld32 h5) rfl rfl) trivial ?_
            simp only [Act.put, List.setIfInBounds_toArray, List.set_cons_succ, List.set_cons_zero]
            refine sS_value (.pointer (some ⟨cb, 0, none⟩)) w2 rfl trivial ?_
            simp only [Act.put, List.setIfInBounds_toArray, List.set_cons_succ, List.set_cons_zero]
            refine sS_nil ?_
            have H6 : Hid (DelInv RR key1 g cb w2) := h6
            clear h1 h2 h3 h4 h5 h6
            go_wp2_with fail
            go_roundg g
            case measure => omega
            case rel => exact ⟨cb, key1, rfl, rfl, H6.out⟩
      | true =>
        have hkl := HF.out.2.1.2 (by omega)
        obtain ⟨x, hx, hxk⟩ := HOK.out.1 rfl
        have hil : i < rs1.length := (List.getElem?_eq_some_iff.1 hx).1
        obtain ⟨r1, r2, hr12, hri⟩ : ∃ r1 r2, rs1 = r1 ++ x :: r2 ∧ r1.length = i := by
          refine ⟨rs1.take i, rs1.drop (i + 1), ?_, by simp; omega⟩
          obtain ⟨h1, h2⟩ := List.getElem?_eq_some_iff.1 hx
          rw [← h2, ← List.drop_eq_getElem_cons, List.take_append_drop]
        subst hr12
        obtain ⟨k1, l, r, k2, hks, hk1, hk2⟩ : ∃ k1 l r k2, ks1 = k1 ++ l :: r :: k2 ∧ k1.length = r1.length ∧ k2.length = r2.length := by
          have hlen : r1.length + 1 < ks1.length := by rw [hkl]; simp only [List.length_append, List.length_cons]; omega
          refine ⟨ks1.take r1.length, ks1[r1.length]'(by omega), ks1[r1.length + 1], ks1.drop (r1.length + 2), ?_, by simp; omega, by rw [List.length_drop, hkl]; simp; omega⟩
          rw [← List.drop_eq_getElem_cons, ← List.drop_eq_getElem_cons, List.take_append_drop]
        subst hks
        have hkv : OwnN w1 kv1 (k1 ++ l :: r :: k2) := HS1.out.h.ok (Res.rowN kv1 (k1 ++ l :: r :: k2)) (by simp [parts])
        obtain ⟨n, hn⟩ : ∃ n, n = (k1 ++ l :: r :: k2).length := ⟨_, rfl⟩
        obtain ⟨kg, kcap, rfl, hcell⟩ := merge_facts hkv hn (by rw [hn]; simp; omega)
        have hc0 := hcell i l (by simp [← hri, ← hk1])
        have hc1 := hcell (i + 1) r (by rw [List.getElem?_append_right (by omega), show i + 1 - k1.length = 1 by omega]; rfl)
        have hnn : i + 1 < n ∧ n ≤ 64 := by have := HF.out.1; rw [hn]; simp at this hkl ⊢; omega
        have hin : i < n := by omega
        have hin1 : (i : Int) + 1 < n := by omega
        have hn64 := hnn.2
        obtain ⟨la, lca, lkv, hlh, hl63⟩ : ∃ la lca lkv, w1.heap[l.b]? = some (.cells #[.slice la l.r lca, lkv] 71 (0, 0)) ∧ l.r ≤ 63 := by
          have t : Tree w1 g l := HS1.out.h.ok (Res.tree g l) (by simp only [parts, List.mem_cons, List.mem_map]; exact .inr (.inr (.inr ⟨l, by simp, rfl⟩)))
          obtain ⟨rs, ks, rv, kv, hh, hk, h63, _, _⟩ := t.open
          have hkr : l.r = rs.length := by rw [hk]
          obtain ⟨a, ca, h⟩ := head_of (hh.ok (Res.node l.b rv kv) (by simp [parts])) (hh.ok (Res.rowE rv rs) (by simp [parts])) hkr.symm
          exact ⟨a, ca, _, h, by omega⟩
        obtain ⟨ra, rca, rkv, hrh, hr63⟩ : ∃ ra rca rkv, w1.heap[r.b]? = some (.cells #[.slice ra r.r rca, rkv] 71 (0, 0)) ∧ r.r ≤ 63 := by
          have t : Tree w1 g r := HS1.out.h.ok (Res.tree g r) (by simp only [parts, List.mem_cons, List.mem_map]; exact .inr (.inr (.inr ⟨r, by simp, rfl⟩)))
          obtain ⟨rs, ks, rv, kv, hh, hk, h63, _, _⟩ := t.open
          have hkr : r.r = rs.length := by rw [hk]
          obtain ⟨a, ca, h⟩ := head_of (hh.ok (Res.node r.b rv kv) (by simp [parts])) (hh.ok (Res.rowE rv rs) (by simp [parts])) hkr.symm
          exact ⟨a, ca, _, h, by omega⟩
        have hl31 : 31 ≤ l.r := HF.out.2.2.1 l (by simp)
        have hr31 : 31 ≤ r.r := HF.out.2.2.1 r (by simp)
        obtain ⟨l0, l1, lf0, lf1, llt⟩ := node_cells hlh
        obtain ⟨q0, q1, qf0, qf1, qlt⟩ := node_cells hrh
        have HX : Hid (x.key = key1 ∧ r1.length = i ∧ k1.length = r1.length ∧ k2.length = r2.length ∧ n = (k1 ++ l :: r :: k2).length) := ⟨hxk, hri, hk1, hk2, hn⟩
        have hrv : OwnE w1 52 rv1 (r1 ++ x :: r2) := HS1.out.h.ok (Res.rowE rv1 (r1 ++ x :: r2)) (by simp [parts])
        rcases hrv.form with ⟨_, h0⟩ | ⟨rg, rcap, hrvf, hrg, hrn, hrc⟩
        · simp at h0
        obtain ⟨m, hm⟩ : ∃ m, m = (r1 ++ x :: r2).length := ⟨_, rfl⟩
        rw [← hm] at hrvf hrn
        subst hrvf
        have HM : Hid (m = (r1 ++ x :: r2).length ∧ i < m ∧ m ≤ 1000) := ⟨hm, by omega, by have := HF.out.1; omega⟩
        clear lf0 lf1 qf0 qf1 hk1 hk2 hn hxk hx hil hrv hkl hkv hcell hlh hrh hnn hri HLO HOK hm hk0
        obtain ⟨lb, hlb⟩ : ∃ lb, lb = l.b := ⟨_, rfl⟩
        obtain ⟨rb, hrb⟩ : ∃ rb, rb = r.b := ⟨_, rfl⟩
        obtain ⟨lr, hlr⟩ : ∃ lr, lr = l.r := ⟨_, rfl⟩
        obtain ⟨rr, hrr⟩ : ∃ rr, rr = r.r := ⟨_, rfl⟩
        rw [← hlb] at hc0 l0 l1 llt
        rw [← hrb] at hc1 q0 q1 qlt
        rw [← hlr] at l0 hl63 hl31
        rw [← hrr] at q0 hr63 hr31
        have HB : Hid (lb = l.b ∧ rb = r.b ∧ lr = l.r ∧ rr = r.r) := ⟨hlb, hrb, hlr, hrr⟩
        clear hlb hrb hlr hrr
        rw [hnd]
        go_upto_region 8 with (fail)
        go_quiet (fail)
        have HSN : Hid (St wr (bl (parts (g + 1) b1 (.slice (some ⟨rg, 0, none⟩) m rcap) (.slice (some ⟨kg, 0, none⟩) n kcap) (r1 ++ x :: r2) (k1 ++ l :: r :: k2))) (w1.drewN nq) (parts (g + 1) b1 (.slice (some ⟨rg, 0, none⟩) m rcap) (.slice (some ⟨kg, 0, none⟩) n kcap) (r1 ++ x :: r2) (k1 ++ l :: r :: k2))) := HS1.out.drewN _
        clear HS1
        obtain ⟨w2, hw2⟩ : ∃ w2, w2 = w1.drewN nq := ⟨_, rfl⟩
        replace l0 : w2.cell? ⟨lb, 0, none⟩ = some (.slice la lr lca) := by rw [hw2]; exact l0
        replace q0 : w2.cell? ⟨rb, 0, none⟩ = some (.slice ra rr rca) := by rw [hw2]; exact q0
        rw [← hw2] at HSN ⊢
        clear hw2 l1 q1 llt qlt hc0 hc1 c0 c1 f0 f1 blt
        by_cases h31 : 31 < lr
        · have HE : Hid (∃ p e, l.fl = p ++ [e]) := by
            have t : Tree w2 g l := HSN.out.h.ok (Res.tree g l) (by simp only [parts, List.mem_cons, List.mem_map]; exact .inr (.inr (.inr ⟨l, by simp, rfl⟩)))
            have := tree_fl t (by have := HB.out; omega)
            rcases List.eq_nil_or_concat l.fl with h0 | ⟨p, e, h0⟩
            · rw [h0] at this; simp at this
            · exact ⟨p, e, by rw [h0, List.concat_eq_append]⟩
          obtain ⟨p, e, hpe⟩ := HE.out
          have HPE : Hid (l.fl = p ++ [e]) := hpe
          clear HE hpe
          have HC : Hid (Calls Try.prog 47 #[.pointer (some ⟨lb, 0, none⟩)] w2 fun en w3 => en = .returned (.agg #[.string e.key, .slice e.va e.vl e.vc, .int .u64 e.rev, .int .u64 e.lease]) ∧ Hid (St wr (bl (parts (g + 1) b1 (.slice (some ⟨rg, 0, none⟩) m rcap) (.slice (some ⟨kg, 0, none⟩) n kcap) (r1 ++ x :: r2) (k1 ++ l :: r :: k2))) w3 (parts (g + 1) b1 (.slice (some ⟨rg, 0, none⟩) m rcap) (.slice (some ⟨kg, 0, none⟩) n kcap) (r1 ++ x :: r2) (k1 ++ l :: r :: k2)))) := by
            have t : Tree w2 g l := HSN.out.h.ok (Res.tree g l) (by simp only [parts, List.mem_cons, List.mem_map]; exact .inr (.inr (.inr ⟨l, by simp, rfl⟩)))
            rw [HB.out.1]
            refine (last47 t (by have := HB.out; omega) e ⟨p, HPE.out⟩).mono ?_
            rintro en w3 ⟨h1, h2⟩
            exact ⟨h1, HSN.out.grow h2⟩
          clear HSN
          go_upto_region 13 with (go_at_call 47; refine HC.out.mono ?_; rintro e5 w3 ⟨rfl, HS3⟩; clear HC l0 q0)
          have S4 := HS3.out.alloc (EObj e)
          obtain ⟨eb, heb⟩ : ∃ eb, eb = w3.heap.size := ⟨_, rfl⟩
          rw [← heb] at S4 ⊢
          obtain ⟨w4, hw4⟩ : ∃ w4, w4 = w3.alloc (EObj e) := ⟨_, rfl⟩
          rw [← hw4] at S4 ⊢
          clear heb hw4 HS3
          obtain ⟨x0, x1, x2, x3⟩ := at_cells (S4.drew.h.ok (Res.at eb (EObj e)) (by simp))
          obtain ⟨y0, y1, yf0, yf1, ylt⟩ := node_cells (S4.drew.h.ok (Res.node b1 (.slice (some ⟨rg, 0, none⟩) m rcap) (.slice (some ⟨kg, 0, none⟩) n kcap)) (by simp [parts]))
          have hown : w4.drew.ownsRow 0 52 4 (.slice (some ⟨rg, 0, none⟩) m rcap) m (flatE (r1 ++ x :: r2)) := by
            have h2 : OwnE w4.drew 52 (.slice (some ⟨rg, 0, none⟩) m rcap) (r1 ++ x :: r2) := S4.drew.h.ok (Res.rowE (.slice (some ⟨rg, 0, none⟩) m rcap) (r1 ++ x :: r2)) (by simp [parts])
            unfold OwnE at h2
            rwa [← HM.out.1] at h2
          have S5 : St wr (bl (parts (g + 1) b1 (.slice (some ⟨rg, 0, none⟩) m rcap) (.slice (some ⟨kg, 0, none⟩) n kcap) (r1 ++ x :: r2) (k1 ++ l :: r :: k2))) ((((w4.drew.setCell ⟨rg, i * 4, none⟩ (.string e.key)).setCell ⟨rg, i * 4 + 1, none⟩ (.slice e.va e.vl e.vc)).setCell ⟨rg, i * 4 + 2, none⟩ (.int .u64 e.rev)).setCell ⟨rg, i * 4 + 3, none⟩ (.int .u64 e.lease)) (Res.at eb (EObj e) :: (parts (g + 1) b1 (.slice (some ⟨rg, 0, none⟩) m rcap) (.slice (some ⟨kg, 0, none⟩) n kcap) (r1 ++ e :: r2) (k1 ++ l :: r :: k2))) := by
            have h1 := St.setE [Res.at eb (EObj e), Res.node b1 (.slice (some ⟨rg, 0, none⟩) m rcap) (.slice (some ⟨kg, 0, none⟩) n kcap)] _ S4.drew HM.out.1 i e
            have hset : (r1 ++ x :: r2).set i e = r1 ++ e :: r2 := by rw [← HX.out.2.1]; simp [List.set_append]
            rw [hset] at h1
            exact h1
          obtain ⟨z0, z1, z2, z3⟩ := at_cells (S5.h.ok (Res.at eb (EObj e)) (by simp))
          obtain ⟨v0, v1, vf0, vf1, vlt⟩ := node_cells (S5.h.ok (Res.node b1 (.slice (some ⟨rg, 0, none⟩) m rcap) (.slice (some ⟨kg, 0, none⟩) n kcap)) (by simp [parts]))
          have HINV : Hid (DelInv RR e.key g lb ((((w4.drew.setCell ⟨rg, i * 4, none⟩ (.string e.key)).setCell ⟨rg, i * 4 + 1, none⟩ (.slice e.va e.vl e.vc)).setCell ⟨rg, i * 4 + 2, none⟩ (.int .u64 e.rev)).setCell ⟨rg, i * 4 + 3, none⟩ (.int .u64 e.lease))) := by
            rw [HB.out.1]
            exact DelInv.left (S5.sub (List.sublist_cons_self _ _)) HX.out.2.2.1 HX.out.2.2.2.1 (by have := HB.out; omega) HF.out.2.2.1 HF.out.1 HF.out.2.2.2.2.1 HX.out.1 HPE.out HW.out
          have HN : Hid (i < m ∧ m ≤ 1000) := ⟨HM.out.2.1, HM.out.2.2⟩
          clear S4 S5 HF HW HB HX HM HPE HRR y1 yf0 yf1 ylt v1 vf0 vf1 vlt hnd
          refine region_lexS [0, 1, 2, 3, 4, 5, 6, 7, 8, 9, 10] [11, 12, 13] (fun w' => w'.cell? ⟨b1, 0, none⟩ = some (.slice (some ⟨rg, 0, none⟩) m rcap) ∧ w'.cell? ⟨eb, 0, none⟩ = some (.string e.key) ∧ w'.cell? ⟨eb, 0 + 1, none⟩ = some (.slice e.va e.vl e.vc) ∧ w'.cell? ⟨eb, 0 + 2, none⟩ = some (.int .u64 e.rev) ∧ w'.cell? ⟨eb, 0 + 3, none⟩ = some (.int .u64 e.lease)) (by kernel_rfl) (by kernel_rfl) (fun _ _ d _ _ h => by cases d <;> exact h) ⟨y0, x0, x1, x2, x3⟩ ?_
          refine reads_cons (.pointer (some ⟨b1, 0, none⟩)) (fun w' hw' => rfl) ?_
          simp only [Act.put, List.setIfInBounds_toArray, List.set_cons_succ, List.set_cons_zero]
          refine reads_cons (.pointer (some ⟨b1, 0, none⟩)) (fun w' hw' => rfl) ?_
          simp only [Act.put, List.setIfInBounds_toArray, List.set_cons_succ, List.set_cons_zero]
          refine reads_cons (.pointer (some ⟨b1, 0, none⟩)) (fun w' hw' => rd_field (fld71_0 b1 w') rfl rfl) ?_
          simp only [Act.put, List.setIfInBounds_toArray, List.set_cons_succ, List.set_cons_zero]
          refine reads_cons (.slice (some ⟨rg, 0, none⟩) m rcap) (fun w' hw' => rd_load (ld35 hw'.1) rfl rfl) ?_
          simp only [Act.put, List.setIfInBounds_toArray, List.set_cons_succ, List.set_cons_zero]
          refine reads_cons (.int .i64 i) (fun w' hw' => rfl) ?_
          simp only [Act.put, List.setIfInBounds_toArray, List.set_cons_succ, List.set_cons_zero]
          refine reads_cons (.agg #[.string e.key, .slice e.va e.vl e.vc, .int .u64 e.rev, .int .u64 e.lease]) (fun w' hw' => rd_load (ld52 hw'.2.1 hw'.2.2.1 hw'.2.2.2.1 hw'.2.2.2.2) rfl rfl) ?_
          simp only [Act.put, List.setIfInBounds_toArray, List.set_cons_succ, List.set_cons_zero]
          refine reads_cons (.pointer (some ⟨eb, 0, none⟩)) (fun w' hw' => rd_field (fld52_0 eb 0 w') rfl rfl) ?_
          simp only [Act.put, List.setIfInBounds_toArray, List.set_cons_succ, List.set_cons_zero]
          refine reads_cons (.pointer (some ⟨eb, 0, none⟩)) (fun w' hw' => rd_field (fld50_0 eb 0 w') rfl rfl) ?_
          simp only [Act.put, List.setIfInBounds_toArray, List.set_cons_succ, List.set_cons_zero]
          refine reads_cons (.string e.key) (fun w' hw' => rd_load (ld9 hw'.2.1) rfl rfl) ?_
          simp only [Act.put, List.setIfInBounds_toArray, List.set_cons_succ, List.set_cons_zero]
          refine reads_cons (.pointer (some ⟨lb, 0, none⟩)) (fun w' hw' => rfl) ?_
          simp only [Act.put, List.setIfInBounds_toArray, List.set_cons_succ, List.set_cons_zero]
          refine reads_cons (.pointer (some ⟨rg, i * 4, none⟩)) (fun w' hw' => rd_index (ix35 w' HN.out.1 HN.out.2) rfl rfl rfl) ?_
          simp only [Act.put, List.setIfInBounds_toArray, List.set_cons_succ, List.set_cons_zero]
          refine reads_nil ?_
          refine sS_skip _ (rd_store (st52 hown i HN.out.1 e) rfl rfl rfl) ⟨v0, z0, z1, z2, z3⟩ ?_
          simp only [Act.put, List.setIfInBounds_toArray, List.set_cons_succ, List.set_cons_zero]
          clear hown y0 x0 x1 x2 x3
          obtain ⟨w5, hw5⟩ : ∃ w5, w5 = ((((w4.drew.setCell ⟨rg, i * 4, none⟩ (.string e.key)).setCell ⟨rg, i * 4 + 1, none⟩ (.slice e.va e.vl e.vc)).setCell ⟨rg, i * 4 + 2, none⟩ (.int .u64 e.rev)).setCell ⟨rg, i * 4 + 3, none⟩ (.int .u64 e.lease)) := ⟨_, rfl⟩
          rw [← hw5] at HINV v0 z0 z1 z2 z3 ⊢
          clear hw5
          refine sS_value (.string e.key) w5 rfl ⟨v0, z0, z1, z2, z3⟩ ?_
          simp only [Act.put, List.setIfInBounds_toArray, List.set_cons_succ, List.set_cons_zero]
          refine sS_value (.pointer (some ⟨lb, 0, none⟩)) w5 rfl ⟨v0, z0, z1, z2, z3⟩ ?_
          simp only [Act.put, List.setIfInBounds_toArray, List.set_cons_succ, List.set_cons_zero]
          refine sS_nil ?_
          clear v0 z0 z1 z2 z3
          go_wp2_with fail
          go_roundg g
          case measure => omega
          case rel => exact ⟨lb, e.key, rfl, rfl, HINV.out⟩
        · by_cases hr32 : 31 < rr
          · have HE : Hid (∃ p e, r.fl = e :: p) := by
              have t : Tree w2 g r := HSN.out.h.ok (Res.tree g r) (by simp only [parts, List.mem_cons, List.mem_map]; exact .inr (.inr (.inr ⟨r, by simp, rfl⟩)))
              have := tree_fl t (by have := HB.out; omega)
              cases hfl : r.fl with
              | nil => rw [hfl] at this; simp at this
              | cons e p => exact ⟨p, e, rfl⟩
            obtain ⟨p, e, hpe⟩ := HE.out
            have HPE : Hid (r.fl = e :: p) := hpe
            clear HE hpe
            have HC : Hid (Calls Try.prog 48 #[.pointer (some ⟨rb, 0, none⟩)] w2 fun en w3 => en = .returned (.agg #[.string e.key, .slice e.va e.vl e.vc, .int .u64 e.rev, .int .u64 e.lease]) ∧ Hid (St wr (bl (parts (g + 1) b1 (.slice (some ⟨rg, 0, none⟩) m rcap) (.slice (some ⟨kg, 0, none⟩) n kcap) (r1 ++ x :: r2) (k1 ++ l :: r :: k2))) w3 (parts (g + 1) b1 (.slice (some ⟨rg, 0, none⟩) m rcap) (.slice (some ⟨kg, 0, none⟩) n kcap) (r1 ++ x :: r2) (k1 ++ l :: r :: k2)))) := by
              have t : Tree w2 g r := HSN.out.h.ok (Res.tree g r) (by simp only [parts, List.mem_cons, List.mem_map]; exact .inr (.inr (.inr ⟨r, by simp, rfl⟩)))
              rw [HB.out.2.1]
              refine (first48 t (by have := HB.out; omega) e ⟨p, HPE.out⟩).mono ?_
              rintro en w3 ⟨h1, h2⟩
              exact ⟨h1, HSN.out.grow h2⟩
            clear HSN
            go_upto_region 16 with (go_at_call 48; refine HC.out.mono ?_; rintro e5 w3 ⟨rfl, HS3⟩; clear HC l0 q0)
            have S4 := HS3.out.alloc (EObj e)
            obtain ⟨eb, heb⟩ : ∃ eb, eb = w3.heap.size := ⟨_, rfl⟩
            rw [← heb] at S4 ⊢
            obtain ⟨w4, hw4⟩ : ∃ w4, w4 = w3.alloc (EObj e) := ⟨_, rfl⟩
            rw [← hw4] at S4 ⊢
            clear heb hw4 HS3
            obtain ⟨x0, x1, x2, x3⟩ := at_cells (S4.drew.h.ok (Res.at eb (EObj e)) (by simp))
            obtain ⟨y0, y1, yf0, yf1, ylt⟩ := node_cells (S4.drew.h.ok (Res.node b1 (.slice (some ⟨rg, 0, none⟩) m rcap) (.slice (some ⟨kg, 0, none⟩) n kcap)) (by simp [parts]))
            have hown : w4.drew.ownsRow 0 52 4 (.slice (some ⟨rg, 0, none⟩) m rcap) m (flatE (r1 ++ x :: r2)) := by
              have h2 : OwnE w4.drew 52 (.slice (some ⟨rg, 0, none⟩) m rcap) (r1 ++ x :: r2) := S4.drew.h.ok (Res.rowE (.slice (some ⟨rg, 0, none⟩) m rcap) (r1 ++ x :: r2)) (by simp [parts])
              unfold OwnE at h2
              rwa [← HM.out.1] at h2
            have S5 : St wr (bl (parts (g + 1) b1 (.slice (some ⟨rg, 0, none⟩) m rcap) (.slice (some ⟨kg, 0, none⟩) n kcap) (r1 ++ x :: r2) (k1 ++ l :: r :: k2))) ((((w4.drew.setCell ⟨rg, i * 4, none⟩ (.string e.key)).setCell ⟨rg, i * 4 + 1, none⟩ (.slice e.va e.vl e.vc)).setCell ⟨rg, i * 4 + 2, none⟩ (.int .u64 e.rev)).setCell ⟨rg, i * 4 + 3, none⟩ (.int .u64 e.lease)) (Res.at eb (EObj e) :: (parts (g + 1) b1 (.slice (some ⟨rg, 0, none⟩) m rcap) (.slice (some ⟨kg, 0, none⟩) n kcap) (r1 ++ e :: r2) (k1 ++ l :: r :: k2))) := by
              have h1 := St.setE [Res.at eb (EObj e), Res.node b1 (.slice (some ⟨rg, 0, none⟩) m rcap) (.slice (some ⟨kg, 0, none⟩) n kcap)] _ S4.drew HM.out.1 i e
              have hset : (r1 ++ x :: r2).set i e = r1 ++ e :: r2 := by rw [← HX.out.2.1]; simp [List.set_append]
              rw [hset] at h1
              exact h1
            obtain ⟨z0, z1, z2, z3⟩ := at_cells (S5.h.ok (Res.at eb (EObj e)) (by simp))
            obtain ⟨v0, v1, vf0, vf1, vlt⟩ := node_cells (S5.h.ok (Res.node b1 (.slice (some ⟨rg, 0, none⟩) m rcap) (.slice (some ⟨kg, 0, none⟩) n kcap)) (by simp [parts]))
            have HINV : Hid (DelInv RR e.key g rb ((((w4.drew.setCell ⟨rg, i * 4, none⟩ (.string e.key)).setCell ⟨rg, i * 4 + 1, none⟩ (.slice e.va e.vl e.vc)).setCell ⟨rg, i * 4 + 2, none⟩ (.int .u64 e.rev)).setCell ⟨rg, i * 4 + 3, none⟩ (.int .u64 e.lease))) := by
              rw [HB.out.2.1]
              exact DelInv.right (S5.sub (List.sublist_cons_self _ _)) HX.out.2.2.1 HX.out.2.2.2.1 (by have := HB.out; omega) HF.out.2.2.1 HF.out.1 HF.out.2.2.2.2.1 HX.out.1 HPE.out HW.out
            have HN : Hid (i < m ∧ m ≤ 1000) := ⟨HM.out.2.1, HM.out.2.2⟩
            clear S4 S5 HF HW HB HX HM HPE HRR y1 yf0 yf1 ylt v1 vf0 vf1 vlt hnd
            refine region_lexS [0, 1, 2, 3, 4, 5, 6, 7, 8, 9, 10] [11, 12, 13] (fun w' => w'.cell? ⟨b1, 0, none⟩ = some (.slice (some ⟨rg, 0, none⟩) m rcap) ∧ w'.cell? ⟨eb, 0, none⟩ = some (.string e.key) ∧ w'.cell? ⟨eb, 0 + 1, none⟩ = some (.slice e.va e.vl e.vc) ∧ w'.cell? ⟨eb, 0 + 2, none⟩ = some (.int .u64 e.rev) ∧ w'.cell? ⟨eb, 0 + 3, none⟩ = some (.int .u64 e.lease)) (by kernel_rfl) (by kernel_rfl) (fun _ _ d _ _ h => by cases d <;> exact h) ⟨y0, x0, x1, x2, x3⟩ ?_
            refine reads_cons (.pointer (some ⟨b1, 0, none⟩)) (fun w' hw' => rfl) ?_
            simp only [Act.put, List.setIfInBounds_toArray, List.set_cons_succ, List.set_cons_zero]
            refine reads_cons (.pointer (some ⟨b1, 0, none⟩)) (fun w' hw' => rfl) ?_
            simp only [Act.put, List.setIfInBounds_toArray, List.set_cons_succ, List.set_cons_zero]
            refine reads_cons (.pointer (some ⟨b1, 0, none⟩)) (fun w' hw' => rd_field (fld71_0 b1 w') rfl rfl) ?_
            simp only [Act.put, List.setIfInBounds_toArray, List.set_cons_succ, List.set_cons_zero]
            refine reads_cons (.slice (some ⟨rg, 0, none⟩) m rcap) (fun w' hw' => rd_load (ld35 hw'.1) rfl rfl) ?_
            simp only [Act.put, List.setIfInBounds_toArray, List.set_cons_succ, List.set_cons_zero]
            refine reads_cons (.int .i64 i) (fun w' hw' => rfl) ?_
            simp only [Act.put, List.setIfInBounds_toArray, List.set_cons_succ, List.set_cons_zero]
            refine reads_cons (.agg #[.string e.key, .slice e.va e.vl e.vc, .int .u64 e.rev, .int .u64 e.lease]) (fun w' hw' => rd_load (ld52 hw'.2.1 hw'.2.2.1 hw'.2.2.2.1 hw'.2.2.2.2) rfl rfl) ?_
            simp only [Act.put, List.setIfInBounds_toArray, List.set_cons_succ, List.set_cons_zero]
            refine reads_cons (.pointer (some ⟨eb, 0, none⟩)) (fun w' hw' => rd_field (fld52_0 eb 0 w') rfl rfl) ?_
            simp only [Act.put, List.setIfInBounds_toArray, List.set_cons_succ, List.set_cons_zero]
            refine reads_cons (.pointer (some ⟨eb, 0, none⟩)) (fun w' hw' => rd_field (fld50_0 eb 0 w') rfl rfl) ?_
            simp only [Act.put, List.setIfInBounds_toArray, List.set_cons_succ, List.set_cons_zero]
            refine reads_cons (.string e.key) (fun w' hw' => rd_load (ld9 hw'.2.1) rfl rfl) ?_
            simp only [Act.put, List.setIfInBounds_toArray, List.set_cons_succ, List.set_cons_zero]
            refine reads_cons (.pointer (some ⟨rb, 0, none⟩)) (fun w' hw' => rfl) ?_
            simp only [Act.put, List.setIfInBounds_toArray, List.set_cons_succ, List.set_cons_zero]
            refine reads_cons (.pointer (some ⟨rg, i * 4, none⟩)) (fun w' hw' => rd_index (ix35 w' HN.out.1 HN.out.2) rfl rfl rfl) ?_
            simp only [Act.put, List.setIfInBounds_toArray, List.set_cons_succ, List.set_cons_zero]
            refine reads_nil ?_
            refine sS_skip _ (rd_store (st52 hown i HN.out.1 e) rfl rfl rfl) ⟨v0, z0, z1, z2, z3⟩ ?_
            simp only [Act.put, List.setIfInBounds_toArray, List.set_cons_succ, List.set_cons_zero]
            clear hown y0 x0 x1 x2 x3
            obtain ⟨w5, hw5⟩ : ∃ w5, w5 = ((((w4.drew.setCell ⟨rg, i * 4, none⟩ (.string e.key)).setCell ⟨rg, i * 4 + 1, none⟩ (.slice e.va e.vl e.vc)).setCell ⟨rg, i * 4 + 2, none⟩ (.int .u64 e.rev)).setCell ⟨rg, i * 4 + 3, none⟩ (.int .u64 e.lease)) := ⟨_, rfl⟩
            rw [← hw5] at HINV v0 z0 z1 z2 z3 ⊢
            clear hw5
            refine sS_value (.string e.key) w5 rfl ⟨v0, z0, z1, z2, z3⟩ ?_
            simp only [Act.put, List.setIfInBounds_toArray, List.set_cons_succ, List.set_cons_zero]
            refine sS_value (.pointer (some ⟨rb, 0, none⟩)) w5 rfl ⟨v0, z0, z1, z2, z3⟩ ?_
            simp only [Act.put, List.setIfInBounds_toArray, List.set_cons_succ, List.set_cons_zero]
            refine sS_nil ?_
            clear v0 z0 z1 z2 z3
            go_wp2_with fail
            go_roundg g
            case measure => omega
            case rel => exact ⟨rb, e.key, rfl, rfl, HINV.out⟩
          · have hlr : lr = 31 := by omega
            have hrr : rr = 31 := by omega
            have HC : Hid (Calls Try.prog 42 #[.pointer (some ⟨b1, 0, none⟩), .int .i64 i] w2 fun en w3 => en = .returned (.tuple #[]) ∧ DelInv RR key1 g lb w3) := by
              obtain ⟨hx1, hx2, hx3, hx4, hx5⟩ := HX.out
              have S := HSN.out
              rw [parts_at g b1 _ _ r1 (x :: r2) k1 (r :: k2) l] at S
              have S1 := S.perm (nodeAt_right g b1 _ _ r1 (x :: r2) k1 l r k2)
              rw [← parts_at g b1 _ _ r1 (x :: r2) k1 (r :: k2) l] at S1
              obtain ⟨lrs, lks, lrv, lkv, rrs, rks, rrv, rkv, S2, b1', b2, b3, b4, b5, a1, a2, a3, a4, a5⟩ := open2 S1
              have hb := HB.out
              have hl' : lrs.length = 31 := by omega
              have hr' : rrs.length = 31 := by omega
              have hcall := merge42 (kg0 := kg) (Rest := trees (g - 1) lks ++ (trees (g - 1) rks ++ (trees g k1 ++ trees g k2))) S2 ⟨_, _, rfl⟩ rfl rfl hl' hr' i (by omega) (by omega) (by have := HF.out.1; simp at this; omega) hx4 (by rcases klen_cases b4 a4 with ⟨h0, h0'⟩ | ⟨h0, h0'⟩; exact .inl ⟨by rw [h0]; rfl, by rw [h0']; rfl⟩; exact .inr ⟨by omega, by omega⟩)
              refine hcall.mono ?_
              intro en w3 hm
              rw [hb.1]
              exact DelInv.merged hm hx3 hx4 HF.out.2.2.1 HF.out.1 HF.out.2.2.2.2.1 hx1 hl' hr' b2 a2 b4 a4 b5 a5 HW.out
            clear HSN HF HW HB HX HM HRR hnd
            go_wp2_with (go_at_call 42; refine HC.out.mono ?_; rintro e5 w3 ⟨rfl, hinv⟩; have HINV : Hid (DelInv RR key1 g lb w3) := hinv; clear hinv)
            go_roundg g
            case measure => omega
            case rel => exact ⟨lb, key1, rfl, rfl, HINV.out⟩

end Go.Proofs.Qxb6601706a
