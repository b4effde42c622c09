import Derived.Test.Qxb6601706aSetP2
import Derived.Test.Qxb6601706aOps2
namespace Go.Proofs.Qxb6601706a
open Go.RowKit
set_option linter.unusedVariables false
set_option linter.unusedSimpArgs false

def SetSays (w : World) (h b : Nat) (own : List Nat) (fl : List Ent) (e : Ent) (r : Nat) (en : Ending) (w' : World) : Prop :=
  ∃ (ok : Bool) (c' : Kid), en = .returned (.bool ok) ∧ St w own w' [Res.tree h c'] ∧ c'.b = b ∧ c'.fl = insertL e fl ∧ r ≤ c'.r ∧ (h ≠ 0 → 1 ≤ c'.r) ∧ (ok = true ↔ ¬ Has e.key fl)

theorem at_cells {w : World} {eb : Nat} {e : Ent} (h : w.heap[eb]? = some (EObj e)) :
    w.cell? ⟨eb, 0, none⟩ = some (.string e.key) ∧ w.cell? ⟨eb, 1, none⟩ = some (.slice e.va e.vl e.vc) ∧ w.cell? ⟨eb, 2, none⟩ = some (.int .u64 e.rev) ∧ w.cell? ⟨eb, 3, none⟩ = some (.int .u64 e.lease) := by
  refine ⟨?_, ?_, ?_, ?_⟩ <;> simp [World.cell?, h]

set_option maxHeartbeats 4000000 in
set_option maxRecDepth 100000 in
theorem set35 (e : Ent) {w : World} {h b : Nat} {rv kv : Value} {rs : List Ent} {ks : List Kid} (hh : Holds w (parts h b rv kv rs ks)) (hr : rs.length < 63) (hkl : KLen h ks rs) (hkm : ∀ c ∈ ks, 31 ≤ c.r) (hz : h ≠ 0 → rs = [] → ∀ c ∈ ks, c.r = 63) (hs : Sorted (weave ks rs)) :
    Calls Try.prog 35 #[.pointer (some ⟨b, 0, none⟩), .agg #[.string e.key, .slice e.va e.vl e.vc, .int .u64 e.rev, .int .u64 e.lease]] w (SetSays w h b (bl (parts h b rv kv rs ks)) (weave ks rs) e rs.length) := by
  obtain ⟨RR, hRR⟩ : ∃ RR : Bool → World → Prop, RR = fun ok w' => SetSays w h b (bl (parts h b rv kv rs ks)) (weave ks rs) e rs.length (.returned (.bool ok)) w' := ⟨_, rfl⟩
  have HI0 : Hid (SetInv RR e w.heap.size h b (w.alloc (EObj e))) := by
    have S0 := (St.start hh).alloc (EObj e)
    refine ⟨rs, ks, rv, kv, S0.h, hr, hkl, hkm, hz, hs, ?_⟩
    rintro ok w' ⟨c', S, hb, hf, hge, h1, hok⟩
    rw [hRR]
    exact ⟨ok, c', rfl, (St.mk S.h (S0.f.trans S.f) : St w (bl (parts h b rv kv rs ks)) w' _).sub (List.sublist_cons_self _ _), hb, hf, hge, h1, hok⟩
  have HRR : Hid (∀ ok w', RR ok w' → SetSays w h b (bl (parts h b rv kv rs ks)) (weave ks rs) e rs.length (.returned (.bool ok)) w') := by intro ok w' hx; rw [hRR] at hx; exact hx
  obtain ⟨PP, hPP⟩ : ∃ PP : Ending → World → Prop, PP = SetSays w h b (bl (parts h b rv kv rs ks)) (weave ks rs) e rs.length := ⟨_, rfl⟩
  rw [← hPP] at HRR ⊢
  clear hRR hPP hh hr hkl hkm hz hs
  go_enter Try.func35, Try.ntmps35
  go_wp2
  obtain ⟨eb, heb⟩ : ∃ eb, eb = w.heap.size := ⟨_, rfl⟩
  rw [← heb] at HI0 ⊢
  obtain ⟨w0, hw0⟩ : ∃ w0, w0 = w.alloc (EObj e) := ⟨_, rfl⟩
  rw [← hw0] at HI0 ⊢
  clear heb hw0
  go_loopg [0] h (fun k v wr => ∃ b, v = .pointer (some ⟨b, 0, none⟩) ∧ Hid (SetInv RR e eb k b wr))
  case atStart => exact ⟨b, rfl, HI0⟩
  case round =>
    clear HI0
    obtain ⟨b1, rfl, HI⟩ := hrel
    obtain ⟨rs1, ks1, rv1, kv1, hh, hr, hkl, hkm, hz, hs, hw⟩ := HI.out
    clear HI
    have S0 := St.start hh
    have hrs : Sorted rs1 := hs.sublist (weave_sub hkl)
    have hnode := S0.h.ok (Res.node b1 rv1 kv1) (by simp [parts])
    obtain ⟨x0, x1, x2, x3⟩ := at_cells (S0.h.ok (Res.at eb (EObj e)) (by simp))
    have HSR : Hid (Calls Try.prog 44 #[.pointer (some ⟨b1, 0, none⟩), .string e.key] wr (SearchSays wr rs1 e.key)) := search44 e.key hnode (S0.h.ok (Res.rowE rv1 rs1) (by simp [parts])) (by omega) hrs
    have HS0 : Hid (St wr (bl (Res.at eb (EObj e) :: parts gk b1 rv1 kv1 rs1 ks1)) wr (Res.at eb (EObj e) :: parts gk b1 rv1 kv1 rs1 ks1)) := S0
    have HF : Hid (rs1.length < 63 ∧ KLen gk ks1 rs1 ∧ (∀ c ∈ ks1, 31 ≤ c.r) ∧ (gk ≠ 0 → rs1 = [] → ∀ c ∈ ks1, c.r = 63) ∧ Sorted (weave ks1 rs1) ∧ Sorted rs1) := ⟨hr, hkl, hkm, hz, hs, hrs⟩
    have HW : Hid (∀ ok w', SetStep e eb wr gk b1 rv1 kv1 rs1 ks1 ok w' → RR ok w') := hw
    clear hr hkl hkm hz hs hw hh S0 hrs hnode x1 x2 x3
    go_upto_if 16 with (go_at_call 44; refine HSR.out.mono ?_; rintro e4 w1 ⟨i, ok, rfl, hi, hlo, hhi, hok, hg⟩; have HS1 : Hid (St wr (bl (Res.at eb (EObj e) :: parts gk b1 rv1 kv1 rs1 ks1)) w1 (Res.at eb (EObj e) :: parts gk b1 rv1 kv1 rs1 ks1)) := HS0.out.grow hg; have HLO : Hid (i ≤ rs1.length ∧ (∀ x ∈ rs1.take i, Lt x.key e.key) ∧ ∀ x ∈ rs1.drop i, ¬ Lt x.key e.key) := ⟨hi, rs_apart hi hlo hhi⟩; have HOK : Hid (ok = true ↔ ∃ x, rs1[i]? = some x ∧ x.key = e.key) := hok; clear hi hlo hhi hok hg HS0 x0 HSR)
    have S1 := HS1.out
    clear HS1
    obtain ⟨c0, c1, f0, f1, blt⟩ := node_cells (S1.h.ok (Res.node b1 rv1 kv1) (by simp [parts]))
    obtain ⟨x0, x1, x2, x3⟩ := at_cells (S1.h.ok (Res.at eb (EObj e)) (by simp))
    cases ok with
    | true =>
      as_aux_lemma =>
        obtain ⟨x, hx, hxk⟩ := HOK.out.1 rfl
        have hil : i < rs1.length := (List.getElem?_eq_some_iff.1 hx).1
        obtain ⟨r1, r2, hr12, hri⟩ : ∃ r1 r2, rs1 = r1 ++ x :: r2 ∧ r1.length = i := by
          refine ⟨rs1.take i, rs1.drop (i + 1), ?_, by simp; omega⟩
          obtain ⟨h1, h2⟩ := List.getElem?_eq_some_iff.1 hx
          rw [← h2, ← List.drop_eq_getElem_cons, List.take_append_drop]
        have hown0 : OwnE w1 52 rv1 rs1 := S1.h.ok (Res.rowE rv1 rs1) (by simp [parts])
        rcases hown0.form with ⟨_, h0⟩ | ⟨rg, rcap, rfl, hrg, hrn, hrc⟩
        · rw [h0] at hil; simp at hil
        obtain ⟨n, hn⟩ : ∃ n, n = rs1.length := ⟨_, rfl⟩
        have S2 := St.setE [Res.at eb (EObj e), Res.node b1 (.slice (some ⟨rg, 0, none⟩) rs1.length rcap) kv1] _ S1 rfl i e
        have hset : rs1.set i e = r1 ++ e :: r2 := by rw [hr12, ← hri]; simp [List.set_append]
        rw [hset] at S2
        rw [← hn] at c0 hrn HW S1 S2 hown0
        have hown : w1.drew.ownsRow 0 52 4 (.slice (some ⟨rg, 0, none⟩) n rcap) n (flatE rs1) := by
          have := S1.drew.h.ok (Res.rowE (.slice (some ⟨rg, 0, none⟩) n rcap) rs1) (by simp [parts])
          have h2 : OwnE w1.drew 52 (.slice (some ⟨rg, 0, none⟩) n rcap) rs1 := this
          unfold OwnE at h2
          rwa [← hn] at h2
        have HFIN : Hid (PP (.returned (.bool false)) ((((w1.setCell ⟨rg, i * 4, none⟩ (.string e.key)).setCell ⟨rg, i * 4 + 1, none⟩ (.slice e.va e.vl e.vc)).setCell ⟨rg, i * 4 + 2, none⟩ (.int .u64 e.rev)).setCell ⟨rg, i * 4 + 3, none⟩ (.int .u64 e.lease)).drew) := by
          refine HRR.out _ _ (HW.out _ _ ?_)
          obtain ⟨a1, a2, a3, a4, a5, a6⟩ := HF.out
          rw [hr12] at a1 a2 a5
          obtain ⟨c', T, t1, t2, t3, t4⟩ := shut_found (x := x) S2.drew (by simp at a1; omega) a2 a3 a5 hxk
          refine ⟨c', T, t1, by rw [hr12]; exact t2, by rw [hr12]; simp; omega, fun _ => by omega, ?_⟩
          rw [hr12]; simp [t4]
        have HN : Hid (i < n ∧ n ≤ 1000) := ⟨by omega, by have := HF.out.1; omega⟩
        clear S1 S2 hx hxk hil hn hr12 hri hset hown0 HF HW HOK HLO HRR
        go_upto_region 3 with (fail)
        refine region_lex 7 (fun w' => w'.cell? ⟨b1, 0, none⟩ = some (.slice (some ⟨rg, 0, none⟩) n rcap) ∧ w'.cell? ⟨eb, 0, none⟩ = some (.string e.key) ∧ w'.cell? ⟨eb, 0 + 1, none⟩ = some (.slice e.va e.vl e.vc) ∧ w'.cell? ⟨eb, 0 + 2, none⟩ = some (.int .u64 e.rev) ∧ w'.cell? ⟨eb, 0 + 3, none⟩ = some (.int .u64 e.lease)) (by kernel_rfl) (by kernel_rfl) (fun _ _ d _ _ h => by cases d <;> exact h) ⟨c0, x0, x1, x2, x3⟩ ?_
        refine reads_cons (.pointer (some ⟨b1, 0, none⟩)) (fun w' hw' => rfl) ?_
        simp only [Act.put, List.setIfInBounds_toArray, List.set_cons_succ, List.set_cons_zero]
        refine reads_cons (.pointer (some ⟨b1, 0, none⟩)) (fun w' hw' => rfl) ?_
        simp only [Act.put, List.setIfInBounds_toArray, List.set_cons_succ, List.set_cons_zero]
        refine reads_cons (.pointer (some ⟨b1, 0, none⟩)) (fun w' hw' => rd_field (fld71_0 b1 w') rfl rfl) ?_
        simp only [Act.put, List.setIfInBounds_toArray, List.set_cons_succ, List.set_cons_zero]
        refine reads_cons (.slice (some ⟨rg, 0, none⟩) n rcap) (fun w' hw' => rd_load (ld35 hw'.1) rfl rfl) ?_
        simp only [Act.put, List.setIfInBounds_toArray, List.set_cons_succ, List.set_cons_zero]
        refine reads_cons (.int .i64 i) (fun w' hw' => rfl) ?_
        simp only [Act.put, List.setIfInBounds_toArray, List.set_cons_succ, List.set_cons_zero]
        refine reads_cons (.agg #[.string e.key, .slice e.va e.vl e.vc, .int .u64 e.rev, .int .u64 e.lease]) (fun w' hw' => rd_load (ld52 hw'.2.1 hw'.2.2.1 hw'.2.2.2.1 hw'.2.2.2.2) rfl rfl) ?_
        simp only [Act.put, List.setIfInBounds_toArray, List.set_cons_succ, List.set_cons_zero]
        refine reads_cons (.pointer (some ⟨rg, i * 4, none⟩)) (fun w' hw' => rd_index (ix35 w' HN.out.1 HN.out.2) rfl rfl rfl) ?_
        simp only [Act.put, List.setIfInBounds_toArray, List.set_cons_succ, List.set_cons_zero]
        refine reads_nil ?_
        refine seq_skip _ (rd_store (st52 hown i HN.out.1 e) rfl rfl rfl) (fun h => absurd rfl h) ?_
        simp only [Act.put, List.setIfInBounds_toArray, List.set_cons_succ, List.set_cons_zero]
        refine seq_nil ?_
        clear hown
        go_wp2_with fail
        exact HFIN.out
    | false =>
      obtain ⟨hi, hlt, hge⟩ := HLO.out
      have hgt := rs_after HF.out.2.2.2.2.2 hge (fun h => by have := HOK.out.2 h; cases this)
      obtain ⟨r1, r2, hr12, hri⟩ : ∃ r1 r2, rs1 = r1 ++ r2 ∧ r1.length = i := ⟨rs1.take i, rs1.drop i, (List.take_append_drop _ _).symm, by simp; omega⟩
      subst hr12
      rw [List.take_left' hri] at hlt
      rw [List.drop_left' hri] at hgt
      have HLT : Hid ((∀ x ∈ r1, Lt x.key e.key) ∧ (∀ x ∈ r2, Lt e.key x.key) ∧ r1.length = i) := ⟨hlt, hgt, hri⟩
      have HLF : Hid (Calls Try.prog 39 #[.pointer (some ⟨b1, 0, none⟩)] w1 fun e w' => e = .returned (.bool (decide (ks1.length = 0))) ∧ w' = w1) := leaf39 (S1.h.ok (Res.node b1 rv1 kv1) (by simp [parts])) (S1.h.ok (Res.rowN kv1 ks1) (by simp [parts]))
      have HS1 : Hid (St wr (bl (Res.at eb (EObj e) :: parts gk b1 rv1 kv1 (r1 ++ r2) ks1)) w1 (Res.at eb (EObj e) :: parts gk b1 rv1 kv1 (r1 ++ r2) ks1)) := S1
      clear S1 hi hlt hge hgt hri HOK HLO
      go_upto_if 25 with (go_at_call 39; refine HLF.out.mono ?_; rintro e5 w2 ⟨rfl, hw2⟩; replace hw2 := hw2.symm; subst hw2)
      clear HLF
      by_cases hk0 : ks1 = []
      · subst hk0
        as_aux_lemma =>
          obtain rfl : gk = 0 := by
            by_cases h : gk = 0
            · exact h
            · have := HF.out.2.1.2 h; simp at this
          have S4 := HS1.out.drew
          clear HS1
          have HFIN : Hid (∀ zg zn zcap w3, zn = (r1 ++ e :: r2).length → St wr (bl (Res.at eb (EObj e) :: parts 0 b1 rv1 kv1 (r1 ++ r2) [])) w3 ([Res.at eb (EObj e), Res.node b1 rv1 kv1] ++ Res.rowE (.slice (some ⟨zg, 0, none⟩) zn zcap) (r1 ++ e :: r2) :: [Res.rowN kv1 []]) → PP (.returned (.bool true)) (w3.setCell ⟨b1, 0, none⟩ (.slice (some ⟨zg, 0, none⟩) zn zcap))) := by
            intro zg zn zcap w3 hz S7
            have S8 := St.set0 [Res.at eb (EObj e)] _ (St.perm S7 (by rfl)) (.slice (some ⟨zg, 0, none⟩) zn zcap)
            refine HRR.out _ _ (HW.out _ _ ?_)
            obtain ⟨a1, a2, a3, a4, a5, a6⟩ := HF.out
            obtain ⟨h1, h2, h3⟩ := HLT.out
            obtain ⟨c', T, t1, t2, t3, t4⟩ := shut_leaf (r1 := r1) (r2 := r2) S8 (by simp at a1; omega) h1 h2
            exact ⟨c', T, t1, t2, by simp; omega, fun h => absurd rfl h, by simp; exact t4⟩
          have HI : Hid (r1.length = i ∧ r1.length + r2.length ≤ 1000) := ⟨HLT.out.2.2, by have := HF.out.1; simp at this; omega⟩
          clear HF HW HRR HLT
          have y0 : w1.drew.cell? ⟨b1, 0, none⟩ = some rv1 := c0
          go_upto_region 6 with (fail)
          refine region_lex 7 (fun w' => w'.cell? ⟨b1, 0, none⟩ = some (rv1) ∧ w'.cell? ⟨eb, 0, none⟩ = some (.string e.key) ∧ w'.cell? ⟨eb, 0 + 1, none⟩ = some (.slice e.va e.vl e.vc) ∧ w'.cell? ⟨eb, 0 + 2, none⟩ = some (.int .u64 e.rev) ∧ w'.cell? ⟨eb, 0 + 3, none⟩ = some (.int .u64 e.lease)) (by kernel_rfl) (by kernel_rfl) (fun _ _ d _ _ h => by cases d <;> exact h) ⟨y0, x0, x1, x2, x3⟩ ?_
          refine reads_cons (.pointer (some ⟨b1, 0, none⟩)) (fun w' hw' => rfl) ?_
          simp only [Act.put, List.setIfInBounds_toArray, List.set_cons_succ, List.set_cons_zero]
          refine reads_cons (.pointer (some ⟨b1, 0, none⟩)) (fun w' hw' => rfl) ?_
          simp only [Act.put, List.setIfInBounds_toArray, List.set_cons_succ, List.set_cons_zero]
          refine reads_cons (.pointer (some ⟨b1, 0, none⟩)) (fun w' hw' => rfl) ?_
          simp only [Act.put, List.setIfInBounds_toArray, List.set_cons_succ, List.set_cons_zero]
          refine reads_cons (.pointer (some ⟨b1, 0, none⟩)) (fun w' hw' => rd_field (fld71_0 b1 w') rfl rfl) ?_
          simp only [Act.put, List.setIfInBounds_toArray, List.set_cons_succ, List.set_cons_zero]
          refine reads_cons (rv1) (fun w' hw' => rd_load (ld35 hw'.1) rfl rfl) ?_
          simp only [Act.put, List.setIfInBounds_toArray, List.set_cons_succ, List.set_cons_zero]
          refine reads_cons (.int .i64 i) (fun w' hw' => rfl) ?_
          simp only [Act.put, List.setIfInBounds_toArray, List.set_cons_succ, List.set_cons_zero]
          refine reads_cons (.agg #[.string e.key, .slice e.va e.vl e.vc, .int .u64 e.rev, .int .u64 e.lease]) (fun w' hw' => rd_load (ld52 hw'.2.1 hw'.2.2.1 hw'.2.2.2.1 hw'.2.2.2.2) rfl rfl) ?_
          simp only [Act.put, List.setIfInBounds_toArray, List.set_cons_succ, List.set_cons_zero]
          refine reads_nil ?_
          have S5 := S4.alloc (EObj e)
          obtain ⟨vb, hvb⟩ : ∃ vb, vb = w1.drew.heap.size := ⟨_, rfl⟩
          obtain ⟨W7, hW7⟩ : ∃ W7, W7 = w1.drew.alloc (EObj e) := ⟨_, rfl⟩
          rw [← hvb, ← hW7] at S5
          obtain ⟨k0, k1, kf0, kf1, klt⟩ := node_cells (S5.h.ok (Res.node b1 rv1 kv1) (by simp [parts]))
          obtain ⟨y0, y1, y2, y3⟩ := at_cells (S5.h.ok (Res.at eb (EObj e)) (by simp))
          refine seq_value (.slice (some ⟨vb, 0, none⟩) 1 1) W7 (by rw [hvb, hW7]; exact rd_build (bs35 _ _ _ _ _ rfl rfl rfl rfl) rfl rfl) (fun _ => ⟨k0, y0, y1, y2, y3⟩) ?_
          simp only [Act.put, List.setIfInBounds_toArray, List.set_cons_succ, List.set_cons_zero]
          have HDL := insE_st (w := W7) (tb := 52) [Res.at eb (EObj e), Res.node b1 rv1 kv1] [Res.rowN kv1 []] (v := rv1) (rs1 := r1) (rs2 := r2) (e := e) (vb := vb) (i := i) S5 HI.out.2 HI.out.1
          refine seq_call 37 #[rv1, .int .i64 i, .slice (some ⟨vb, 0, none⟩) 1 1] _ (by go_simp) HDL ?_
          rintro e6 w3 ⟨zg, zcap, rfl, S7⟩
          obtain ⟨zn, hzn⟩ : ∃ zn, zn = (r1 ++ e :: r2).length := ⟨_, rfl⟩
          rw [← hzn] at S7 ⊢
          obtain ⟨g0, g1, gf0, gf1, glt⟩ := node_cells (S7.h.ok (Res.node b1 rv1 kv1) (by simp))
          obtain ⟨z0, z1, z2, z3⟩ := at_cells (S7.h.ok (Res.at eb (EObj e)) (by simp))
          have HFIN2 := HFIN.out zg zn zcap w3 hzn S7
          refine ⟨_, rfl, ⟨g0, z0, z1, z2, z3⟩, ?_⟩
          simp only [Act.put, List.setIfInBounds_toArray, List.set_cons_succ, List.set_cons_zero]
          refine seq_value (.pointer (some ⟨b1, 0, none⟩)) w3 rfl (fun _ => ⟨g0, z0, z1, z2, z3⟩) ?_
          simp only [Act.put, List.setIfInBounds_toArray, List.set_cons_succ, List.set_cons_zero]
          refine seq_value (.pointer (some ⟨b1, 0, none⟩)) w3 (rd_field (fld71_0 b1 w3) rfl rfl) (fun _ => ⟨g0, z0, z1, z2, z3⟩) ?_
          simp only [Act.put, List.setIfInBounds_toArray, List.set_cons_succ, List.set_cons_zero]
          refine seq_skip (w3.setCell ⟨b1, 0, none⟩ (.slice (some ⟨zg, 0, none⟩) zn zcap)) (rd_store (st35 (some ⟨zg, 0, none⟩) zn zcap g0 gf0) rfl rfl rfl) (fun h => absurd rfl h) ?_
          simp only [Act.put, List.setIfInBounds_toArray, List.set_cons_succ, List.set_cons_zero]
          refine seq_nil ?_
          have HFIN3 : Hid (PP (.returned (.bool true)) (w3.setCell ⟨b1, 0, none⟩ (.slice (some ⟨zg, 0, none⟩) zn zcap))) := HFIN2
          clear S7 S4 S5 HDL HFIN HFIN2 hzn hW7 hvb
          go_wp2_with fail
          exact HFIN3.out
      · have hgk : gk ≠ 0 := fun h => hk0 (HF.out.2.1.1 h)
        obtain ⟨g, rfl⟩ : ∃ g, gk = g + 1 := ⟨gk - 1, by omega⟩
        clear hgk
        have hkl := HF.out.2.1.2 (by omega)
        obtain ⟨k1, f, k2, rfl, hk1, hk2⟩ : ∃ k1 f k2, ks1 = k1 ++ f :: k2 ∧ k1.length = r1.length ∧ k2.length = r2.length := by
          have hlen : r1.length < ks1.length := by rw [hkl]; simp; omega
          refine ⟨ks1.take r1.length, ks1[r1.length], ks1.drop (r1.length + 1), ?_, by simp; omega, by rw [List.length_drop, hkl, List.length_append]; omega⟩
          rw [← List.drop_eq_getElem_cons, List.take_append_drop]
        clear hkl
        have hkv : OwnN w1 kv1 (k1 ++ f :: k2) := HS1.out.h.ok (Res.rowN kv1 (k1 ++ f :: k2)) (by simp [parts])
        rcases hkv.form with ⟨_, h⟩ | ⟨kg, kcap, rfl, hkg, hkn, hkc⟩
        · simp at h
        have hkcell : w1.cell? ⟨kg, i, none⟩ = some (.pointer (some ⟨f.b, 0, none⟩)) := hkv.cell rfl (by simp [← HLT.out.2.2, ← hk1])
        obtain ⟨m, hm⟩ : ∃ m, m = (k1 ++ f :: k2).length := ⟨_, rfl⟩
        rw [← hm] at c1 hkn HW HS1
        have S1 := HS1.out
        have S2 : St wr (bl (Res.at eb (EObj e) :: parts (g + 1) b1 rv1 (.slice (some ⟨kg, 0, none⟩) m kcap) (r1 ++ r2) (k1 ++ f :: k2))) w1 ([Res.at eb (EObj e)] ++ Res.tree g f :: Res.node b1 rv1 (.slice (some ⟨kg, 0, none⟩) m kcap) :: Res.rowE rv1 (r1 ++ r2) :: Res.rowN (.slice (some ⟨kg, 0, none⟩) m kcap) (k1 ++ f :: k2) :: (trees g k1 ++ trees g k2)) := by
          refine S1.perm ?_
          refine List.Perm.cons _ ?_
          simp only [parts, Nat.add_sub_cancel, List.map_append, List.map_cons]
          exact (List.perm_middle (l₁ := Res.node b1 rv1 _ :: Res.rowE rv1 (r1 ++ r2) :: Res.rowN _ (k1 ++ f :: k2) :: trees g k1) (l₂ := trees g k2))
        obtain ⟨frs, fks, frv, fkv, S3, hfk, hf63, hfkl, hfkm⟩ := St.open [Res.at eb (EObj e)] _ S2
        have hfr : f.r = frs.length := by rw [hfk]
        have hffl : f.fl = weave fks frs := by rw [hfk]
        have hf31 : 31 ≤ f.r := HF.out.2.2.1 f (by simp)
        have hfown : OwnE w1 52 frv frs := S3.h.ok (Res.rowE frv frs) (by simp [parts])
        rcases hfown.form with ⟨_, h⟩ | ⟨fg, fcap, rfl, hfg, hfn, hfc⟩
        · rw [h] at hfr; simp at hfr; omega
        obtain ⟨d0, d1, df0, df1, dlt⟩ := node_cells (S3.h.ok (Res.node f.b (.slice (some ⟨fg, 0, none⟩) frs.length fcap) fkv) (by simp [parts]))
        have hin : i < m := by have := HLT.out.2.2; rw [hm]; simp; omega
        have hm64 : m ≤ 64 := by have := HF.out.1; rw [hm]; simp at this ⊢; omega
        have hnd : decide (k1 ++ f :: k2 = []) = false := decide_eq_false hk0
        obtain ⟨fn, hfn'⟩ : ∃ fn, fn = frs.length := ⟨_, rfl⟩
        rw [← hfn'] at d0 hfn S3 hfr
        have HFF : Hid (f.r = fn ∧ f.fl = weave fks frs ∧ 31 ≤ f.r ∧ fn = frs.length ∧ KLen g fks frs ∧ (∀ c ∈ fks, 31 ≤ c.r) ∧ fn ≤ 63 ∧ k1.length = r1.length ∧ k2.length = r2.length ∧ m = (k1 ++ f :: k2).length) := ⟨hfr, hffl, hf31, hfn', hfkl, hfkm, by omega, hk1, hk2, hm⟩
        have HS2 : Hid (St wr _ w1 _) := S2
        have HS3 : Hid (St wr _ w1 _) := S3
        clear S1 S2 S3 HS1 hfr hffl hf31 hfn' hfkl hfkm hfk hf63 hfown hkv hk1 hk2 hm hk0
        rw [hnd]
        go_upto_if 48 with (fail)
        by_cases hfull : fn = 63
        · as_aux_lemma =>
            subst hfull
            obtain ⟨a1, a2, a3, a4, a5, a6⟩ := HF.out
            obtain ⟨q1, q2, q3, q4, q5, q6, q7, q8, q9, q10⟩ := HFF.out
            have T0 : St wr (bl (Res.at eb (EObj e) :: parts (g + 1) b1 rv1 (.slice (some ⟨kg, 0, none⟩) m kcap) (r1 ++ r2) (k1 ++ f :: k2))) w1 (Res.node b1 rv1 (.slice (some ⟨kg, 0, none⟩) m kcap) :: Res.rowE rv1 (r1 ++ r2) :: Res.rowN (.slice (some ⟨kg, 0, none⟩) m kcap) (k1 ++ f :: k2) :: Res.node f.b (.slice (some ⟨fg, 0, none⟩) 63 fcap) fkv :: Res.rowE (.slice (some ⟨fg, 0, none⟩) 63 fcap) frs :: Res.rowN fkv fks :: (trees (g - 1) fks ++ (Res.at eb (EObj e) :: (trees g k1 ++ trees g k2)))) := by
              refine HS3.out.perm ?_
              show ([Res.at eb (EObj e)] ++ ([Res.node f.b (.slice (some ⟨fg, 0, none⟩) 63 fcap) fkv, Res.rowE (.slice (some ⟨fg, 0, none⟩) 63 fcap) frs, Res.rowN fkv fks] ++ (trees (g - 1) fks ++ ([Res.node b1 rv1 (.slice (some ⟨kg, 0, none⟩) m kcap), Res.rowE rv1 (r1 ++ r2), Res.rowN (.slice (some ⟨kg, 0, none⟩) m kcap) (k1 ++ f :: k2)] ++ (trees g k1 ++ trees g k2))))).Perm
                ([Res.node b1 rv1 (.slice (some ⟨kg, 0, none⟩) m kcap), Res.rowE rv1 (r1 ++ r2), Res.rowN (.slice (some ⟨kg, 0, none⟩) m kcap) (k1 ++ f :: k2)] ++ ([Res.node f.b (.slice (some ⟨fg, 0, none⟩) 63 fcap) fkv, Res.rowE (.slice (some ⟨fg, 0, none⟩) 63 fcap) frs, Res.rowN fkv fks] ++ (trees (g - 1) fks ++ ([Res.at eb (EObj e)] ++ (trees g k1 ++ trees g k2)))))
              generalize [Res.at eb (EObj e)] = E
              generalize [Res.node f.b (.slice (some ⟨fg, 0, none⟩) 63 fcap) fkv, Res.rowE (.slice (some ⟨fg, 0, none⟩) 63 fcap) frs, Res.rowN fkv fks] = F
              generalize [Res.node b1 rv1 (.slice (some ⟨kg, 0, none⟩) m kcap), Res.rowE rv1 (r1 ++ r2), Res.rowN (.slice (some ⟨kg, 0, none⟩) m kcap) (k1 ++ f :: k2)] = A
              refine (List.perm_append_comm_assoc E F _).trans ?_
              refine (List.Perm.append_left F ((List.perm_append_comm_assoc E _ _).trans (List.Perm.append_left _ (List.perm_append_comm_assoc E A _)))).trans ?_
              refine (List.Perm.append_left F (List.perm_append_comm_assoc _ A _)).trans ?_
              exact List.perm_append_comm_assoc F A _
            have HSP : Hid (Calls Try.prog 45 #[.pointer (some ⟨b1, 0, none⟩), .int .i64 i] w1 (SplitSays wr (bl (Res.at eb (EObj e) :: parts (g + 1) b1 rv1 (.slice (some ⟨kg, 0, none⟩) m kcap) (r1 ++ r2) (k1 ++ f :: k2))) b1 f.b r1 r2 frs k1 f k2 fks (trees (g - 1) fks ++ (Res.at eb (EObj e) :: (trees g k1 ++ trees g k2))))) := by
              refine split45 T0 rfl q4.symm i (by rw [q8]; exact HLT.out.2.2) HLT.out.2.2 q9 (by have := HLT.out.2.2; simp at a1; omega) ?_
              by_cases h : g = 0
              · left; rw [q5.1 h]; rfl
              · right; rw [q5.2 h]; omega
            clear T0 HS2 HS3 a1 a2 a3 a4 a5 a6 q1 q2 q3 q4 q5 q6 q7 q8 q9 q10 d0 d1 df0 df1 dlt
            go_upto_region 10 with (go_at_call 45; refine HSP.out.mono ?_; rintro e6 w2 ⟨up, rv2, kv2, frv2, fkv2, rb, rrv, rkv, rfl, hup, T0⟩; obtain ⟨fL, fR, T1, t1, t2, t3, t4, t5⟩ := split_after T0 HFF.out.2.2.2.1.symm hup HFF.out.2.2.2.2.1 HFF.out.2.2.2.2.2.1; have HT1 : Hid (St wr _ w2 _) := T1; have HTF : Hid (fL.b = f.b ∧ fR.b = rb ∧ fL.r = 31 ∧ fR.r = 31 ∧ fL.fl ++ up :: fR.fl = weave fks frs) := ⟨t1, t2, t3, t4, t5⟩; clear T0 T1 t1 t2 t3 t4 t5 hup HSP)
            have T1 := HT1.out
            clear HT1 c0 c1 f0 f1 x0 x1 x2 x3 hkcell blt
            have hown0 : OwnE w2 52 rv2 (r1 ++ up :: r2) := T1.h.ok (Res.rowE rv2 (r1 ++ up :: r2)) (by simp)
            rcases hown0.form with ⟨_, h0⟩ | ⟨rg, rcap, rfl, hrg, hrn, hrc⟩
            · simp at h0
            obtain ⟨n, hn⟩ : ∃ n, n = (r1 ++ up :: r2).length := ⟨_, rfl⟩
            obtain ⟨p0, p1, p2, p3⟩ := OwnE.cell hown0 rfl (i := i) (e := up) (by simp [← HLT.out.2.2])
            have hown1 : OwnN w2 kv2 (k1 ++ f :: Nob rb :: k2) := T1.h.ok (Res.rowN kv2 (k1 ++ f :: Nob rb :: k2)) (by simp)
            rcases hown1.form with ⟨_, h0⟩ | ⟨kg2, kcap2, rfl, hkg2, hkn2, hkc2⟩
            · simp at h0
            have hkc1 : w2.cell? ⟨kg2, i, none⟩ = some (.pointer (some ⟨f.b, 0, none⟩)) := hown1.cell rfl (by simp [← HLT.out.2.2, ← HFF.out.2.2.2.2.2.2.2.1])
            have hkc3 : w2.cell? ⟨kg2, i + 1, none⟩ = some (.pointer (some ⟨rb, 0, none⟩)) := hown1.cell (k := Nob rb) rfl (by
              have h1 : k1.length = i := by rw [HFF.out.2.2.2.2.2.2.2.1]; exact HLT.out.2.2
              rw [List.getElem?_append_right (by omega), show i + 1 - k1.length = 1 by omega]; rfl)
            obtain ⟨m2, hm2⟩ : ∃ m2, m2 = (k1 ++ f :: Nob rb :: k2).length := ⟨_, rfl⟩
            rw [← hn] at hrn T1 hown0
            rw [← hm2] at hkn2 T1
            obtain ⟨c0, c1, f0, f1, blt⟩ := node_cells (T1.h.ok (Res.node b1 (.slice (some ⟨rg, 0, none⟩) n rcap) (.slice (some ⟨kg2, 0, none⟩) m2 kcap2)) (by simp))
            obtain ⟨x0, x1, x2, x3⟩ := at_cells (T1.h.ok (Res.at eb (EObj e)) (by simp))
            have hin2 : i < n := by rw [hn]; simp; have := HLT.out.2.2; omega
            have hn64 : n ≤ 64 := by rw [hn]; have := HF.out.1; simp at this ⊢; omega
            have him2 : i + 1 < m2 := by rw [hm2]; simp; have := HLT.out.2.2; have := HFF.out.2.2.2.2.2.2.2.1; omega
            have hm264 : m2 ≤ 65 := by rw [hm2]; have := HF.out.1; have := HFF.out.2.2.2.2.2.2.2.1; have := HFF.out.2.2.2.2.2.2.2.2.1; simp at *; omega
            have HT2 : Hid (St wr (bl (Res.at eb (EObj e) :: parts (g + 1) b1 rv1 (.slice (some ⟨kg, 0, none⟩) m kcap) (r1 ++ r2) (k1 ++ f :: k2))) w2 (Res.at eb (EObj e) :: Res.tree g fL :: Res.tree g fR :: Res.node b1 (.slice (some ⟨rg, 0, none⟩) n rcap) (.slice (some ⟨kg2, 0, none⟩) m2 kcap2) :: Res.rowE (.slice (some ⟨rg, 0, none⟩) n rcap) (r1 ++ up :: r2) :: Res.rowN (.slice (some ⟨kg2, 0, none⟩) m2 kcap2) (k1 ++ f :: Nob rb :: k2) :: (trees g k1 ++ trees g k2))) := T1
            have HN2 : Hid (n = (r1 ++ up :: r2).length) := hn
            clear T1 hown0 hown1 hn hm2
            go_quiet ((go_at_call 46; exact Calls.quiet_of_same (compare46 _ _ _)))
            obtain ⟨W, hW⟩ : ∃ W, W = w2.drewN nq := ⟨_, rfl⟩
            have T2 := HT2.out.drewN nq
            replace c0 : (w2.drewN nq).cell? _ = _ := c0
            replace c1 : (w2.drewN nq).cell? _ = _ := c1
            replace hkc1 : (w2.drewN nq).cell? _ = _ := hkc1
            replace hkc3 : (w2.drewN nq).cell? _ = _ := hkc3
            replace x0 : (w2.drewN nq).cell? _ = _ := x0
            replace x1 : (w2.drewN nq).cell? _ = _ := x1
            replace x2 : (w2.drewN nq).cell? _ = _ := x2
            replace x3 : (w2.drewN nq).cell? _ = _ := x3
            rw [← hW] at T2 c0 c1 hkc1 hkc3 x0 x1 x2 x3 ⊢
            clear hW HT2 p0 p1 p2 p3 f0 f1 blt hrg hkg2
            have HT2 : Hid (St wr (bl (Res.at eb (EObj e) :: parts (g + 1) b1 rv1 (.slice (some ⟨kg, 0, none⟩) m kcap) (r1 ++ r2) (k1 ++ f :: k2))) W _) := T2
            clear T2
            have hweave : weave (k1 ++ fL :: fR :: k2) (r1 ++ up :: r2) = weave (k1 ++ f :: k2) (r1 ++ r2) := split_weave HFF.out.2.2.2.2.2.2.2.1 (by rw [HFF.out.2.1]; exact HTF.out.2.2.2.2)
            have HWV : Hid (weave (k1 ++ fL :: fR :: k2) (r1 ++ up :: r2) = weave (k1 ++ f :: k2) (r1 ++ r2)) := hweave
            clear hweave
            rcases cmp_three e.key up.key with h3 | h3 | h3
            · rw [h3]
              have hlt : Lt e.key up.key := h3
              have HL3 : Hid (Lt e.key up.key) := hlt
              clear h3 hlt
              as_aux_lemma =>
                go_wp2_with fail
                go_roundg g
                case measure => omega
                case rel =>
                  obtain ⟨a1, a2, a3, a4, a5, a6⟩ := HF.out
                  obtain ⟨q1, q2, q3, q4, q5, q6, q7, q8, q9, q10⟩ := HFF.out
                  obtain ⟨t1, t2, t3, t4, t5⟩ := HTF.out
                  rw [← HWV.out] at a5
                  refine ⟨fL.b, by rw [t1], SetInv.down (c := fL) (ks' := k1 ++ f :: Nob rb :: k2) (ks1 := k1) (ks2 := fR :: k2) (rs1 := r1) (rs2 := up :: r2) (HT2.out.perm (List.Perm.cons _ (List.Perm.cons _ (List.perm_middle (l₁ := Res.node b1 _ _ :: Res.rowE _ _ :: Res.rowN _ _ :: trees g k1) (l₂ := trees g k2)).symm))) (by simp [ptrs, Nob, t1, t2]) q8 (by simpa using q9) (by omega) (by omega) (fun x hx => a3 x (by simp [hx])) (fun x hx => ?_) (by simp at a1 ⊢; omega) a5 HLT.out.1 (fun x hx => ?_) ?_⟩
                  · rcases List.mem_cons.1 hx with rfl | hx
                    · omega
                    · exact a3 x (by simp [hx])
                  · rcases List.mem_cons.1 hx with rfl | hx
                    · exact HL3.out
                    · exact HLT.out.2.1 x hx
                  · intro ok w' c' T b1 b2 b3 b4
                    rw [HWV.out] at b2 b4
                    exact HW.out _ _ ⟨c', T, b1, b2, by rw [b3]; simp only [List.length_append, List.length_cons]; omega, fun _ => by rw [b3]; simp only [List.length_append, List.length_cons]; omega, b4⟩
            · rw [h3]
              have heq : up.key = e.key := (cmp_zero.1 h3).symm
              have HL3 : Hid (up.key = e.key) := heq
              clear h3 heq
              as_aux_lemma =>
                have T2 := HT2.out
                have T3 := St.setE [Res.at eb (EObj e), Res.tree g fL, Res.tree g fR, Res.node b1 (.slice (some ⟨rg, 0, none⟩) n rcap) (.slice (some ⟨kg2, 0, none⟩) m2 kcap2)] _ T2 HN2.out i e
                rw [show (r1 ++ up :: r2).set i e = r1 ++ e :: r2 by rw [← HLT.out.2.2]; simp [List.set_append]] at T3
                have hown : W.drew.ownsRow 0 52 4 (.slice (some ⟨rg, 0, none⟩) n rcap) n (flatE (r1 ++ up :: r2)) := by
                  have h2 : OwnE W.drew 52 (.slice (some ⟨rg, 0, none⟩) n rcap) (r1 ++ up :: r2) := T2.drew.h.ok (Res.rowE (.slice (some ⟨rg, 0, none⟩) n rcap) (r1 ++ up :: r2)) (by simp)
                  unfold OwnE at h2
                  rwa [← HN2.out] at h2
                have HFIN : Hid (PP (.returned (.bool false)) ((((W.setCell ⟨rg, i * 4, none⟩ (.string e.key)).setCell ⟨rg, i * 4 + 1, none⟩ (.slice e.va e.vl e.vc)).setCell ⟨rg, i * 4 + 2, none⟩ (.int .u64 e.rev)).setCell ⟨rg, i * 4 + 3, none⟩ (.int .u64 e.lease)).drew) := by
                  obtain ⟨a1, a2, a3, a4, a5, a6⟩ := HF.out
                  obtain ⟨q1, q2, q3, q4, q5, q6, q7, q8, q9, q10⟩ := HFF.out
                  obtain ⟨t1, t2, t3, t4, t5⟩ := HTF.out
                  rw [← HWV.out] at a5
                  refine HRR.out _ _ (HW.out _ _ ?_)
                  have T4 := St.perm (M := Res.at eb (EObj e) :: parts (g + 1) b1 (.slice (some ⟨rg, 0, none⟩) n rcap) (.slice (some ⟨kg2, 0, none⟩) m2 kcap2) (r1 ++ e :: r2) (k1 ++ fL :: fR :: k2)) T3.drew (by
                    refine List.Perm.cons _ ?_
                    rw [rowN_same (show ptrs (k1 ++ f :: Nob rb :: k2) = ptrs (k1 ++ fL :: fR :: k2) by simp [ptrs, Nob, t1, t2])]
                    simp only [parts, Nat.add_sub_cancel, List.map_append, List.map_cons]
                    show ([Res.tree g fL, Res.tree g fR] ++ ((Res.node b1 _ _ :: Res.rowE _ _ :: Res.rowN _ _ :: trees g k1) ++ trees g k2)).Perm ((Res.node b1 _ _ :: Res.rowE _ _ :: Res.rowN _ _ :: trees g k1) ++ ([Res.tree g fL, Res.tree g fR] ++ trees g k2))
                    exact List.perm_append_comm_assoc _ _ _)
                  obtain ⟨c', T, b1', b2, b3, b4⟩ := shut_found (x := up) T4 (by simp at a1; omega) ⟨fun h => by omega, fun _ => by simp; omega⟩ (by
                    intro c hc
                    simp only [List.mem_append, List.mem_cons] at hc
                    rcases hc with h | rfl | rfl | h
                    · exact a3 c (by simp [h])
                    · omega
                    · omega
                    · exact a3 c (by simp [h])) a5 HL3.out
                  rw [HWV.out] at b2 b4
                  exact ⟨c', T, b1', b2, by rw [b3]; simp only [List.length_append]; omega, fun _ => by omega, by simp [b4]⟩
                have HN : Hid (i < n ∧ n ≤ 1000) := ⟨by omega, by omega⟩
                clear T2 T3 HT2 HFF HF HW HRR HLT HTF HWV HL3
                go_upto_region 12 with (fail)
                refine region_lex 7 (fun w' => w'.cell? ⟨b1, 0, none⟩ = some (.slice (some ⟨rg, 0, none⟩) n rcap) ∧ w'.cell? ⟨eb, 0, none⟩ = some (.string e.key) ∧ w'.cell? ⟨eb, 0 + 1, none⟩ = some (.slice e.va e.vl e.vc) ∧ w'.cell? ⟨eb, 0 + 2, none⟩ = some (.int .u64 e.rev) ∧ w'.cell? ⟨eb, 0 + 3, none⟩ = some (.int .u64 e.lease)) (by kernel_rfl) (by kernel_rfl) (fun _ _ d _ _ h => by cases d <;> exact h) ⟨c0, x0, x1, x2, x3⟩ ?_
                refine reads_cons (.pointer (some ⟨b1, 0, none⟩)) (fun w' hw' => rfl) ?_
                simp only [Act.put, List.setIfInBounds_toArray, List.set_cons_succ, List.set_cons_zero]
                refine reads_cons (.pointer (some ⟨b1, 0, none⟩)) (fun w' hw' => rfl) ?_
                simp only [Act.put, List.setIfInBounds_toArray, List.set_cons_succ, List.set_cons_zero]
                refine reads_cons (.pointer (some ⟨b1, 0, none⟩)) (fun w' hw' => rd_field (fld71_0 b1 w') rfl rfl) ?_
                simp only [Act.put, List.setIfInBounds_toArray, List.set_cons_succ, List.set_cons_zero]
                refine reads_cons (.slice (some ⟨rg, 0, none⟩) n rcap) (fun w' hw' => rd_load (ld35 hw'.1) rfl rfl) ?_
                simp only [Act.put, List.setIfInBounds_toArray, List.set_cons_succ, List.set_cons_zero]
                refine reads_cons (.int .i64 i) (fun w' hw' => rfl) ?_
                simp only [Act.put, List.setIfInBounds_toArray, List.set_cons_succ, List.set_cons_zero]
                refine reads_cons (.agg #[.string e.key, .slice e.va e.vl e.vc, .int .u64 e.rev, .int .u64 e.lease]) (fun w' hw' => rd_load (ld52 hw'.2.1 hw'.2.2.1 hw'.2.2.2.1 hw'.2.2.2.2) rfl rfl) ?_
                simp only [Act.put, List.setIfInBounds_toArray, List.set_cons_succ, List.set_cons_zero]
                refine reads_cons (.pointer (some ⟨rg, i * 4, none⟩)) (fun w' hw' => rd_index (ix35 w' HN.out.1 HN.out.2) rfl rfl rfl) ?_
                simp only [Act.put, List.setIfInBounds_toArray, List.set_cons_succ, List.set_cons_zero]
                refine reads_nil ?_
                refine seq_skip _ (rd_store (st52 hown i HN.out.1 e) rfl rfl rfl) (fun h => absurd rfl h) ?_
                simp only [Act.put, List.setIfInBounds_toArray, List.set_cons_succ, List.set_cons_zero]
                refine seq_nil ?_
                clear hown
                go_wp2_with fail
                exact HFIN.out
            · rw [h3]
              have hlt : Lt up.key e.key := cmp_one.1 h3
              have HL3 : Hid (Lt up.key e.key) := hlt
              clear h3 hlt
              as_aux_lemma =>
                go_wp2_with fail
                go_roundg g
                case measure => omega
                case rel =>
                  obtain ⟨a1, a2, a3, a4, a5, a6⟩ := HF.out
                  obtain ⟨q1, q2, q3, q4, q5, q6, q7, q8, q9, q10⟩ := HFF.out
                  obtain ⟨t1, t2, t3, t4, t5⟩ := HTF.out
                  have e1 : k1 ++ fL :: fR :: k2 = (k1 ++ [fL]) ++ fR :: k2 := by simp
                  have e2 : r1 ++ up :: r2 = (r1 ++ [up]) ++ r2 := by simp
                  have hwv := HWV.out
                  rw [← hwv] at a5
                  rw [e1, e2] at a5 hwv
                  have T2 := HT2.out
                  rw [e2] at T2
                  refine ⟨fR.b, by rw [t2], SetInv.down (c := fR) (b := b1) (rv := .slice (some ⟨rg, 0, none⟩) n rcap) (kv := .slice (some ⟨kg2, 0, none⟩) m2 kcap2) (ks' := k1 ++ f :: Nob rb :: k2) (ks1 := k1 ++ [fL]) (ks2 := k2) (rs1 := r1 ++ [up]) (rs2 := r2) (T2.perm (List.Perm.cons _ ?_)) (by simp [ptrs, Nob, t1, t2]) (by simpa using q8) q9 (by omega) (by omega) (fun x hx => ?_) (fun x hx => a3 x (by simp [hx])) (by simp at a1 ⊢; omega) a5 (fun x hx => ?_) HLT.out.2.1 ?_⟩
                  · refine (List.Perm.swap _ _ _).trans (List.Perm.cons _ ?_)
                    simp only [trees, List.map_append, List.map_cons, List.map_nil, List.append_assoc, List.singleton_append]
                    exact (List.perm_middle (l₁ := Res.node b1 _ _ :: Res.rowE _ _ :: Res.rowN _ _ :: trees g k1) (l₂ := trees g k2)).symm
                  · rcases List.mem_append.1 hx with hx | hx
                    · exact a3 x (by simp [hx])
                    · simp at hx; subst hx; omega
                  · rcases List.mem_append.1 hx with hx | hx
                    · exact HLT.out.1 x hx
                    · simp at hx; subst hx; exact HL3.out
                  · intro ok w' c' T b1 b2 b3 b4
                    rw [hwv] at b2 b4
                    exact HW.out _ _ ⟨c', T, b1, b2, by rw [b3]; simp only [List.length_append, List.length_cons]; omega, fun _ => by rw [b3]; simp only [List.length_append, List.length_cons]; omega, b4⟩
        · as_aux_lemma =>
            have hfd : decide (fn = 63) = false := decide_eq_false hfull
            go_wp2_with fail
            go_roundg g
            case measure => omega
            case rel =>
              obtain ⟨a1, a2, a3, a4, a5, a6⟩ := HF.out
              obtain ⟨q1, q2, q3, q4, q5, q6, q7, q8, q9, q10⟩ := HFF.out
              refine ⟨f.b, rfl, SetInv.down HS2.out rfl q8 q9 (by omega) q3 (fun x hx => a3 x (by simp [hx])) (fun x hx => a3 x (by simp [hx])) (by omega) a5 HLT.out.1 HLT.out.2.1 ?_⟩
              intro ok w' c' T b1 b2 b3 b4
              refine HW.out _ _ ⟨c', T, b1, b2, by omega, fun _ => ?_, b4⟩
              rw [b3]
              by_cases h : r1 ++ r2 = []
              · have := a4 (by omega) h f (by simp); omega
              · have := List.length_pos_iff.2 h; omega

end Go.Proofs.Qxb6601706a
