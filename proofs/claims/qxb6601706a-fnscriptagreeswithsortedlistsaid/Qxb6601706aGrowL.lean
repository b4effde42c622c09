import Derived.Test.Qxb6601706aMerge
namespace Go.Proofs.Qxb6601706a
open Go.RowKit
set_option linter.unusedVariables false
set_option linter.unusedSimpArgs false

theorem wrap_lt (d : Int) (h0 : 0 ≤ d) (h : d < 1000) : IntKind.i64.wrap d = d := by
  simp [IntKind.wrap, IntKind.bits, IntKind.signed]
  omega

def RotSays (w0 : World) (o : List Nat) (kv : Value) (nb lb cb : Nat) (r1 rs2 la crs : List Ent) (x y : Ent) (k1 : List Kid) (l c : Kid) (ks2 lka cks : List Kid) (Rest : List Res) (i : Nat) (e : Ending) (w' : World) : Prop :=
  ∃ rv lrv lkv crv ckv, e = .returned (.int .i64 i) ∧ St w0 o w' (Res.node nb rv kv :: Res.rowE rv (r1 ++ y :: rs2) :: Res.rowN kv (k1 ++ l :: c :: ks2) :: Res.node lb lrv lkv :: Res.rowE lrv la :: Res.rowN lkv lka :: Res.node cb crv ckv :: Res.rowE crv (x :: crs) :: Res.rowN ckv cks :: Rest)

set_option maxHeartbeats 8000000 in
set_option maxRecDepth 100000 in
theorem grow_left {w0 w : World} {o : List Nat} {nb lb cb : Nat} {rv kv lrv lkv crv ckv : Value} {r1 rs2 la crs : List Ent} {x y : Ent} {k1 ks2 lka lks cks : List Kid} {l c lz : Kid} {Rest : List Res}
    (s : St w0 o w (Res.node nb rv kv :: Res.rowE rv (r1 ++ x :: rs2) :: Res.rowN kv (k1 ++ l :: c :: ks2) :: Res.node lb lrv lkv :: Res.rowE lrv (la ++ [y]) :: Res.rowN lkv lks :: Res.node cb crv ckv :: Res.rowE crv crs :: Res.rowN ckv cks :: Rest))
    (hlb : l.b = lb) (hcb : c.b = cb) (hc : crs.length = 31) (q : Nat) (hq : la.length = q) (hq31 : 31 ≤ q) (hq63 : q ≤ 62) (j : Nat) (hj1 : k1.length = j) (hj2 : r1.length = j) (hlen : r1.length + rs2.length ≤ 62) (h2 : ks2.length = rs2.length)
    (hk : (lks = [] ∧ lka = [] ∧ cks = []) ∨ (lks = lka ++ [lz] ∧ lka.length = q + 1 ∧ cks.length = 32)) :
    Calls Try.prog 32 #[.pointer (some ⟨nb, 0, none⟩), .int .i64 ((j : Int) + 1)] w (RotSays w0 o kv nb lb cb r1 rs2 la crs x y k1 l c ks2 lka (if lks = [] then [] else lz :: cks) Rest (j + 1)) := by
  have hkv : OwnN w kv (k1 ++ l :: c :: ks2) := s.h.ok (Res.rowN kv (k1 ++ l :: c :: ks2)) (by simp)
  have hrv : OwnE w 52 rv (r1 ++ x :: rs2) := s.h.ok (Res.rowE rv (r1 ++ x :: rs2)) (by simp)
  have hlr : OwnE w 52 lrv (la ++ [y]) := s.h.ok (Res.rowE lrv (la ++ [y])) (by simp)
  have hcr : OwnE w 52 crv crs := s.h.ok (Res.rowE crv crs) (by simp)
  rcases hkv.form with ⟨_, h⟩ | ⟨kg, kcap, hkvf, hkg, hkn, hkc⟩
  · simp at h
  rcases hrv.form with ⟨_, h⟩ | ⟨rg, rcap, hrvf, hrg, hrn, hrc⟩
  · simp at h
  rcases hlr.form with ⟨_, h⟩ | ⟨lg, lcap, hlrf, hlg, hln, hlc⟩
  · simp at h
  rcases hcr.form with ⟨_, h⟩ | ⟨cg, ccap, hcrf, hcg, hcn, hcc⟩
  · rw [h] at hc; simp at hc
  rw [hc] at hcrf hcn
  obtain ⟨n, hn⟩ : ∃ n, n = (k1 ++ l :: c :: ks2).length := ⟨_, rfl⟩
  obtain ⟨m, hm⟩ : ∃ m, m = (r1 ++ x :: rs2).length := ⟨_, rfl⟩
  have hl1 : (la ++ [y]).length = q + 1 := by simp [hq]
  rw [← hn] at hkvf hkn
  rw [← hm] at hrvf hrn
  rw [hl1] at hlrf hln
  have hc0 : w.cell? ⟨kg, j, none⟩ = some (.pointer (some ⟨lb, 0, none⟩)) := by
    rw [← hlb]; exact OwnN.cell (n := n) (by rw [← hkvf]; exact hkv) hn (by simp [← hj1])
  have hc1 : w.cell? ⟨kg, j + 1, none⟩ = some (.pointer (some ⟨cb, 0, none⟩)) := by
    rw [← hcb]; exact OwnN.cell (n := n) (by rw [← hkvf]; exact hkv) hn (by rw [List.getElem?_append_right (by omega), show j + 1 - k1.length = 1 by omega]; rfl)
  subst hkvf hrvf hlrf hcrf
  obtain ⟨n0, n1, nf0, nf1, nlt⟩ := node_cells (s.h.ok (Res.node nb (.slice (some ⟨rg, 0, none⟩) m rcap) (.slice (some ⟨kg, 0, none⟩) n kcap)) (by simp))
  obtain ⟨l0, l1, lf0, lf1, llt⟩ := node_cells (s.h.ok (Res.node lb (.slice (some ⟨lg, 0, none⟩) (q + 1) lcap) lkv) (by simp))
  obtain ⟨c0, c1, cf0, cf1, clt⟩ := node_cells (s.h.ok (Res.node cb (.slice (some ⟨cg, 0, none⟩) 31 ccap) ckv) (by simp))
  have hnn : j + 1 < n ∧ n ≤ 64 := by rw [hn]; simp; omega
  have hmm : j < m ∧ m ≤ 63 := by rw [hm]; simp; omega
  have hin1 : (j : Int) + 1 < n := by omega
  have hin64 := hnn.2
  have hq' : ¬ ((q : Int) + 1 ≤ 31) := by omega
  have hq2 : (31 : Int) < (q : Int) + 1 := by omega
  have HF : Hid (k1.length = j ∧ r1.length = j ∧ ks2.length = rs2.length ∧ crs.length = 31 ∧ la.length = q ∧ n = (k1 ++ l :: c :: ks2).length ∧ m = (r1 ++ x :: rs2).length ∧ r1.length + rs2.length ≤ 62 ∧ j < m ∧ m ≤ 63 ∧ j + 1 < n ∧ n ≤ 64) := ⟨hj1, hj2, h2, hc, hq, hn, hm, hlen, hmm.1, hmm.2, hnn.1, hnn.2⟩
  have HK : Hid ((lks = [] ∧ lka = [] ∧ cks = []) ∨ (lks = lka ++ [lz] ∧ lka.length = q + 1 ∧ cks.length = 32)) := hk
  have HS : Hid (St w0 o w _) := s
  clear s hkv hrv hlr hcr hj1 hj2 h2 hc hq hn hm hk hlen hmm hlb hcb hnn hl1
  go_enter Try.func32, Try.ntmps32
  go_upto_region 8 with (fail)
  have HWJ : Hid (IntKind.i64.wrap (j : Int) = (j : Int)) := wrap_lt _ (by omega) (by have := HF.out.2.2.2.2.2.2.2.2.1; have := HF.out.2.2.2.2.2.2.2.2.2.1; omega)
  go_cut [] (fun wx => ∃ crv', St w0 o wx ([Res.node nb (.slice (some ⟨rg, 0, none⟩) m rcap) (.slice (some ⟨kg, 0, none⟩) n kcap), Res.rowE (.slice (some ⟨rg, 0, none⟩) m rcap) (r1 ++ x :: rs2), Res.rowN (.slice (some ⟨kg, 0, none⟩) n kcap) (k1 ++ l :: c :: ks2), Res.node lb (.slice (some ⟨lg, 0, none⟩) (q + 1) lcap) (lkv), Res.rowE (.slice (some ⟨lg, 0, none⟩) (q + 1) lcap) (la ++ [y]), Res.rowN (lkv) (lks), Res.node cb (crv') (ckv), Res.rowE (crv') (x :: crs), Res.rowN (ckv) (cks)] ++ Rest))
  case first =>
    as_aux_lemma =>
      have S0 := HS.out.drew
      clear HS
      have e1 := S0.h.ok (Res.node cb (.slice (some ⟨cg, 0, none⟩) 31 ccap) ckv) (by simp)
      have e2 := S0.h.ok (Res.node nb (.slice (some ⟨rg, 0, none⟩) m rcap) (.slice (some ⟨kg, 0, none⟩) n kcap)) (by simp)
      have e3 := S0.h.ok (Res.rowE (.slice (some ⟨rg, 0, none⟩) m rcap) (r1 ++ x :: rs2)) (by simp)
      refine region_lexL [0, 1, 2, 3, 4, 5, 6, 7, 8, 9, 10, 11, 12] [13, 14, 15, 16, 17] 17 (fun w' => w'.heap[cb]? = some (.cells #[.slice (some ⟨cg, 0, none⟩) 31 ccap, ckv] 71 (0, 0)) ∧ w'.heap[nb]? = some (.cells #[.slice (some ⟨rg, 0, none⟩) m rcap, .slice (some ⟨kg, 0, none⟩) n kcap] 71 (0, 0)) ∧ OwnE w' 52 (.slice (some ⟨rg, 0, none⟩) m rcap) (r1 ++ x :: rs2)) (by kernel_rfl) (by kernel_rfl) (fun _ _ d _ _ h => by cases d <;> exact h) ⟨e1, e2, e3⟩ ?_
      refine reads_cons (.pointer (some ⟨cb, 0, none⟩)) (fun w' hw' => rfl) ?_
      simp only [Act.put, List.setIfInBounds_toArray, List.set_cons_succ, List.set_cons_zero]
      refine reads_cons (.pointer (some ⟨cb, 0, none⟩)) (fun w' hw' => rfl) ?_
      simp only [Act.put, List.setIfInBounds_toArray, List.set_cons_succ, List.set_cons_zero]
      refine reads_cons (.pointer (some ⟨cb, 0, none⟩)) (fun w' hw' => rfl) ?_
      simp only [Act.put, List.setIfInBounds_toArray, List.set_cons_succ, List.set_cons_zero]
      refine reads_cons (.pointer (some ⟨cb, 0, none⟩)) (fun w' hw' => rd_field (fld71_0 cb w') rfl rfl) ?_
      simp only [Act.put, List.setIfInBounds_toArray, List.set_cons_succ, List.set_cons_zero]
      refine reads_cons (.slice (some ⟨cg, 0, none⟩) 31 ccap) (fun w' hw' => rd_load (ld35 (node_cells hw'.1).1) rfl rfl) ?_
      simp only [Act.put, List.setIfInBounds_toArray, List.set_cons_succ, List.set_cons_zero]
      refine reads_cons (.pointer (some ⟨nb, 0, none⟩)) (fun w' hw' => rfl) ?_
      simp only [Act.put, List.setIfInBounds_toArray, List.set_cons_succ, List.set_cons_zero]
      refine reads_cons (.pointer (some ⟨nb, 0, none⟩)) (fun w' hw' => rfl) ?_
      simp only [Act.put, List.setIfInBounds_toArray, List.set_cons_succ, List.set_cons_zero]
      refine reads_cons (.pointer (some ⟨nb, 0, none⟩)) (fun w' hw' => rd_field (fld71_0 nb w') rfl rfl) ?_
      simp only [Act.put, List.setIfInBounds_toArray, List.set_cons_succ, List.set_cons_zero]
      refine reads_cons (.slice (some ⟨rg, 0, none⟩) m rcap) (fun w' hw' => rd_load (ld35 (node_cells hw'.2.1).1) rfl rfl) ?_
      simp only [Act.put, List.setIfInBounds_toArray, List.set_cons_succ, List.set_cons_zero]
      refine reads_cons (.int .i64 ((j : Int) + 1)) (fun w' hw' => rfl) ?_
      simp only [Act.put, List.setIfInBounds_toArray, List.set_cons_succ, List.set_cons_zero]
      refine reads_cons (.int .i64 j) (fun w' hw' => by go_simp; first | done | exact HWJ.out) ?_
      simp only [Act.put, List.setIfInBounds_toArray, List.set_cons_succ, List.set_cons_zero]
      refine reads_cons (.pointer (some ⟨rg, j * 4, none⟩)) (fun w' hw' => rd_index (ix35 w' HF.out.2.2.2.2.2.2.2.2.1 (by have := HF.out.2.2.2.2.2.2.2.2.2.1; omega)) rfl rfl rfl) ?_
      simp only [Act.put, List.setIfInBounds_toArray, List.set_cons_succ, List.set_cons_zero]
      refine reads_cons (.agg #[.string x.key, .slice x.va x.vl x.vc, .int .u64 x.rev, .int .u64 x.lease]) (fun w' hw' => rd_load (ld52 (OwnE.cell hw'.2.2 HF.out.2.2.2.2.2.2.1 (by simp [← HF.out.2.1])).1 (OwnE.cell hw'.2.2 HF.out.2.2.2.2.2.2.1 (by simp [← HF.out.2.1])).2.1 (OwnE.cell hw'.2.2 HF.out.2.2.2.2.2.2.1 (by simp [← HF.out.2.1])).2.2.1 (OwnE.cell hw'.2.2 HF.out.2.2.2.2.2.2.1 (by simp [← HF.out.2.1])).2.2.2) rfl rfl) ?_
      simp only [Act.put, List.setIfInBounds_toArray, List.set_cons_succ, List.set_cons_zero]
      refine reads_nil ?_
      have S1 := S0.alloc (.cells #[.string x.key, .slice x.va x.vl x.vc, .int .u64 x.rev, .int .u64 x.lease] 52)
      have e1a := S1.h.ok (Res.node cb (.slice (some ⟨cg, 0, none⟩) 31 ccap) ckv) (by simp)
      have e2a := S1.h.ok (Res.node nb (.slice (some ⟨rg, 0, none⟩) m rcap) (.slice (some ⟨kg, 0, none⟩) n kcap)) (by simp)
      have e3a := S1.h.ok (Res.rowE (.slice (some ⟨rg, 0, none⟩) m rcap) (r1 ++ x :: rs2)) (by simp)
      refine seq_value (.slice (some ⟨w.drew.heap.size, 0, none⟩) 1 1) _ (rd_build (bs35 _ _ _ _ _ rfl rfl rfl rfl) rfl rfl) (fun _ => ⟨e1a, e2a, e3a⟩) ?_
      simp only [Act.put, List.setIfInBounds_toArray, List.set_cons_succ, List.set_cons_zero]
      have HDL := insE_st (tb := 52) [Res.node nb (.slice (some ⟨rg, 0, none⟩) m rcap) (.slice (some ⟨kg, 0, none⟩) n kcap), Res.rowE (.slice (some ⟨rg, 0, none⟩) m rcap) (r1 ++ x :: rs2), Res.rowN (.slice (some ⟨kg, 0, none⟩) n kcap) (k1 ++ l :: c :: ks2), Res.node lb (.slice (some ⟨lg, 0, none⟩) (q + 1) lcap) lkv, Res.rowE (.slice (some ⟨lg, 0, none⟩) (q + 1) lcap) (la ++ [y]), Res.rowN lkv lks, Res.node cb (.slice (some ⟨cg, 0, none⟩) 31 ccap) ckv] (Res.rowN ckv cks :: Rest) (v := .slice (some ⟨cg, 0, none⟩) 31 ccap) (rs1 := []) (rs2 := crs) (e := x) (vb := w.drew.heap.size) (i := 0) S1 (by have := HF.out.2.2.2.1; simp; omega) rfl
      refine seq_call 37 #[.slice (some ⟨cg, 0, none⟩) 31 ccap, .int .i64 0, .slice (some ⟨w.drew.heap.size, 0, none⟩) 1 1] _ (by go_simp) HDL ?_
      rintro e w3 ⟨zg, zcap, rfl, S3⟩
      obtain ⟨zn, hzn⟩ : ∃ zn, zn = ([] ++ x :: crs).length := ⟨_, rfl⟩
      rw [← hzn] at S3 ⊢
      have e1c := S3.h.ok (Res.node cb (.slice (some ⟨cg, 0, none⟩) 31 ccap) ckv) (by simp)
      have e2c := S3.h.ok (Res.node nb (.slice (some ⟨rg, 0, none⟩) m rcap) (.slice (some ⟨kg, 0, none⟩) n kcap)) (by simp)
      have e3c := S3.h.ok (Res.rowE (.slice (some ⟨rg, 0, none⟩) m rcap) (r1 ++ x :: rs2)) (by simp)
      refine ⟨_, rfl, ⟨e1c, e2c, e3c⟩, ?_⟩
      simp only [Act.put, List.setIfInBounds_toArray, List.set_cons_succ, List.set_cons_zero]
      obtain ⟨g0, g1, gf0, gf1, glt⟩ := node_cells e1c
      refine seq_value (.pointer (some ⟨cb, 0, none⟩)) w3 rfl (fun _ => ⟨e1c, e2c, e3c⟩) ?_
      simp only [Act.put, List.setIfInBounds_toArray, List.set_cons_succ, List.set_cons_zero]
      refine seq_value (.pointer (some ⟨cb, 0, none⟩)) w3 (rd_field (fld71_0 cb w3) rfl rfl) (fun _ => ⟨e1c, e2c, e3c⟩) ?_
      simp only [Act.put, List.setIfInBounds_toArray, List.set_cons_succ, List.set_cons_zero]
      refine seq_skip (w3.setCell ⟨cb, 0, none⟩ (.slice (some ⟨zg, 0, none⟩) zn zcap)) (rd_store (st35 (some ⟨zg, 0, none⟩) zn zcap g0 gf0) rfl rfl rfl) (fun h => absurd rfl h) ?_
      simp only [Act.put, List.setIfInBounds_toArray, List.set_cons_succ, List.set_cons_zero]
      refine seq_nil ?_
      have S4 := St.set0 [Res.node nb (.slice (some ⟨rg, 0, none⟩) m rcap) (.slice (some ⟨kg, 0, none⟩) n kcap), Res.rowE (.slice (some ⟨rg, 0, none⟩) m rcap) (r1 ++ x :: rs2), Res.rowN (.slice (some ⟨kg, 0, none⟩) n kcap) (k1 ++ l :: c :: ks2), Res.node lb (.slice (some ⟨lg, 0, none⟩) (q + 1) lcap) lkv, Res.rowE (.slice (some ⟨lg, 0, none⟩) (q + 1) lcap) (la ++ [y]), Res.rowN lkv lks] _ (S3.perm (by rfl)) (.slice (some ⟨zg, 0, none⟩) zn zcap)
      have HS4 : Hid (St w0 o (w3.setCell ⟨cb, 0, none⟩ (.slice (some ⟨zg, 0, none⟩) zn zcap)) _) := S4
      clear S0 S1 S3 S4 HDL hzn
      go_wp2_with fail
      go_meet
      case rel => exact ⟨_, HS4.out⟩
  case rest =>
    obtain ⟨crv2, S0'⟩ := hcut
    clear HS
    go_upto_region 9 with (fail)
    go_cut [] (fun wx => St w0 o wx ([Res.node nb (.slice (some ⟨rg, 0, none⟩) m rcap) (.slice (some ⟨kg, 0, none⟩) n kcap), Res.rowE (.slice (some ⟨rg, 0, none⟩) m rcap) (r1 ++ y :: rs2), Res.rowN (.slice (some ⟨kg, 0, none⟩) n kcap) (k1 ++ l :: c :: ks2), Res.node lb (.slice (some ⟨lg, 0, none⟩) (q + 1) lcap) (lkv), Res.rowE (.slice (some ⟨lg, 0, none⟩) (q + 1) lcap) (la ++ [y]), Res.rowN (lkv) (lks), Res.node cb (crv2) (ckv), Res.rowE (crv2) (x :: crs), Res.rowN (ckv) (cks)] ++ Rest))
    case first =>
     as_aux_lemma =>
      have S0 := S0'.drew
      clear S0'
      have e1 := S0.h.ok (Res.node nb (.slice (some ⟨rg, 0, none⟩) m rcap) (.slice (some ⟨kg, 0, none⟩) n kcap)) (by simp)
      have e2 := S0.h.ok (Res.rowE (.slice (some ⟨rg, 0, none⟩) m rcap) (r1 ++ x :: rs2)) (by simp)
      have e3 := S0.h.ok (Res.node lb (.slice (some ⟨lg, 0, none⟩) (q + 1) lcap) lkv) (by simp)
      have e4 := S0.h.ok (Res.rowE (.slice (some ⟨lg, 0, none⟩) (q + 1) lcap) (la ++ [y])) (by simp)
      refine region_lexL [0, 1, 2, 3, 4, 5, 6, 7, 8, 9, 10, 11, 12] [13, 14] 14 (fun w' => w'.heap[nb]? = some (.cells #[.slice (some ⟨rg, 0, none⟩) m rcap, .slice (some ⟨kg, 0, none⟩) n kcap] 71 (0, 0)) ∧ OwnE w' 52 (.slice (some ⟨rg, 0, none⟩) m rcap) (r1 ++ x :: rs2) ∧ w'.heap[lb]? = some (.cells #[.slice (some ⟨lg, 0, none⟩) (q + 1) lcap, lkv] 71 (0, 0)) ∧ OwnE w' 52 (.slice (some ⟨lg, 0, none⟩) (q + 1) lcap) (la ++ [y])) (by kernel_rfl) (by kernel_rfl) (fun _ _ d _ _ h => by cases d <;> exact h) ⟨e1, e2, e3, e4⟩ ?_
      refine reads_cons (.pointer (some ⟨nb, 0, none⟩)) (fun w' hw' => rfl) ?_
      simp only [Act.put, List.setIfInBounds_toArray, List.set_cons_succ, List.set_cons_zero]
      refine reads_cons (.pointer (some ⟨nb, 0, none⟩)) (fun w' hw' => rfl) ?_
      simp only [Act.put, List.setIfInBounds_toArray, List.set_cons_succ, List.set_cons_zero]
      refine reads_cons (.pointer (some ⟨nb, 0, none⟩)) (fun w' hw' => rd_field (fld71_0 nb w') rfl rfl) ?_
      simp only [Act.put, List.setIfInBounds_toArray, List.set_cons_succ, List.set_cons_zero]
      refine reads_cons (.slice (some ⟨rg, 0, none⟩) m rcap) (fun w' hw' => rd_load (ld35 (node_cells hw'.1).1) rfl rfl) ?_
      simp only [Act.put, List.setIfInBounds_toArray, List.set_cons_succ, List.set_cons_zero]
      refine reads_cons (.int .i64 ((j : Int) + 1)) (fun w' hw' => rfl) ?_
      simp only [Act.put, List.setIfInBounds_toArray, List.set_cons_succ, List.set_cons_zero]
      refine reads_cons (.int .i64 j) (fun w' hw' => by go_simp; first | done | exact HWJ.out) ?_
      simp only [Act.put, List.setIfInBounds_toArray, List.set_cons_succ, List.set_cons_zero]
      refine reads_cons (.pointer (some ⟨lb, 0, none⟩)) (fun w' hw' => rfl) ?_
      simp only [Act.put, List.setIfInBounds_toArray, List.set_cons_succ, List.set_cons_zero]
      refine reads_cons (.pointer (some ⟨lb, 0, none⟩)) (fun w' hw' => rfl) ?_
      simp only [Act.put, List.setIfInBounds_toArray, List.set_cons_succ, List.set_cons_zero]
      refine reads_cons (.pointer (some ⟨lb, 0, none⟩)) (fun w' hw' => rd_field (fld71_0 lb w') rfl rfl) ?_
      simp only [Act.put, List.setIfInBounds_toArray, List.set_cons_succ, List.set_cons_zero]
      refine reads_cons (.slice (some ⟨lg, 0, none⟩) (q + 1) lcap) (fun w' hw' => rd_load (ld35 (node_cells hw'.2.2.1).1) rfl rfl) ?_
      simp only [Act.put, List.setIfInBounds_toArray, List.set_cons_succ, List.set_cons_zero]
      refine reads_cons (.int .i64 q) (fun w' hw' => rfl) ?_
      simp only [Act.put, List.setIfInBounds_toArray, List.set_cons_succ, List.set_cons_zero]
      refine reads_cons (.pointer (some ⟨lg, q * 4, none⟩)) (fun w' hw' => rd_index (ix35 w' (by omega) (by omega)) rfl rfl rfl) ?_
      simp only [Act.put, List.setIfInBounds_toArray, List.set_cons_succ, List.set_cons_zero]
      refine reads_cons (.agg #[.string y.key, .slice y.va y.vl y.vc, .int .u64 y.rev, .int .u64 y.lease]) (fun w' hw' => rd_load (ld52 (OwnE.cell hw'.2.2.2 (by simp [HF.out.2.2.2.2.1]) (by simp [← HF.out.2.2.2.2.1])).1 (OwnE.cell hw'.2.2.2 (by simp [HF.out.2.2.2.2.1]) (by simp [← HF.out.2.2.2.2.1])).2.1 (OwnE.cell hw'.2.2.2 (by simp [HF.out.2.2.2.2.1]) (by simp [← HF.out.2.2.2.2.1])).2.2.1 (OwnE.cell hw'.2.2.2 (by simp [HF.out.2.2.2.2.1]) (by simp [← HF.out.2.2.2.2.1])).2.2.2) rfl rfl) ?_
      simp only [Act.put, List.setIfInBounds_toArray, List.set_cons_succ, List.set_cons_zero]
      refine reads_nil ?_
      refine seq_value (.pointer (some ⟨rg, j * 4, none⟩)) wc.drew (rd_index (ix35 wc.drew HF.out.2.2.2.2.2.2.2.2.1 (by have := HF.out.2.2.2.2.2.2.2.2.2.1; omega)) rfl rfl rfl) (fun _ => ⟨e1, e2, e3, e4⟩) ?_
      simp only [Act.put, List.setIfInBounds_toArray, List.set_cons_succ, List.set_cons_zero]
      have hown : wc.drew.ownsRow 0 52 4 (.slice (some ⟨rg, 0, none⟩) m rcap) m (flatE (r1 ++ x :: rs2)) := by
        have h2 : OwnE wc.drew 52 (.slice (some ⟨rg, 0, none⟩) m rcap) (r1 ++ x :: rs2) := e2
        unfold OwnE at h2
        rwa [← HF.out.2.2.2.2.2.2.1] at h2
      refine seq_skip _ (rd_store (st52 hown j HF.out.2.2.2.2.2.2.2.2.1 y) rfl rfl rfl) (fun h => absurd rfl h) ?_
      simp only [Act.put, List.setIfInBounds_toArray, List.set_cons_succ, List.set_cons_zero]
      refine seq_nil ?_
      have S4 := St.setE [Res.node nb (.slice (some ⟨rg, 0, none⟩) m rcap) (.slice (some ⟨kg, 0, none⟩) n kcap)] _ S0 HF.out.2.2.2.2.2.2.1 j y
      rw [show (r1 ++ x :: rs2).set j y = r1 ++ y :: rs2 by rw [← HF.out.2.1]; simp [List.set_append]] at S4
      have HS4 : Hid (St w0 o _ _) := S4
      clear S0 S4 hown
      go_wp2_with fail
      go_meet
      case rel => exact HS4.out
    case rest =>
      clear S0'
      have HS1 : Hid (St w0 o wc ([Res.node nb (.slice (some ⟨rg, 0, none⟩) m rcap) (.slice (some ⟨kg, 0, none⟩) n kcap), Res.rowE (.slice (some ⟨rg, 0, none⟩) m rcap) (r1 ++ y :: rs2), Res.rowN (.slice (some ⟨kg, 0, none⟩) n kcap) (k1 ++ l :: c :: ks2), Res.node lb (.slice (some ⟨lg, 0, none⟩) (q + 1) lcap) lkv] ++ Res.rowE (.slice (some ⟨lg, 0, none⟩) (q + 1) lcap) (la ++ ([y] ++ [])) :: Res.rowN lkv lks :: Res.node cb crv2 ckv :: Res.rowE crv2 (x :: crs) :: Res.rowN ckv cks :: Rest)) := by rw [List.append_nil]; exact hcut
      clear hcut
      obtain ⟨u0, u1, uf0, uf1, ult⟩ := node_cells (HS1.out.h.ok (Res.node lb (.slice (some ⟨lg, 0, none⟩) (q + 1) lcap) lkv) (by simp))
      have HDE : Hid (Calls Try.prog 38 #[.slice (some ⟨lg, 0, none⟩) (q + 1) lcap, .int .i64 q, .int .i64 ((q : Int) + 1)] wc (RowESays w0 o [Res.node nb (.slice (some ⟨rg, 0, none⟩) m rcap) (.slice (some ⟨kg, 0, none⟩) n kcap), Res.rowE (.slice (some ⟨rg, 0, none⟩) m rcap) (r1 ++ y :: rs2), Res.rowN (.slice (some ⟨kg, 0, none⟩) n kcap) (k1 ++ l :: c :: ks2), Res.node lb (.slice (some ⟨lg, 0, none⟩) (q + 1) lcap) lkv] (Res.rowN lkv lks :: Res.node cb crv2 ckv :: Res.rowE crv2 (x :: crs) :: Res.rowN ckv cks :: Rest) (la ++ []))) := by
        have := delE_st [Res.node nb (.slice (some ⟨rg, 0, none⟩) m rcap) (.slice (some ⟨kg, 0, none⟩) n kcap), Res.rowE (.slice (some ⟨rg, 0, none⟩) m rcap) (r1 ++ y :: rs2), Res.rowN (.slice (some ⟨kg, 0, none⟩) n kcap) (k1 ++ l :: c :: ks2), Res.node lb (.slice (some ⟨lg, 0, none⟩) (q + 1) lcap) lkv] (Res.rowN lkv lks :: Res.node cb crv2 ckv :: Res.rowE crv2 (x :: crs) :: Res.rowN ckv cks :: Rest) (l1 := la) (l2 := [y]) (l3 := []) (i := q) (j := q + 1) HS1.out (by have := HF.out.2.2.2.2.1; simp; omega) (by omega) HF.out.2.2.2.2.1 (by have := HF.out.2.2.2.2.1; simp; omega) (by simp)
        rw [show ((q + 1 : Nat) : Int) = (q : Int) + 1 by omega] at this
        exact this
      clear HS1 n0 n1 nf0 nf1 nlt l0 l1 lf0 lf1 llt c0 c1 cf0 cf1 clt hc0 hc1
      go_upto_if 89 with (first
        | (go_at_call 38; refine HDE.out.mono ?_; rintro e w1 ⟨lg2, lcap2, rfl, S1⟩; rw [List.append_nil, HF.out.2.2.2.2.1] at S1 ⊢; obtain ⟨a0, a1, af0, af1, alt⟩ := node_cells (S1.h.ok (Res.node lb (.slice (some ⟨lg, 0, none⟩) (q + 1) lcap) lkv) (by simp)); have S2 := St.set0 [Res.node nb (.slice (some ⟨rg, 0, none⟩) m rcap) (.slice (some ⟨kg, 0, none⟩) n kcap), Res.rowE (.slice (some ⟨rg, 0, none⟩) m rcap) (r1 ++ y :: rs2), Res.rowN (.slice (some ⟨kg, 0, none⟩) n kcap) (k1 ++ l :: c :: ks2)] _ S1 (.slice (some ⟨lg2, 0, none⟩) q lcap2); have HLF := leaf39 (S2.h.ok (Res.node lb (.slice (some ⟨lg2, 0, none⟩) q lcap2) lkv) (by simp)) (S2.h.ok (Res.rowN lkv lks) (by simp)); have HLF2 : Hid (Calls Try.prog 39 #[.pointer (some ⟨lb, 0, none⟩)] (w1.setCell ⟨lb, 0, none⟩ (.slice (some ⟨lg2, 0, none⟩) q lcap2)) fun e w' => e = .returned (.bool (decide (lks.length = 0))) ∧ w' = _) := HLF; have HS2 : Hid (St w0 o (w1.setCell ⟨lb, 0, none⟩ (.slice (some ⟨lg2, 0, none⟩) q lcap2)) ([Res.node nb (.slice (some ⟨rg, 0, none⟩) m rcap) (.slice (some ⟨kg, 0, none⟩) n kcap), Res.rowE (.slice (some ⟨rg, 0, none⟩) m rcap) (r1 ++ y :: rs2), Res.rowN (.slice (some ⟨kg, 0, none⟩) n kcap) (k1 ++ l :: c :: ks2)] ++ Res.node lb (.slice (some ⟨lg2, 0, none⟩) q lcap2) lkv :: Res.rowE (.slice (some ⟨lg2, 0, none⟩) q lcap2) la :: Res.rowN lkv lks :: Res.node cb crv2 ckv :: Res.rowE crv2 (x :: crs) :: Res.rowN ckv cks :: Rest)) := S2; clear S1 S2 HLF)
        | (go_at_call 39; refine HLF2.out.mono ?_; rintro e w2 ⟨rfl, hw2⟩; subst hw2))
      obtain ⟨W, hW⟩ : ∃ W, W = w1.setCell ⟨lb, 0, none⟩ (.slice (some ⟨lg2, 0, none⟩) q lcap2) := ⟨_, rfl⟩
      rw [← hW] at HS2 ⊢
      clear hW HDE HLF2
      rcases HK.out with ⟨rfl, rfl, rfl⟩ | ⟨hk1, hk2, hk3⟩
      · as_aux_lemma =>
          go_wp2_with fail
          try go_returns
          exact ⟨_, _, _, _, _, rfl, HS2.out⟩
      · have hne : ¬ (lks = []) := by rw [hk1]; simp
        have hnd : decide (lks = []) = false := decide_eq_false hne
        rw [hnd]
        subst hk1
        have hown : OwnN W lkv (lka ++ [lz]) := HS2.out.h.ok (Res.rowN lkv (lka ++ [lz])) (by simp)
        rcases hown.form with ⟨_, h⟩ | ⟨kl, klc, rfl, hkl, hkln, hklc⟩
        · exact absurd h hne
        have hl2 : (lka ++ [lz]).length = q + 2 := by simp [hk2]
        rw [hl2] at hkln HS2
        have HK2 : Hid (lka.length = q + 1 ∧ cks.length = 32) := ⟨hk2, hk3⟩
        clear hown hl2 hk2 hk3 HK hnd
        go_upto_region 12 with (fail)
        go_cut [] (fun wx => ∃ ckv', St w0 o wx ([Res.node nb (.slice (some ⟨rg, 0, none⟩) m rcap) (.slice (some ⟨kg, 0, none⟩) n kcap), Res.rowE (.slice (some ⟨rg, 0, none⟩) m rcap) (r1 ++ y :: rs2), Res.rowN (.slice (some ⟨kg, 0, none⟩) n kcap) (k1 ++ l :: c :: ks2), Res.node lb (.slice (some ⟨lg2, 0, none⟩) q lcap2) (.slice (some ⟨kl, 0, none⟩) (q + 2) klc), Res.rowE (.slice (some ⟨lg2, 0, none⟩) q lcap2) la] ++ Res.rowN (.slice (some ⟨kl, 0, none⟩) (q + 2) klc) (lka ++ [lz]) :: Res.node cb crv2 ckv' :: Res.rowE crv2 (x :: crs) :: Res.rowN ckv' (lz :: cks) :: Rest))
        case first =>
         as_aux_lemma =>
          have S0 := HS2.out.drew
          clear HS2
          have e1 := S0.h.ok (Res.node cb crv2 ckv) (by simp)
          have e2 := S0.h.ok (Res.node lb (.slice (some ⟨lg2, 0, none⟩) q lcap2) (.slice (some ⟨kl, 0, none⟩) (q + 2) klc)) (by simp)
          have e3 := S0.h.ok (Res.rowN (.slice (some ⟨kl, 0, none⟩) (q + 2) klc) (lka ++ [lz])) (by simp)
          refine region_lexL [0, 1, 2, 3, 4, 5, 6, 7, 8, 9, 10, 11, 12] [13, 14, 15, 16, 17] 17 (fun w' => w'.heap[cb]? = some (.cells #[crv2, ckv] 71 (0, 0)) ∧ w'.heap[lb]? = some (.cells #[.slice (some ⟨lg2, 0, none⟩) q lcap2, .slice (some ⟨kl, 0, none⟩) (q + 2) klc] 71 (0, 0)) ∧ OwnN w' (.slice (some ⟨kl, 0, none⟩) (q + 2) klc) (lka ++ [lz])) (by kernel_rfl) (by kernel_rfl) (fun _ _ d _ _ h => by cases d <;> exact h) ⟨e1, e2, e3⟩ ?_
          refine reads_cons (.pointer (some ⟨cb, 0, none⟩)) (fun w' hw' => rfl) ?_
          simp only [Act.put, List.setIfInBounds_toArray, List.set_cons_succ, List.set_cons_zero]
          refine reads_cons (.pointer (some ⟨cb, 0, none⟩)) (fun w' hw' => rfl) ?_
          simp only [Act.put, List.setIfInBounds_toArray, List.set_cons_succ, List.set_cons_zero]
          refine reads_cons (.pointer (some ⟨cb, 0, none⟩)) (fun w' hw' => rfl) ?_
          simp only [Act.put, List.setIfInBounds_toArray, List.set_cons_succ, List.set_cons_zero]
          refine reads_cons (.pointer (some ⟨cb, 1, none⟩)) (fun w' hw' => rd_field (fld71_1 cb w') rfl rfl) ?_
          simp only [Act.put, List.setIfInBounds_toArray, List.set_cons_succ, List.set_cons_zero]
          refine reads_cons (ckv) (fun w' hw' => rd_load (ld36 (node_cells hw'.1).2.1) rfl rfl) ?_
          simp only [Act.put, List.setIfInBounds_toArray, List.set_cons_succ, List.set_cons_zero]
          refine reads_cons (.pointer (some ⟨lb, 0, none⟩)) (fun w' hw' => rfl) ?_
          simp only [Act.put, List.setIfInBounds_toArray, List.set_cons_succ, List.set_cons_zero]
          refine reads_cons (.pointer (some ⟨lb, 0, none⟩)) (fun w' hw' => rfl) ?_
          simp only [Act.put, List.setIfInBounds_toArray, List.set_cons_succ, List.set_cons_zero]
          refine reads_cons (.pointer (some ⟨lb, 1, none⟩)) (fun w' hw' => rd_field (fld71_1 lb w') rfl rfl) ?_
          simp only [Act.put, List.setIfInBounds_toArray, List.set_cons_succ, List.set_cons_zero]
          refine reads_cons (.slice (some ⟨kl, 0, none⟩) (q + 2) klc) (fun w' hw' => rd_load (ld36 (node_cells hw'.2.1).2.1) rfl rfl) ?_
          simp only [Act.put, List.setIfInBounds_toArray, List.set_cons_succ, List.set_cons_zero]
          refine reads_cons (.int .i64 q) (fun w' hw' => rfl) ?_
          simp only [Act.put, List.setIfInBounds_toArray, List.set_cons_succ, List.set_cons_zero]
          refine reads_cons (.int .i64 ((q + 1 : Nat) : Int)) (fun w' hw' => by go_simp; first | done | exact wrap_lt _ (by omega) (by omega)) ?_
          simp only [Act.put, List.setIfInBounds_toArray, List.set_cons_succ, List.set_cons_zero]
          refine reads_cons (.pointer (some ⟨kl, q + 1, none⟩)) (fun w' hw' => rd_index (ix36 w' (by omega) (by omega)) rfl rfl rfl) ?_
          simp only [Act.put, List.setIfInBounds_toArray, List.set_cons_succ, List.set_cons_zero]
          refine reads_cons (.pointer (some ⟨lz.b, 0, none⟩)) (fun w' hw' => rd_load (ld32 (OwnN.cell hw'.2.2 (by simp [HK2.out.1]) (by simp [← HK2.out.1]))) rfl rfl) ?_
          simp only [Act.put, List.setIfInBounds_toArray, List.set_cons_succ, List.set_cons_zero]
          refine reads_nil ?_
          have S1 := S0.alloc (.cells #[.pointer (some ⟨lz.b, 0, none⟩)] 32)
          have e1a := S1.h.ok (Res.node cb crv2 ckv) (by simp)
          have e2a := S1.h.ok (Res.node lb (.slice (some ⟨lg2, 0, none⟩) q lcap2) (.slice (some ⟨kl, 0, none⟩) (q + 2) klc)) (by simp)
          have e3a := S1.h.ok (Res.rowN (.slice (some ⟨kl, 0, none⟩) (q + 2) klc) (lka ++ [lz])) (by simp)
          refine seq_value (.slice (some ⟨W.drew.heap.size, 0, none⟩) 1 1) _ (rd_build (bs36 _ _) rfl rfl) (fun _ => ⟨e1a, e2a, e3a⟩) ?_
          simp only [Act.put, List.setIfInBounds_toArray, List.set_cons_succ, List.set_cons_zero]
          have HDL := insN_st (tb := 32) [Res.node nb (.slice (some ⟨rg, 0, none⟩) m rcap) (.slice (some ⟨kg, 0, none⟩) n kcap), Res.rowE (.slice (some ⟨rg, 0, none⟩) m rcap) (r1 ++ y :: rs2), Res.rowN (.slice (some ⟨kg, 0, none⟩) n kcap) (k1 ++ l :: c :: ks2), Res.node lb (.slice (some ⟨lg2, 0, none⟩) q lcap2) (.slice (some ⟨kl, 0, none⟩) (q + 2) klc), Res.rowE (.slice (some ⟨lg2, 0, none⟩) q lcap2) la, Res.rowN (.slice (some ⟨kl, 0, none⟩) (q + 2) klc) (lka ++ [lz]), Res.node cb crv2 ckv, Res.rowE crv2 (x :: crs)] Rest (v := ckv) (rs1 := []) (rs2 := cks) (e := lz) (vb := W.drew.heap.size) (i := 0) S1 (by have := HK2.out.2; simp; omega) rfl
          refine seq_call 40 #[ckv, .int .i64 0, .slice (some ⟨W.drew.heap.size, 0, none⟩) 1 1] _ (by go_simp) HDL ?_
          rintro e w3 ⟨zg, zcap, rfl, S3⟩
          obtain ⟨zn, hzn⟩ : ∃ zn, zn = ([] ++ lz :: cks).length := ⟨_, rfl⟩
          rw [← hzn] at S3 ⊢
          have e1c := S3.h.ok (Res.node cb crv2 ckv) (by simp)
          have e2c := S3.h.ok (Res.node lb (.slice (some ⟨lg2, 0, none⟩) q lcap2) (.slice (some ⟨kl, 0, none⟩) (q + 2) klc)) (by simp)
          have e3c := S3.h.ok (Res.rowN (.slice (some ⟨kl, 0, none⟩) (q + 2) klc) (lka ++ [lz])) (by simp)
          refine ⟨_, rfl, ⟨e1c, e2c, e3c⟩, ?_⟩
          simp only [Act.put, List.setIfInBounds_toArray, List.set_cons_succ, List.set_cons_zero]
          obtain ⟨g0, g1, gf0, gf1, glt⟩ := node_cells e1c
          refine seq_value (.pointer (some ⟨cb, 0, none⟩)) w3 rfl (fun _ => ⟨e1c, e2c, e3c⟩) ?_
          simp only [Act.put, List.setIfInBounds_toArray, List.set_cons_succ, List.set_cons_zero]
          refine seq_value (.pointer (some ⟨cb, 1, none⟩)) w3 (rd_field (fld71_1 cb w3) rfl rfl) (fun _ => ⟨e1c, e2c, e3c⟩) ?_
          simp only [Act.put, List.setIfInBounds_toArray, List.set_cons_succ, List.set_cons_zero]
          refine seq_skip (w3.setCell ⟨cb, 1, none⟩ (.slice (some ⟨zg, 0, none⟩) zn zcap)) (rd_store (st36 (some ⟨zg, 0, none⟩) zn zcap g1 gf1) rfl rfl rfl) (fun h => absurd rfl h) ?_
          simp only [Act.put, List.setIfInBounds_toArray, List.set_cons_succ, List.set_cons_zero]
          refine seq_nil ?_
          have S4 := St.set1 [Res.node nb (.slice (some ⟨rg, 0, none⟩) m rcap) (.slice (some ⟨kg, 0, none⟩) n kcap), Res.rowE (.slice (some ⟨rg, 0, none⟩) m rcap) (r1 ++ y :: rs2), Res.rowN (.slice (some ⟨kg, 0, none⟩) n kcap) (k1 ++ l :: c :: ks2), Res.node lb (.slice (some ⟨lg2, 0, none⟩) q lcap2) (.slice (some ⟨kl, 0, none⟩) (q + 2) klc), Res.rowE (.slice (some ⟨lg2, 0, none⟩) q lcap2) la, Res.rowN (.slice (some ⟨kl, 0, none⟩) (q + 2) klc) (lka ++ [lz])] _ (S3.perm (by rfl)) (.slice (some ⟨zg, 0, none⟩) zn zcap)
          have HS4 : Hid (St w0 o (w3.setCell ⟨cb, 1, none⟩ (.slice (some ⟨zg, 0, none⟩) zn zcap)) _) := S4
          clear S0 S1 S3 S4 HDL hzn
          go_wp2_with fail
          go_meet
          case rel => exact ⟨_, HS4.out⟩
        case rest =>
          obtain ⟨ckv2, S0⟩ := hcut
          clear HS2
          obtain ⟨u0', u1', uf0', uf1', ult'⟩ := node_cells (S0.h.ok (Res.node lb (.slice (some ⟨lg2, 0, none⟩) q lcap2) (.slice (some ⟨kl, 0, none⟩) (q + 2) klc)) (by simp))
          have HDN : Hid (Calls Try.prog 41 #[.slice (some ⟨kl, 0, none⟩) (q + 2) klc, .int .i64 ((q : Int) + 1), .int .i64 ((q : Int) + 2)] wc (RowNSays w0 o [Res.node nb (.slice (some ⟨rg, 0, none⟩) m rcap) (.slice (some ⟨kg, 0, none⟩) n kcap), Res.rowE (.slice (some ⟨rg, 0, none⟩) m rcap) (r1 ++ y :: rs2), Res.rowN (.slice (some ⟨kg, 0, none⟩) n kcap) (k1 ++ l :: c :: ks2), Res.node lb (.slice (some ⟨lg2, 0, none⟩) q lcap2) (.slice (some ⟨kl, 0, none⟩) (q + 2) klc), Res.rowE (.slice (some ⟨lg2, 0, none⟩) q lcap2) la] (Res.node cb crv2 ckv2 :: Res.rowE crv2 (x :: crs) :: Res.rowN ckv2 (lz :: cks) :: Rest) (lka ++ []))) := by
            have := delN_st [Res.node nb (.slice (some ⟨rg, 0, none⟩) m rcap) (.slice (some ⟨kg, 0, none⟩) n kcap), Res.rowE (.slice (some ⟨rg, 0, none⟩) m rcap) (r1 ++ y :: rs2), Res.rowN (.slice (some ⟨kg, 0, none⟩) n kcap) (k1 ++ l :: c :: ks2), Res.node lb (.slice (some ⟨lg2, 0, none⟩) q lcap2) (.slice (some ⟨kl, 0, none⟩) (q + 2) klc), Res.rowE (.slice (some ⟨lg2, 0, none⟩) q lcap2) la] (Res.node cb crv2 ckv2 :: Res.rowE crv2 (x :: crs) :: Res.rowN ckv2 (lz :: cks) :: Rest) (l1 := lka) (l2 := [lz]) (l3 := []) (i := q + 1) (j := q + 2) (by rw [List.append_nil]; exact S0) (by have := HK2.out.1; simp; omega) (by omega) HK2.out.1 (by have := HK2.out.1; simp; omega) (by simp)
            rw [show ((q + 1 : Nat) : Int) = (q : Int) + 1 by omega, show ((q + 2 : Nat) : Int) = (q : Int) + 2 by omega] at this
            exact this
          clear S0
          have hfal : (if lka ++ [lz] = [] then ([] : List Kid) else lz :: cks) = lz :: cks := if_neg hne
          go_wp2_with (go_at_call 41; refine HDN.out.mono ?_; rintro e w2 ⟨g2, cp2, rfl, S3⟩; obtain ⟨yn, hyn⟩ : ∃ yn, yn = (lka ++ []).length := ⟨_, rfl⟩; rw [← hyn] at S3 ⊢; clear hyn; obtain ⟨d0, d1, df0, df1, dlt⟩ := node_cells (S3.h.ok (Res.node lb (.slice (some ⟨lg2, 0, none⟩) q lcap2) (.slice (some ⟨kl, 0, none⟩) (q + 2) klc)) (by simp)); have HS3 : Hid (St w0 o (w2.setCell ⟨lb, 1, none⟩ (.slice (some ⟨g2, 0, none⟩) yn cp2)) _) := St.set1 [Res.node nb (.slice (some ⟨rg, 0, none⟩) m rcap) (.slice (some ⟨kg, 0, none⟩) n kcap), Res.rowE (.slice (some ⟨rg, 0, none⟩) m rcap) (r1 ++ y :: rs2), Res.rowN (.slice (some ⟨kg, 0, none⟩) n kcap) (k1 ++ l :: c :: ks2)] _ S3 (.slice (some ⟨g2, 0, none⟩) yn cp2); clear S3)
          try go_returns
          have S5 := HS3.out
          rw [List.append_nil] at S5
          try rw [hfal]
          exact ⟨_, _, _, _, _, rfl, S5⟩

end Go.Proofs.Qxb6601706a
