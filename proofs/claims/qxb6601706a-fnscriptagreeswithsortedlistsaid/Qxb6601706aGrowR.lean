import Derived.Test.Qxb6601706aGrowL
namespace Go.Proofs.Qxb6601706a
open Go.RowKit
set_option linter.unusedVariables false
set_option linter.unusedSimpArgs false

def RotRSays (w0 : World) (o : List Nat) (kv : Value) (nb cb rb : Nat) (r1 r2 ra crs : List Ent) (x y : Ent) (k1 : List Kid) (c r : Kid) (k2 rka cks : List Kid) (Rest : List Res) (j : Nat) (e : Ending) (w' : World) : Prop :=
  ∃ rv crv ckv rrv rkv, e = .returned (.int .i64 j) ∧ St w0 o w' (Res.node nb rv kv :: Res.rowE rv (r1 ++ y :: r2) :: Res.rowN kv (k1 ++ c :: r :: k2) :: Res.node cb crv ckv :: Res.rowE crv (crs ++ [x]) :: Res.rowN ckv cks :: Res.node rb rrv rkv :: Res.rowE rrv ra :: Res.rowN rkv rka :: Rest)

/-- the left neighbour, where there is one, has no record to spare -/
def LeftSmall (w : World) (k1 : List Kid) (j : Nat) : Prop := j = 0 ∨ ∃ l a ca lkv, k1[j - 1]? = some l ∧ w.heap[l.b]? = some (.cells #[.slice a 31 ca, lkv] 71 (0, 0))

set_option maxHeartbeats 8000000 in
set_option maxRecDepth 100000 in
theorem grow_right {w0 w : World} {o : List Nat} {nb cb rb : Nat} {rv kv crv ckv rrv rkv : Value} {r1 r2 ra crs : List Ent} {x y : Ent} {k1 k2 rka rks cks : List Kid} {c r rz : Kid} {Rest : List Res}
    (s : St w0 o w (Res.node nb rv kv :: Res.rowE rv (r1 ++ x :: r2) :: Res.rowN kv (k1 ++ c :: r :: k2) :: Res.node cb crv ckv :: Res.rowE crv crs :: Res.rowN ckv cks :: Res.node rb rrv rkv :: Res.rowE rrv (y :: ra) :: Res.rowN rkv rks :: Rest))
    (hcb : c.b = cb) (hrb : r.b = rb) (hc : crs.length = 31) (q : Nat) (hq : ra.length = q) (hq31 : 31 ≤ q) (hq63 : q ≤ 62) (j : Nat) (hj1 : k1.length = j) (hj2 : r1.length = j) (hlen : r1.length + r2.length ≤ 62) (h2 : k2.length = r2.length) (hleft : LeftSmall w k1 j)
    (hk : (rks = [] ∧ rka = [] ∧ cks = []) ∨ (rks = rz :: rka ∧ rka.length = q + 1 ∧ cks.length = 32)) :
    Calls Try.prog 32 #[.pointer (some ⟨nb, 0, none⟩), .int .i64 j] w (RotRSays w0 o kv nb cb rb r1 r2 ra crs x y k1 c r k2 rka (if rks = [] then [] else cks ++ [rz]) Rest j) := by
  have hkv : OwnN w kv (k1 ++ c :: r :: k2) := s.h.ok (Res.rowN kv (k1 ++ c :: r :: k2)) (by simp)
  have hrv : OwnE w 52 rv (r1 ++ x :: r2) := s.h.ok (Res.rowE rv (r1 ++ x :: r2)) (by simp)
  have hlr : OwnE w 52 rrv (y :: ra) := s.h.ok (Res.rowE rrv (y :: ra)) (by simp)
  have hcr : OwnE w 52 crv crs := s.h.ok (Res.rowE crv crs) (by simp)
  rcases hkv.form with ⟨_, h⟩ | ⟨kg, kcap, hkvf, hkg, hkn, hkc⟩
  · simp at h
  rcases hrv.form with ⟨_, h⟩ | ⟨rg, rcap, hrvf, hrg, hrn, hrc⟩
  · simp at h
  rcases hlr.form with ⟨_, h⟩ | ⟨qg, qcap, hlrf, hlg, hln, hlc⟩
  · simp at h
  rcases hcr.form with ⟨_, h⟩ | ⟨cg, ccap, hcrf, hcg, hcn, hcc⟩
  · rw [h] at hc; simp at hc
  rw [hc] at hcrf hcn
  obtain ⟨n, hn⟩ : ∃ n, n = (k1 ++ c :: r :: k2).length := ⟨_, rfl⟩
  obtain ⟨m, hm⟩ : ∃ m, m = (r1 ++ x :: r2).length := ⟨_, rfl⟩
  have hl1 : (y :: ra).length = q + 1 := by simp [hq]
  rw [← hn] at hkvf hkn
  rw [← hm] at hrvf hrn
  rw [hl1] at hlrf hln
  have hc0 : w.cell? ⟨kg, j, none⟩ = some (.pointer (some ⟨cb, 0, none⟩)) := by
    rw [← hcb]; exact OwnN.cell (n := n) (by rw [← hkvf]; exact hkv) hn (by simp [← hj1])
  have hc1 : w.cell? ⟨kg, j + 1, none⟩ = some (.pointer (some ⟨rb, 0, none⟩)) := by
    rw [← hrb]; exact OwnN.cell (n := n) (by rw [← hkvf]; exact hkv) hn (by rw [List.getElem?_append_right (by omega), show j + 1 - k1.length = 1 by omega]; rfl)
  have hleft2 : j = 0 ∨ ∃ lb a ca lkv, w.cell? ⟨kg, j - 1, none⟩ = some (.pointer (some ⟨lb, 0, none⟩)) ∧ w.cell? ⟨lb, 0, none⟩ = some (.slice a 31 ca) ∧ w.heap[lb]? = some (.cells #[.slice a 31 ca, lkv] 71 (0, 0)) := by
    rcases hleft with h | ⟨l, a, ca, lkv, h1, h3⟩
    · exact .inl h
    · refine .inr ⟨l.b, a, ca, lkv, ?_, (node_cells h3).1, h3⟩
      have hjl : j - 1 < k1.length := (List.getElem?_eq_some_iff.1 h1).1
      exact OwnN.cell (n := n) (by rw [← hkvf]; exact hkv) hn (by rw [List.getElem?_append_left hjl]; exact h1)
  subst hkvf hrvf hlrf hcrf
  obtain ⟨n0, n1, nf0, nf1, nlt⟩ := node_cells (s.h.ok (Res.node nb (.slice (some ⟨rg, 0, none⟩) m rcap) (.slice (some ⟨kg, 0, none⟩) n kcap)) (by simp))
  obtain ⟨l0, l1, lf0, lf1, llt⟩ := node_cells (s.h.ok (Res.node rb (.slice (some ⟨qg, 0, none⟩) (q + 1) qcap) rkv) (by simp))
  obtain ⟨c0, c1, cf0, cf1, clt⟩ := node_cells (s.h.ok (Res.node cb (.slice (some ⟨cg, 0, none⟩) 31 ccap) ckv) (by simp))
  have hnn : j + 1 < n ∧ n ≤ 64 := by rw [hn]; simp; omega
  have hmm : j < m ∧ m ≤ 63 := by rw [hm]; simp; omega
  have hin1 : (j : Int) + 1 < n := by omega
  have hin64 := hnn.2
  have hjm : (j : Int) < m := by omega
  have hm63 := hmm.2
  have hq2 : (31 : Int) < (q : Int) + 1 := by omega
  have HF : Hid (k1.length = j ∧ r1.length = j ∧ k2.length = r2.length ∧ crs.length = 31 ∧ ra.length = q ∧ n = (k1 ++ c :: r :: k2).length ∧ m = (r1 ++ x :: r2).length ∧ r1.length + r2.length ≤ 62 ∧ j < m ∧ m ≤ 63 ∧ j + 1 < n ∧ n ≤ 64) := ⟨hj1, hj2, h2, hc, hq, hn, hm, hlen, hmm.1, hmm.2, hnn.1, hnn.2⟩
  have HK : Hid ((rks = [] ∧ rka = [] ∧ cks = []) ∨ (rks = rz :: rka ∧ rka.length = q + 1 ∧ cks.length = 32)) := hk
  have HS : Hid (St w0 o w _) := s
  clear s hkv hrv hlr hcr hj1 hj2 h2 hc hq hn hm hk hlen hmm hcb hrb hnn hl1 hleft
  go_enter Try.func32, Try.ntmps32
  go_upto_if 24 with (fail)
  go_cut [] (fun wx => wx = w)
  case first =>
    as_aux_lemma =>
      rcases hleft2 with rfl | ⟨lb, a, ca, lkv, d0, d1, d2⟩
      · go_wp2_with fail
        go_meet
        case rel => rfl
      · by_cases hj0 : j = 0
        · subst hj0
          go_wp2_with fail
          go_meet
          case rel => rfl
        · have hjp : (0 : Int) < (j : Int) := by omega
          obtain ⟨j', rfl⟩ : ∃ j', j = j' + 1 := ⟨j - 1, by omega⟩
          simp only [Nat.add_sub_cancel] at d0
          go_wp2_with fail
          go_meet
          case rel => rfl
  case rest =>
    subst hcut
    go_upto_region 18 with (fail)
    go_cut [] (fun wx => ∃ crv', St w0 o wx ([Res.node nb (.slice (some ⟨rg, 0, none⟩) m rcap) (.slice (some ⟨kg, 0, none⟩) n kcap), Res.rowE (.slice (some ⟨rg, 0, none⟩) m rcap) (r1 ++ x :: r2), Res.rowN (.slice (some ⟨kg, 0, none⟩) n kcap) (k1 ++ c :: r :: k2)] ++ Res.node cb crv' ckv :: Res.rowE crv' (crs ++ [x]) :: Res.rowN ckv cks :: Res.node rb (.slice (some ⟨qg, 0, none⟩) (q + 1) qcap) rkv :: Res.rowE (.slice (some ⟨qg, 0, none⟩) (q + 1) qcap) (y :: ra) :: Res.rowN rkv rks :: Rest))
    case first =>
      as_aux_lemma =>
        have S0 := HS.out.drew
        clear HS
        have e1 := S0.h.ok (Res.node cb (.slice (some ⟨cg, 0, none⟩) 31 ccap) ckv) (by simp)
        have e2 := S0.h.ok (Res.node nb (.slice (some ⟨rg, 0, none⟩) m rcap) (.slice (some ⟨kg, 0, none⟩) n kcap)) (by simp)
        have e3 := S0.h.ok (Res.rowE (.slice (some ⟨rg, 0, none⟩) m rcap) (r1 ++ x :: r2)) (by simp)
        refine region_lexL [0, 1, 2, 3, 4, 5, 6, 7, 8, 9, 10, 11] [12, 13, 14, 15, 16] 16 (fun w' => w'.heap[cb]? = some (.cells #[.slice (some ⟨cg, 0, none⟩) 31 ccap, ckv] 71 (0, 0)) ∧ w'.heap[nb]? = some (.cells #[.slice (some ⟨rg, 0, none⟩) m rcap, .slice (some ⟨kg, 0, none⟩) n kcap] 71 (0, 0)) ∧ OwnE w' 52 (.slice (some ⟨rg, 0, none⟩) m rcap) (r1 ++ x :: r2)) (by kernel_rfl) (by kernel_rfl) (fun _ _ d _ _ h => by cases d <;> exact h) ⟨e1, e2, e3⟩ ?_
        refine reads_cons (.pointer (some ⟨cb, 0, none⟩)) (fun w' hw' => rfl) ?_
        simp only [Act.put, List.setIfInBounds_toArray, List.set_cons_succ, List.set_cons_zero]
        refine reads_cons (.pointer (some ⟨cb, 0, none⟩)) (fun w' hw' => rfl) ?_
        simp only [Act.put, List.setIfInBounds_toArray, List.set_cons_succ, List.set_cons_zero]
        refine reads_cons (.pointer (some ⟨cb, 0, none⟩)) (fun w' hw' => rfl) ?_
        simp only [Act.put, List.setIfInBounds_toArray, List.set_cons_succ, List.set_cons_zero]
        refine reads_cons (.pointer (some ⟨cb, 0, none⟩)) (fun w' hw' => rd_field (fld71_0 cb w') rfl rfl) ?_
        simp only [Act.put, List.setIfInBounds_toArray, List.set_cons_succ, List.set_cons_zero]
        refine reads_cons (.slice (some ⟨cg, 0, none⟩) 31 ccap) (fun w' hw' => rd_load (ld35 (node_cells hw'.1).1) rfl rfl) ?_
        simp only [Act.put, List.setIfInBounds_toArray, List.set_cons_succ, List.set_cons_zero]
        refine reads_cons (.pointer (some ⟨nb, 0, none⟩)) (fun w' hw' => rfl) ?_
        simp only [Act.put, List.setIfInBounds_toArray, List.set_cons_succ, List.set_cons_zero]
        refine reads_cons (.pointer (some ⟨nb, 0, none⟩)) (fun w' hw' => rfl) ?_
        simp only [Act.put, List.setIfInBounds_toArray, List.set_cons_succ, List.set_cons_zero]
        refine reads_cons (.pointer (some ⟨nb, 0, none⟩)) (fun w' hw' => rd_field (fld71_0 nb w') rfl rfl) ?_
        simp only [Act.put, List.setIfInBounds_toArray, List.set_cons_succ, List.set_cons_zero]
        refine reads_cons (.slice (some ⟨rg, 0, none⟩) m rcap) (fun w' hw' => rd_load (ld35 (node_cells hw'.2.1).1) rfl rfl) ?_
        simp only [Act.put, List.setIfInBounds_toArray, List.set_cons_succ, List.set_cons_zero]
        refine reads_cons (.int .i64 j) (fun w' hw' => rfl) ?_
        simp only [Act.put, List.setIfInBounds_toArray, List.set_cons_succ, List.set_cons_zero]
        refine reads_cons (.pointer (some ⟨rg, j * 4, none⟩)) (fun w' hw' => rd_index (ix35 w' HF.out.2.2.2.2.2.2.2.2.1 (by have := HF.out.2.2.2.2.2.2.2.2.2.1; omega)) rfl rfl rfl) ?_
        simp only [Act.put, List.setIfInBounds_toArray, List.set_cons_succ, List.set_cons_zero]
        refine reads_cons (.agg #[.string x.key, .slice x.va x.vl x.vc, .int .u64 x.rev, .int .u64 x.lease]) (fun w' hw' => rd_load (ld52 (OwnE.cell hw'.2.2 HF.out.2.2.2.2.2.2.1 (by simp [← HF.out.2.1])).1 (OwnE.cell hw'.2.2 HF.out.2.2.2.2.2.2.1 (by simp [← HF.out.2.1])).2.1 (OwnE.cell hw'.2.2 HF.out.2.2.2.2.2.2.1 (by simp [← HF.out.2.1])).2.2.1 (OwnE.cell hw'.2.2 HF.out.2.2.2.2.2.2.1 (by simp [← HF.out.2.1])).2.2.2) rfl rfl) ?_
        simp only [Act.put, List.setIfInBounds_toArray, List.set_cons_succ, List.set_cons_zero]
        refine reads_nil ?_
        have S1 := S0.alloc (.cells #[.string x.key, .slice x.va x.vl x.vc, .int .u64 x.rev, .int .u64 x.lease] 52)
        have e1a := S1.h.ok (Res.node cb (.slice (some ⟨cg, 0, none⟩) 31 ccap) ckv) (by simp)
        have e2a := S1.h.ok (Res.node nb (.slice (some ⟨rg, 0, none⟩) m rcap) (.slice (some ⟨kg, 0, none⟩) n kcap)) (by simp)
        have e3a := S1.h.ok (Res.rowE (.slice (some ⟨rg, 0, none⟩) m rcap) (r1 ++ x :: r2)) (by simp)
        refine seq_value (.slice (some ⟨wc.drew.heap.size, 0, none⟩) 1 1) _ (rd_build (bs35 _ _ _ _ _ rfl rfl rfl rfl) rfl rfl) (fun _ => ⟨e1a, e2a, e3a⟩) ?_
        simp only [Act.put, List.setIfInBounds_toArray, List.set_cons_succ, List.set_cons_zero]
        refine seq_op (appE_st [Res.node nb (.slice (some ⟨rg, 0, none⟩) m rcap) (.slice (some ⟨kg, 0, none⟩) n kcap), Res.rowE (.slice (some ⟨rg, 0, none⟩) m rcap) (r1 ++ x :: r2), Res.rowN (.slice (some ⟨kg, 0, none⟩) n kcap) (k1 ++ c :: r :: k2), Res.node cb (.slice (some ⟨cg, 0, none⟩) 31 ccap) ckv] (Res.rowN ckv cks :: Res.node rb (.slice (some ⟨qg, 0, none⟩) (q + 1) qcap) rkv :: Res.rowE (.slice (some ⟨qg, 0, none⟩) (q + 1) qcap) (y :: ra) :: Res.rowN rkv rks :: Rest) _ _ rfl S1 rfl rfl (by have := HF.out.2.2.2.1; omega) ?_)
        intro zg zcap w3 S3
        obtain ⟨zn, hzn⟩ : ∃ zn, zn = (crs ++ [x]).length := ⟨_, rfl⟩
        rw [← hzn] at S3 ⊢
        have e1c := S3.h.ok (Res.node cb (.slice (some ⟨cg, 0, none⟩) 31 ccap) ckv) (by simp)
        have e2c := S3.h.ok (Res.node nb (.slice (some ⟨rg, 0, none⟩) m rcap) (.slice (some ⟨kg, 0, none⟩) n kcap)) (by simp)
        have e3c := S3.h.ok (Res.rowE (.slice (some ⟨rg, 0, none⟩) m rcap) (r1 ++ x :: r2)) (by simp)
        refine ⟨fun _ => ⟨e1c, e2c, e3c⟩, ?_⟩
        simp only [Act.put, List.setIfInBounds_toArray, List.set_cons_succ, List.set_cons_zero]
        obtain ⟨g0, g1, gf0, gf1, glt⟩ := node_cells e1c
        refine seq_value (.pointer (some ⟨cb, 0, none⟩)) w3 rfl (fun _ => ⟨e1c, e2c, e3c⟩) ?_
        simp only [Act.put, List.setIfInBounds_toArray, List.set_cons_succ, List.set_cons_zero]
        refine seq_value (.pointer (some ⟨cb, 0, none⟩)) w3 (rd_field (fld71_0 cb w3) rfl rfl) (fun _ => ⟨e1c, e2c, e3c⟩) ?_
        simp only [Act.put, List.setIfInBounds_toArray, List.set_cons_succ, List.set_cons_zero]
        refine seq_skip (w3.setCell ⟨cb, 0, none⟩ (.slice (some ⟨zg, 0, none⟩) zn zcap)) (rd_store (st35 (some ⟨zg, 0, none⟩) zn zcap g0 gf0) rfl rfl rfl) (fun h => absurd rfl h) ?_
        simp only [Act.put, List.setIfInBounds_toArray, List.set_cons_succ, List.set_cons_zero]
        refine seq_nil ?_
        have S4 := St.set0 [Res.node nb (.slice (some ⟨rg, 0, none⟩) m rcap) (.slice (some ⟨kg, 0, none⟩) n kcap), Res.rowE (.slice (some ⟨rg, 0, none⟩) m rcap) (r1 ++ x :: r2), Res.rowN (.slice (some ⟨kg, 0, none⟩) n kcap) (k1 ++ c :: r :: k2)] _ (S3.perm (by rfl)) (.slice (some ⟨zg, 0, none⟩) zn zcap)
        have HS4 : Hid (St w0 o (w3.setCell ⟨cb, 0, none⟩ (.slice (some ⟨zg, 0, none⟩) zn zcap)) _) := S4
        clear S0 S1 S3 S4 hzn
        go_wp2_with fail
        go_meet
        case rel => exact ⟨_, HS4.out⟩
    case rest =>
      obtain ⟨crv2, S0'⟩ := hcut
      clear HS
      go_upto_region 19 with (fail)
      go_cut [] (fun wx => St w0 o wx ([Res.node nb (.slice (some ⟨rg, 0, none⟩) m rcap) (.slice (some ⟨kg, 0, none⟩) n kcap), Res.rowE (.slice (some ⟨rg, 0, none⟩) m rcap) (r1 ++ y :: r2), Res.rowN (.slice (some ⟨kg, 0, none⟩) n kcap) (k1 ++ c :: r :: k2)] ++ Res.node cb crv2 ckv :: Res.rowE crv2 (crs ++ [x]) :: Res.rowN ckv cks :: Res.node rb (.slice (some ⟨qg, 0, none⟩) (q + 1) qcap) rkv :: Res.rowE (.slice (some ⟨qg, 0, none⟩) (q + 1) qcap) (y :: ra) :: Res.rowN rkv rks :: Rest))
      case first =>
       as_aux_lemma =>
        have S0 := S0'.drew
        clear S0'
        have e1 := S0.h.ok (Res.node nb (.slice (some ⟨rg, 0, none⟩) m rcap) (.slice (some ⟨kg, 0, none⟩) n kcap)) (by simp)
        have e2 := S0.h.ok (Res.rowE (.slice (some ⟨rg, 0, none⟩) m rcap) (r1 ++ x :: r2)) (by simp)
        have e3 := S0.h.ok (Res.node rb (.slice (some ⟨qg, 0, none⟩) (q + 1) qcap) rkv) (by simp)
        have e4 := S0.h.ok (Res.rowE (.slice (some ⟨qg, 0, none⟩) (q + 1) qcap) (y :: ra)) (by simp)
        refine region_lexL [0, 1, 2, 3, 4, 5, 6, 7, 8, 9, 10] [11, 12] 12 (fun w' => w'.heap[nb]? = some (.cells #[.slice (some ⟨rg, 0, none⟩) m rcap, .slice (some ⟨kg, 0, none⟩) n kcap] 71 (0, 0)) ∧ OwnE w' 52 (.slice (some ⟨rg, 0, none⟩) m rcap) (r1 ++ x :: r2) ∧ w'.heap[rb]? = some (.cells #[.slice (some ⟨qg, 0, none⟩) (q + 1) qcap, rkv] 71 (0, 0)) ∧ OwnE w' 52 (.slice (some ⟨qg, 0, none⟩) (q + 1) qcap) (y :: ra)) (by kernel_rfl) (by kernel_rfl) (fun _ _ d _ _ h => by cases d <;> exact h) ⟨e1, e2, e3, e4⟩ ?_
        refine reads_cons (.pointer (some ⟨nb, 0, none⟩)) (fun w' hw' => rfl) ?_
        simp only [Act.put, List.setIfInBounds_toArray, List.set_cons_succ, List.set_cons_zero]
        refine reads_cons (.pointer (some ⟨nb, 0, none⟩)) (fun w' hw' => rfl) ?_
        simp only [Act.put, List.setIfInBounds_toArray, List.set_cons_succ, List.set_cons_zero]
        refine reads_cons (.pointer (some ⟨nb, 0, none⟩)) (fun w' hw' => rd_field (fld71_0 nb w') rfl rfl) ?_
        simp only [Act.put, List.setIfInBounds_toArray, List.set_cons_succ, List.set_cons_zero]
        refine reads_cons (.slice (some ⟨rg, 0, none⟩) m rcap) (fun w' hw' => rd_load (ld35 (node_cells hw'.1).1) rfl rfl) ?_
        simp only [Act.put, List.setIfInBounds_toArray, List.set_cons_succ, List.set_cons_zero]
        refine reads_cons (.int .i64 j) (fun w' hw' => rfl) ?_
        simp only [Act.put, List.setIfInBounds_toArray, List.set_cons_succ, List.set_cons_zero]
        refine reads_cons (.pointer (some ⟨rb, 0, none⟩)) (fun w' hw' => rfl) ?_
        simp only [Act.put, List.setIfInBounds_toArray, List.set_cons_succ, List.set_cons_zero]
        refine reads_cons (.pointer (some ⟨rb, 0, none⟩)) (fun w' hw' => rfl) ?_
        simp only [Act.put, List.setIfInBounds_toArray, List.set_cons_succ, List.set_cons_zero]
        refine reads_cons (.pointer (some ⟨rb, 0, none⟩)) (fun w' hw' => rd_field (fld71_0 rb w') rfl rfl) ?_
        simp only [Act.put, List.setIfInBounds_toArray, List.set_cons_succ, List.set_cons_zero]
        refine reads_cons (.slice (some ⟨qg, 0, none⟩) (q + 1) qcap) (fun w' hw' => rd_load (ld35 (node_cells hw'.2.2.1).1) rfl rfl) ?_
        simp only [Act.put, List.setIfInBounds_toArray, List.set_cons_succ, List.set_cons_zero]
        refine reads_cons (.pointer (some ⟨qg, 0 * 4, none⟩)) (fun w' hw' => rd_index (ix35 w' (by omega) (by omega)) rfl rfl rfl) ?_
        simp only [Act.put, List.setIfInBounds_toArray, List.set_cons_succ, List.set_cons_zero]
        refine reads_cons (.agg #[.string y.key, .slice y.va y.vl y.vc, .int .u64 y.rev, .int .u64 y.lease]) (fun w' hw' => rd_load (ld52 (OwnE.cell hw'.2.2.2 (by simp [HF.out.2.2.2.2.1]) (show (y :: ra)[0]? = some y from rfl)).1 (OwnE.cell hw'.2.2.2 (by simp [HF.out.2.2.2.2.1]) (show (y :: ra)[0]? = some y from rfl)).2.1 (OwnE.cell hw'.2.2.2 (by simp [HF.out.2.2.2.2.1]) (show (y :: ra)[0]? = some y from rfl)).2.2.1 (OwnE.cell hw'.2.2.2 (by simp [HF.out.2.2.2.2.1]) (show (y :: ra)[0]? = some y from rfl)).2.2.2) rfl rfl) ?_
        simp only [Act.put, List.setIfInBounds_toArray, List.set_cons_succ, List.set_cons_zero]
        refine reads_nil ?_
        refine seq_value (.pointer (some ⟨rg, j * 4, none⟩)) wc.drew (rd_index (ix35 wc.drew HF.out.2.2.2.2.2.2.2.2.1 (by have := HF.out.2.2.2.2.2.2.2.2.2.1; omega)) rfl rfl rfl) (fun _ => ⟨e1, e2, e3, e4⟩) ?_
        simp only [Act.put, List.setIfInBounds_toArray, List.set_cons_succ, List.set_cons_zero]
        have hown : wc.drew.ownsRow 0 52 4 (.slice (some ⟨rg, 0, none⟩) m rcap) m (flatE (r1 ++ x :: r2)) := by
          have h2 : OwnE wc.drew 52 (.slice (some ⟨rg, 0, none⟩) m rcap) (r1 ++ x :: r2) := e2
          unfold OwnE at h2
          rwa [← HF.out.2.2.2.2.2.2.1] at h2
        refine seq_skip _ (rd_store (st52 hown j HF.out.2.2.2.2.2.2.2.2.1 y) rfl rfl rfl) (fun h => absurd rfl h) ?_
        simp only [Act.put, List.setIfInBounds_toArray, List.set_cons_succ, List.set_cons_zero]
        refine seq_nil ?_
        have S4 := St.setE [Res.node nb (.slice (some ⟨rg, 0, none⟩) m rcap) (.slice (some ⟨kg, 0, none⟩) n kcap)] _ S0 HF.out.2.2.2.2.2.2.1 j y
        rw [show (r1 ++ x :: r2).set j y = r1 ++ y :: r2 by rw [← HF.out.2.1]; simp [List.set_append]] at S4
        have HS4 : Hid (St w0 o _ _) := S4
        clear S0 S4 hown
        go_wp2_with fail
        go_meet
        case rel => exact HS4.out
      case rest =>
        clear S0'
        have HS1 : Hid (St w0 o wc ([Res.node nb (.slice (some ⟨rg, 0, none⟩) m rcap) (.slice (some ⟨kg, 0, none⟩) n kcap), Res.rowE (.slice (some ⟨rg, 0, none⟩) m rcap) (r1 ++ y :: r2), Res.rowN (.slice (some ⟨kg, 0, none⟩) n kcap) (k1 ++ c :: r :: k2), Res.node cb crv2 ckv, Res.rowE crv2 (crs ++ [x]), Res.rowN ckv cks, Res.node rb (.slice (some ⟨qg, 0, none⟩) (q + 1) qcap) rkv] ++ Res.rowE (.slice (some ⟨qg, 0, none⟩) (q + 1) qcap) ([] ++ ([y] ++ ra)) :: Res.rowN rkv rks :: Rest)) := hcut
        clear hcut
        obtain ⟨u0, u1, uf0, uf1, ult⟩ := node_cells (HS1.out.h.ok (Res.node rb (.slice (some ⟨qg, 0, none⟩) (q + 1) qcap) rkv) (by simp))
        have HDE : Hid (Calls Try.prog 38 #[.slice (some ⟨qg, 0, none⟩) (q + 1) qcap, .int .i64 0, .int .i64 1] wc (RowESays w0 o [Res.node nb (.slice (some ⟨rg, 0, none⟩) m rcap) (.slice (some ⟨kg, 0, none⟩) n kcap), Res.rowE (.slice (some ⟨rg, 0, none⟩) m rcap) (r1 ++ y :: r2), Res.rowN (.slice (some ⟨kg, 0, none⟩) n kcap) (k1 ++ c :: r :: k2), Res.node cb crv2 ckv, Res.rowE crv2 (crs ++ [x]), Res.rowN ckv cks, Res.node rb (.slice (some ⟨qg, 0, none⟩) (q + 1) qcap) rkv] (Res.rowN rkv rks :: Rest) ([] ++ ra))) :=
          delE_st [Res.node nb (.slice (some ⟨rg, 0, none⟩) m rcap) (.slice (some ⟨kg, 0, none⟩) n kcap), Res.rowE (.slice (some ⟨rg, 0, none⟩) m rcap) (r1 ++ y :: r2), Res.rowN (.slice (some ⟨kg, 0, none⟩) n kcap) (k1 ++ c :: r :: k2), Res.node cb crv2 ckv, Res.rowE crv2 (crs ++ [x]), Res.rowN ckv cks, Res.node rb (.slice (some ⟨qg, 0, none⟩) (q + 1) qcap) rkv] (Res.rowN rkv rks :: Rest) (l1 := []) (l2 := [y]) (l3 := ra) (i := 0) (j := 1) HS1.out (by have := HF.out.2.2.2.2.1; simp; omega) (by omega) rfl rfl (by simp)
        clear HS1 n0 n1 nf0 nf1 nlt l0 l1 lf0 lf1 llt c0 c1 cf0 cf1 clt hc0 hc1
        go_upto_if 179 with (first
          | (go_at_call 38; refine HDE.out.mono ?_; rintro e w1 ⟨qg2, qcap2, rfl, S1⟩; rw [List.nil_append, HF.out.2.2.2.2.1] at S1 ⊢; obtain ⟨a0, a1, af0, af1, alt⟩ := node_cells (S1.h.ok (Res.node rb (.slice (some ⟨qg, 0, none⟩) (q + 1) qcap) rkv) (by simp)); have S2 := St.set0 [Res.node nb (.slice (some ⟨rg, 0, none⟩) m rcap) (.slice (some ⟨kg, 0, none⟩) n kcap), Res.rowE (.slice (some ⟨rg, 0, none⟩) m rcap) (r1 ++ y :: r2), Res.rowN (.slice (some ⟨kg, 0, none⟩) n kcap) (k1 ++ c :: r :: k2), Res.node cb crv2 ckv, Res.rowE crv2 (crs ++ [x]), Res.rowN ckv cks] _ S1 (.slice (some ⟨qg2, 0, none⟩) q qcap2); have HLF := leaf39 (S2.h.ok (Res.node rb (.slice (some ⟨qg2, 0, none⟩) q qcap2) rkv) (by simp)) (S2.h.ok (Res.rowN rkv rks) (by simp)); have HLF2 : Hid (Calls Try.prog 39 #[.pointer (some ⟨rb, 0, none⟩)] (w1.setCell ⟨rb, 0, none⟩ (.slice (some ⟨qg2, 0, none⟩) q qcap2)) fun e w' => e = .returned (.bool (decide (rks.length = 0))) ∧ w' = _) := HLF; have HS2 : Hid (St w0 o (w1.setCell ⟨rb, 0, none⟩ (.slice (some ⟨qg2, 0, none⟩) q qcap2)) ([Res.node nb (.slice (some ⟨rg, 0, none⟩) m rcap) (.slice (some ⟨kg, 0, none⟩) n kcap), Res.rowE (.slice (some ⟨rg, 0, none⟩) m rcap) (r1 ++ y :: r2), Res.rowN (.slice (some ⟨kg, 0, none⟩) n kcap) (k1 ++ c :: r :: k2), Res.node cb crv2 ckv, Res.rowE crv2 (crs ++ [x]), Res.rowN ckv cks] ++ Res.node rb (.slice (some ⟨qg2, 0, none⟩) q qcap2) rkv :: Res.rowE (.slice (some ⟨qg2, 0, none⟩) q qcap2) ra :: Res.rowN rkv rks :: Rest)) := S2; clear S1 S2 HLF)
          | (go_at_call 39; refine HLF2.out.mono ?_; rintro e w2 ⟨rfl, hw2⟩; subst hw2))
        obtain ⟨W, hW⟩ : ∃ W, W = w1.setCell ⟨rb, 0, none⟩ (.slice (some ⟨qg2, 0, none⟩) q qcap2) := ⟨_, rfl⟩
        rw [← hW] at HS2 ⊢
        clear hW HDE HLF2
        rcases HK.out with ⟨rfl, rfl, rfl⟩ | ⟨hk1, hk2, hk3⟩
        · as_aux_lemma =>
            go_wp2_with fail
            try go_returns
            exact ⟨_, _, _, _, _, rfl, HS2.out⟩
        · have hne : ¬ (rks = []) := by rw [hk1]; simp
          have hnd : decide (rks = []) = false := decide_eq_false hne
          rw [hnd]
          subst hk1
          have hown : OwnN W rkv (rz :: rka) := HS2.out.h.ok (Res.rowN rkv (rz :: rka)) (by simp)
          rcases hown.form with ⟨_, h⟩ | ⟨kl, klc, rfl, hkl, hkln, hklc⟩
          · exact absurd h hne
          have hl2 : (rz :: rka).length = q + 2 := by simp [hk2]
          rw [hl2] at hkln HS2
          have HK2 : Hid (rka.length = q + 1 ∧ cks.length = 32) := ⟨hk2, hk3⟩
          clear hown hl2 hk2 hk3 HK hnd
          go_upto_region 22 with (fail)
          go_cut [] (fun wx => ∃ ckv', St w0 o wx ([Res.node nb (.slice (some ⟨rg, 0, none⟩) m rcap) (.slice (some ⟨kg, 0, none⟩) n kcap), Res.rowE (.slice (some ⟨rg, 0, none⟩) m rcap) (r1 ++ y :: r2), Res.rowN (.slice (some ⟨kg, 0, none⟩) n kcap) (k1 ++ c :: r :: k2)] ++ Res.node cb crv2 ckv' :: Res.rowE crv2 (crs ++ [x]) :: Res.rowN ckv' (cks ++ [rz]) :: Res.node rb (.slice (some ⟨qg2, 0, none⟩) q qcap2) (.slice (some ⟨kl, 0, none⟩) (q + 2) klc) :: Res.rowE (.slice (some ⟨qg2, 0, none⟩) q qcap2) ra :: Res.rowN (.slice (some ⟨kl, 0, none⟩) (q + 2) klc) (rz :: rka) :: Rest))
          case first =>
           as_aux_lemma =>
            have S0 := HS2.out.drew
            clear HS2
            have e1 := S0.h.ok (Res.node cb crv2 ckv) (by simp)
            have e2 := S0.h.ok (Res.node rb (.slice (some ⟨qg2, 0, none⟩) q qcap2) (.slice (some ⟨kl, 0, none⟩) (q + 2) klc)) (by simp)
            have e3 := S0.h.ok (Res.rowN (.slice (some ⟨kl, 0, none⟩) (q + 2) klc) (rz :: rka)) (by simp)
            refine region_lexL [0, 1, 2, 3, 4, 5, 6, 7, 8, 9, 10] [11, 12, 13, 14, 15] 15 (fun w' => w'.heap[cb]? = some (.cells #[crv2, ckv] 71 (0, 0)) ∧ w'.heap[rb]? = some (.cells #[.slice (some ⟨qg2, 0, none⟩) q qcap2, .slice (some ⟨kl, 0, none⟩) (q + 2) klc] 71 (0, 0)) ∧ OwnN w' (.slice (some ⟨kl, 0, none⟩) (q + 2) klc) (rz :: rka)) (by kernel_rfl) (by kernel_rfl) (fun _ _ d _ _ h => by cases d <;> exact h) ⟨e1, e2, e3⟩ ?_
            refine reads_cons (.pointer (some ⟨cb, 0, none⟩)) (fun w' hw' => rfl) ?_
            simp only [Act.put, List.setIfInBounds_toArray, List.set_cons_succ, List.set_cons_zero]
            refine reads_cons (.pointer (some ⟨cb, 0, none⟩)) (fun w' hw' => rfl) ?_
            simp only [Act.put, List.setIfInBounds_toArray, List.set_cons_succ, List.set_cons_zero]
            refine reads_cons (.pointer (some ⟨cb, 0, none⟩)) (fun w' hw' => rfl) ?_
            simp only [Act.put, List.setIfInBounds_toArray, List.set_cons_succ, List.set_cons_zero]
            refine reads_cons (.pointer (some ⟨cb, 1, none⟩)) (fun w' hw' => rd_field (fld71_1 cb w') rfl rfl) ?_
            simp only [Act.put, List.setIfInBounds_toArray, List.set_cons_succ, List.set_cons_zero]
            refine reads_cons (ckv) (fun w' hw' => rd_load (ld36 (node_cells hw'.1).2.1) rfl rfl) ?_
            simp only [Act.put, List.setIfInBounds_toArray, List.set_cons_succ, List.set_cons_zero]
            refine reads_cons (.pointer (some ⟨rb, 0, none⟩)) (fun w' hw' => rfl) ?_
            simp only [Act.put, List.setIfInBounds_toArray, List.set_cons_succ, List.set_cons_zero]
            refine reads_cons (.pointer (some ⟨rb, 0, none⟩)) (fun w' hw' => rfl) ?_
            simp only [Act.put, List.setIfInBounds_toArray, List.set_cons_succ, List.set_cons_zero]
            refine reads_cons (.pointer (some ⟨rb, 1, none⟩)) (fun w' hw' => rd_field (fld71_1 rb w') rfl rfl) ?_
            simp only [Act.put, List.setIfInBounds_toArray, List.set_cons_succ, List.set_cons_zero]
            refine reads_cons (.slice (some ⟨kl, 0, none⟩) (q + 2) klc) (fun w' hw' => rd_load (ld36 (node_cells hw'.2.1).2.1) rfl rfl) ?_
            simp only [Act.put, List.setIfInBounds_toArray, List.set_cons_succ, List.set_cons_zero]
            refine reads_cons (.pointer (some ⟨kl, 0, none⟩)) (fun w' hw' => rd_index (ix36 w' (by omega) (by omega)) rfl rfl rfl) ?_
            simp only [Act.put, List.setIfInBounds_toArray, List.set_cons_succ, List.set_cons_zero]
            refine reads_cons (.pointer (some ⟨rz.b, 0, none⟩)) (fun w' hw' => rd_load (ld32 (OwnN.cell hw'.2.2 (by simp [HK2.out.1]) (show (rz :: rka)[0]? = some rz from rfl))) rfl rfl) ?_
            simp only [Act.put, List.setIfInBounds_toArray, List.set_cons_succ, List.set_cons_zero]
            refine reads_nil ?_
            have S1 := S0.alloc (.cells #[.pointer (some ⟨rz.b, 0, none⟩)] 32)
            have e1a := S1.h.ok (Res.node cb crv2 ckv) (by simp)
            have e2a := S1.h.ok (Res.node rb (.slice (some ⟨qg2, 0, none⟩) q qcap2) (.slice (some ⟨kl, 0, none⟩) (q + 2) klc)) (by simp)
            have e3a := S1.h.ok (Res.rowN (.slice (some ⟨kl, 0, none⟩) (q + 2) klc) (rz :: rka)) (by simp)
            refine seq_value (.slice (some ⟨W.drew.heap.size, 0, none⟩) 1 1) _ (rd_build (bs36 _ _) rfl rfl) (fun _ => ⟨e1a, e2a, e3a⟩) ?_
            simp only [Act.put, List.setIfInBounds_toArray, List.set_cons_succ, List.set_cons_zero]
            refine seq_op (appN_st [Res.node nb (.slice (some ⟨rg, 0, none⟩) m rcap) (.slice (some ⟨kg, 0, none⟩) n kcap), Res.rowE (.slice (some ⟨rg, 0, none⟩) m rcap) (r1 ++ y :: r2), Res.rowN (.slice (some ⟨kg, 0, none⟩) n kcap) (k1 ++ c :: r :: k2), Res.node cb crv2 ckv, Res.rowE crv2 (crs ++ [x])] (Res.node rb (.slice (some ⟨qg2, 0, none⟩) q qcap2) (.slice (some ⟨kl, 0, none⟩) (q + 2) klc) :: Res.rowE (.slice (some ⟨qg2, 0, none⟩) q qcap2) ra :: Res.rowN (.slice (some ⟨kl, 0, none⟩) (q + 2) klc) (rz :: rka) :: Rest) _ _ rfl S1 rfl rfl (by have := HK2.out.2; omega) ?_)
            intro zg zcap w3 S3
            obtain ⟨zn, hzn⟩ : ∃ zn, zn = (cks ++ [rz]).length := ⟨_, rfl⟩
            rw [← hzn] at S3 ⊢
            have e1c := S3.h.ok (Res.node cb crv2 ckv) (by simp)
            have e2c := S3.h.ok (Res.node rb (.slice (some ⟨qg2, 0, none⟩) q qcap2) (.slice (some ⟨kl, 0, none⟩) (q + 2) klc)) (by simp)
            have e3c := S3.h.ok (Res.rowN (.slice (some ⟨kl, 0, none⟩) (q + 2) klc) (rz :: rka)) (by simp)
            refine ⟨fun _ => ⟨e1c, e2c, e3c⟩, ?_⟩
            simp only [Act.put, List.setIfInBounds_toArray, List.set_cons_succ, List.set_cons_zero]
            obtain ⟨g0, g1, gf0, gf1, glt⟩ := node_cells e1c
            refine seq_value (.pointer (some ⟨cb, 0, none⟩)) w3 rfl (fun _ => ⟨e1c, e2c, e3c⟩) ?_
            simp only [Act.put, List.setIfInBounds_toArray, List.set_cons_succ, List.set_cons_zero]
            refine seq_value (.pointer (some ⟨cb, 1, none⟩)) w3 (rd_field (fld71_1 cb w3) rfl rfl) (fun _ => ⟨e1c, e2c, e3c⟩) ?_
            simp only [Act.put, List.setIfInBounds_toArray, List.set_cons_succ, List.set_cons_zero]
            refine seq_skip (w3.setCell ⟨cb, 1, none⟩ (.slice (some ⟨zg, 0, none⟩) zn zcap)) (rd_store (st36 (some ⟨zg, 0, none⟩) zn zcap g1 gf1) rfl rfl rfl) (fun h => absurd rfl h) ?_
            simp only [Act.put, List.setIfInBounds_toArray, List.set_cons_succ, List.set_cons_zero]
            refine seq_nil ?_
            have S4 := St.set1 [Res.node nb (.slice (some ⟨rg, 0, none⟩) m rcap) (.slice (some ⟨kg, 0, none⟩) n kcap), Res.rowE (.slice (some ⟨rg, 0, none⟩) m rcap) (r1 ++ y :: r2), Res.rowN (.slice (some ⟨kg, 0, none⟩) n kcap) (k1 ++ c :: r :: k2)] _ (S3.perm (by rfl)) (.slice (some ⟨zg, 0, none⟩) zn zcap)
            have HS4 : Hid (St w0 o (w3.setCell ⟨cb, 1, none⟩ (.slice (some ⟨zg, 0, none⟩) zn zcap)) _) := S4
            clear S0 S1 S3 S4 hzn
            go_wp2_with fail
            go_meet
            case rel => exact ⟨_, HS4.out⟩
          case rest =>
            obtain ⟨ckv2, S0⟩ := hcut
            clear HS2
            obtain ⟨u0', u1', uf0', uf1', ult'⟩ := node_cells (S0.h.ok (Res.node rb (.slice (some ⟨qg2, 0, none⟩) q qcap2) (.slice (some ⟨kl, 0, none⟩) (q + 2) klc)) (by simp))
            have HDN : Hid (Calls Try.prog 41 #[.slice (some ⟨kl, 0, none⟩) (q + 2) klc, .int .i64 0, .int .i64 1] wc (RowNSays w0 o [Res.node nb (.slice (some ⟨rg, 0, none⟩) m rcap) (.slice (some ⟨kg, 0, none⟩) n kcap), Res.rowE (.slice (some ⟨rg, 0, none⟩) m rcap) (r1 ++ y :: r2), Res.rowN (.slice (some ⟨kg, 0, none⟩) n kcap) (k1 ++ c :: r :: k2), Res.node cb crv2 ckv2, Res.rowE crv2 (crs ++ [x]), Res.rowN ckv2 (cks ++ [rz]), Res.node rb (.slice (some ⟨qg2, 0, none⟩) q qcap2) (.slice (some ⟨kl, 0, none⟩) (q + 2) klc), Res.rowE (.slice (some ⟨qg2, 0, none⟩) q qcap2) ra] Rest ([] ++ rka))) :=
              delN_st [Res.node nb (.slice (some ⟨rg, 0, none⟩) m rcap) (.slice (some ⟨kg, 0, none⟩) n kcap), Res.rowE (.slice (some ⟨rg, 0, none⟩) m rcap) (r1 ++ y :: r2), Res.rowN (.slice (some ⟨kg, 0, none⟩) n kcap) (k1 ++ c :: r :: k2), Res.node cb crv2 ckv2, Res.rowE crv2 (crs ++ [x]), Res.rowN ckv2 (cks ++ [rz]), Res.node rb (.slice (some ⟨qg2, 0, none⟩) q qcap2) (.slice (some ⟨kl, 0, none⟩) (q + 2) klc), Res.rowE (.slice (some ⟨qg2, 0, none⟩) q qcap2) ra] Rest (l1 := []) (l2 := [rz]) (l3 := rka) (i := 0) (j := 1) S0 (by have := HK2.out.1; simp; omega) (by omega) rfl rfl (by simp)
            clear S0
            go_wp2_with (go_at_call 41; refine HDN.out.mono ?_; rintro e w2 ⟨g2, cp2, rfl, S3⟩; obtain ⟨yn, hyn⟩ : ∃ yn, yn = ([] ++ rka).length := ⟨_, rfl⟩; rw [← hyn] at S3 ⊢; clear hyn; obtain ⟨d0, d1, df0, df1, dlt⟩ := node_cells (S3.h.ok (Res.node rb (.slice (some ⟨qg2, 0, none⟩) q qcap2) (.slice (some ⟨kl, 0, none⟩) (q + 2) klc)) (by simp)); have HS3 : Hid (St w0 o (w2.setCell ⟨rb, 1, none⟩ (.slice (some ⟨g2, 0, none⟩) yn cp2)) _) := St.set1 [Res.node nb (.slice (some ⟨rg, 0, none⟩) m rcap) (.slice (some ⟨kg, 0, none⟩) n kcap), Res.rowE (.slice (some ⟨rg, 0, none⟩) m rcap) (r1 ++ y :: r2), Res.rowN (.slice (some ⟨kg, 0, none⟩) n kcap) (k1 ++ c :: r :: k2), Res.node cb crv2 ckv2, Res.rowE crv2 (crs ++ [x]), Res.rowN ckv2 (cks ++ [rz])] _ S3 (.slice (some ⟨g2, 0, none⟩) yn cp2); clear S3)
            try go_returns
            have S5 := HS3.out
            rw [List.nil_append] at S5
            exact ⟨_, _, _, _, _, rfl, S5⟩

end Go.Proofs.Qxb6601706a
