import Derived.Test.Qxb6601706aApp
import Derived.Test.Qxb6601706aSlN3
import Derived.Test.Qxb6601706aSetP2
import Derived.Test.Qxb6601706aOps2
namespace Go.Proofs.Qxb6601706a
open Go.RowKit
set_option linter.unusedVariables false
set_option linter.unusedSimpArgs false

theorem rd_app {P : Program} {o : Oper} {a : Act} {w w' : World} {v : Value} {t : TypeId} {x y : Operand} {u z : Value} (h : (Builtin.append_ #[t, t] o.type #[u, z]).run P w = .ok v w') (ho : o.op = .call { callee := .builtin .append, args := #[x, y], argTypes := #[t, t] }) (hx : a.eval x = u) (hy : a.eval y = z) : (execOp a.eval o).run P w = .ok (.value v) w' := by
  simp [execOp, ho, hx, hy, resolve, invoke, builtin, h]

theorem merge_del {w0 w : World} {o : List Nat} {nb kg n kcap i : Nat} {rv : Value} {rs : List Ent} {ks1 ks2 : List Kid} {l r : Kid} {B : List Res}
    (S : St w0 o w (Res.node nb rv (.slice (some ⟨kg, 0, none⟩) n kcap) :: Res.rowE rv rs :: Res.rowN (.slice (some ⟨kg, 0, none⟩) n kcap) (ks1 ++ l :: r :: ks2) :: B)) (hi : ks1.length = i) (hn : n = (ks1 ++ l :: r :: ks2).length) (h64 : n ≤ 64) :
    Calls Try.prog 41 #[.slice (some ⟨kg, 0, none⟩) n kcap, .int .i64 ((i : Int) + 1), .int .i64 ((i : Int) + 2)] w (RowNIn w0 o [Res.node nb rv (.slice (some ⟨kg, 0, none⟩) n kcap), Res.rowE rv rs] B kg ((ks1 ++ [l]) ++ ks2)) := by
  have := delN_st_in [Res.node nb rv (.slice (some ⟨kg, 0, none⟩) n kcap), Res.rowE rv rs] B (l1 := ks1 ++ [l]) (l2 := [r]) (l3 := ks2) (i := i + 1) (j := i + 2) (by simpa using S) (by rw [hn]; simp; omega) (by omega) (by simp; omega) (by simp; omega) (by simp)
  rw [show ((i + 1 : Nat) : Int) = (i : Int) + 1 by omega, show ((i + 2 : Nat) : Int) = (i : Int) + 2 by omega] at this
  exact this

def MergeSays (w0 : World) (o : List Nat) (kg nb lb : Nat) (rs1 rs2 lrs rrs : List Ent) (x : Ent) (ks1 : List Kid) (l : Kid) (ks2 lks rks : List Kid) (Rest : List Res) (e : Ending) (w' : World) : Prop :=
  ∃ rv kv lrv lkv, e = .returned (.tuple #[]) ∧ (∃ n cap, kv = .slice (some ⟨kg, 0, none⟩) n cap) ∧ St w0 o w' (Res.node nb rv kv :: Res.rowE rv (rs1 ++ rs2) :: Res.rowN kv (ks1 ++ l :: ks2) :: Res.node lb lrv lkv :: Res.rowE lrv (lrs ++ x :: rrs) :: Res.rowN lkv (lks ++ rks) :: Rest)

set_option maxHeartbeats 8000000 in
set_option maxRecDepth 100000 in
theorem merge42 {w0 w : World} {o : List Nat} {nb lb rb : Nat} {rv kv lrv lkv rrv rkv : Value} {rs1 rs2 lrs rrs : List Ent} {x : Ent} {ks1 ks2 lks rks : List Kid} {l r : Kid} {Rest : List Res}
    (s : St w0 o w (Res.node nb rv kv :: Res.rowE rv (rs1 ++ x :: rs2) :: Res.rowN kv (ks1 ++ l :: r :: ks2) :: Res.node lb lrv lkv :: Res.rowE lrv lrs :: Res.rowN lkv lks :: Res.node rb rrv rkv :: Res.rowE rrv rrs :: Res.rowN rkv rks :: Rest))
    {kg0 : Nat} (hkg0 : ∃ n0 c0, kv = .slice (some ⟨kg0, 0, none⟩) n0 c0) (hlb : l.b = lb) (hrb : r.b = rb) (hl : lrs.length = 31) (hr : rrs.length = 31) (i : Nat) (hi1 : ks1.length = i) (hi2 : rs1.length = i) (hlen : rs1.length + rs2.length ≤ 62) (h2 : ks2.length = rs2.length) (hk : (lks.length = 0 ∧ rks.length = 0) ∨ (lks.length = 32 ∧ rks.length = 32)) :
    Calls Try.prog 42 #[.pointer (some ⟨nb, 0, none⟩), .int .i64 i] w (MergeSays w0 o kg0 nb lb rs1 rs2 lrs rrs x ks1 l ks2 lks rks Rest) := by
  have hkv : OwnN w kv (ks1 ++ l :: r :: ks2) := s.h.ok (Res.rowN kv (ks1 ++ l :: r :: ks2)) (by simp)
  have hrv : OwnE w 52 rv (rs1 ++ x :: rs2) := s.h.ok (Res.rowE rv (rs1 ++ x :: rs2)) (by simp)
  have hrr : OwnE w 52 rrv rrs := s.h.ok (Res.rowE rrv rrs) (by simp)
  obtain ⟨n0, n1, nf0, nf1, nlt⟩ := node_cells (s.h.ok (Res.node nb rv kv) (by simp))
  rcases hkv.form with ⟨_, h⟩ | ⟨kg, kcap, hkvf, hkg, hkn, hkc⟩
  · simp at h
  rcases hrv.form with ⟨_, h⟩ | ⟨rg, rcap, hrvf, hrg, hrn, hrc⟩
  · simp at h
  rcases hrr.form with ⟨_, h⟩ | ⟨qg, qcap, hrrf, hqg, hqn, hqc⟩
  · rw [h] at hr; simp at hr
  obtain ⟨n, hn⟩ : ∃ n, n = (ks1 ++ l :: r :: ks2).length := ⟨_, rfl⟩
  obtain ⟨m, hm⟩ : ∃ m, m = (rs1 ++ x :: rs2).length := ⟨_, rfl⟩
  rw [← hn] at hkvf hkn
  rw [← hm] at hrvf hrn
  have hc0 : w.cell? ⟨kg, i, none⟩ = some (.pointer (some ⟨lb, 0, none⟩)) := by
    rw [← hlb]; exact OwnN.cell (n := n) (by rw [← hkvf]; exact hkv) hn (by simp [← hi1])
  have hc1 : w.cell? ⟨kg, i + 1, none⟩ = some (.pointer (some ⟨rb, 0, none⟩)) := by
    rw [← hrb]; exact OwnN.cell (n := n) (by rw [← hkvf]; exact hkv) hn (by rw [List.getElem?_append_right (by omega), show i + 1 - ks1.length = 1 by omega]; rfl)
  have hkk : kg0 = kg := by obtain ⟨n0, c0, h⟩ := hkg0; rw [h] at hkvf; simp at hkvf; exact hkvf.1
  subst hkk
  clear hkg0
  subst hkvf hrvf hrrf
  have hnn : i + 1 < n ∧ n ≤ 64 := by rw [hn]; simp; omega
  have hmm : i < m ∧ m ≤ 63 := by rw [hm]; simp; omega
  have hin : i < n := by omega
  have hin1 : (i : Int) + 1 < n := by omega
  have hin64 := hnn.2
  have HF : Hid (ks1.length = i ∧ rs1.length = i ∧ ks2.length = rs2.length ∧ lrs.length = 31 ∧ rrs.length = 31 ∧ n = (ks1 ++ l :: r :: ks2).length ∧ m = (rs1 ++ x :: rs2).length ∧ ((lks.length = 0 ∧ rks.length = 0) ∨ (lks.length = 32 ∧ rks.length = 32)) ∧ rs1.length + rs2.length ≤ 62 ∧ i < m ∧ m ≤ 63 ∧ i + 1 < n ∧ n ≤ 64) := ⟨hi1, hi2, h2, hl, hr, hn, hm, hk, hlen, hmm.1, hmm.2, hnn.1, hnn.2⟩
  have HS : Hid (St w0 o w _) := s
  clear s hkv hrv hrr hi1 hi2 h2 hl hr hn hm hk hlen hmm hlb hrb hnn
  go_enter Try.func42, Try.ntmps42
  go_upto_region 0 with (fail)
  go_quiet (fail)
  go_upto_region 1 with (fail)
  go_cut [] (fun wx => ∃ lrv', St w0 o wx ([Res.node nb (.slice (some ⟨rg, 0, none⟩) m rcap) (.slice (some ⟨kg0, 0, none⟩) n kcap), Res.rowE (.slice (some ⟨rg, 0, none⟩) m rcap) (rs1 ++ x :: rs2), Res.rowN (.slice (some ⟨kg0, 0, none⟩) n kcap) (ks1 ++ l :: r :: ks2)] ++ Res.node lb lrv' lkv :: Res.rowE lrv' (lrs ++ x :: rrs) :: Res.rowN lkv lks :: Res.node rb (.slice (some ⟨qg, 0, none⟩) rrs.length qcap) rkv :: Res.rowE (.slice (some ⟨qg, 0, none⟩) rrs.length qcap) rrs :: Res.rowN rkv rks :: Rest))
  case first =>
    as_aux_lemma =>
      obtain ⟨W, hW⟩ : ∃ W, W = w.drewN nq := ⟨_, rfl⟩
      have S0 := (HS.out.drewN nq)
      rw [← hW] at S0 ⊢
      replace S0 := S0.drew
      clear hW HS
      have e1 := S0.h.ok (Res.node lb lrv lkv) (by simp)
      have e2 := S0.h.ok (Res.node nb (.slice (some ⟨rg, 0, none⟩) m rcap) (.slice (some ⟨kg0, 0, none⟩) n kcap)) (by simp)
      have e3 := S0.h.ok (Res.rowE (.slice (some ⟨rg, 0, none⟩) m rcap) (rs1 ++ x :: rs2)) (by simp)
      have e4 := S0.h.ok (Res.node rb (.slice (some ⟨qg, 0, none⟩) rrs.length qcap) rkv) (by simp)
      refine region_lexL [0, 1, 2, 3, 4, 5, 6, 7, 8, 9, 10, 11, 14, 15, 16, 17] [12, 13, 18, 19, 20, 21] 21 (fun w' => w'.heap[lb]? = some (.cells #[lrv, lkv] 71 (0, 0)) ∧ w'.heap[nb]? = some (.cells #[.slice (some ⟨rg, 0, none⟩) m rcap, .slice (some ⟨kg0, 0, none⟩) n kcap] 71 (0, 0)) ∧ OwnE w' 52 (.slice (some ⟨rg, 0, none⟩) m rcap) (rs1 ++ x :: rs2) ∧ w'.heap[rb]? = some (.cells #[.slice (some ⟨qg, 0, none⟩) rrs.length qcap, rkv] 71 (0, 0))) (by kernel_rfl) (by kernel_rfl) (fun _ _ d _ _ h => by cases d <;> exact h) ⟨e1, e2, e3, e4⟩ ?_
      refine reads_cons (.pointer (some ⟨lb, 0, none⟩)) (fun w' hw' => rfl) ?_
      simp only [Act.put, List.setIfInBounds_toArray, List.set_cons_succ, List.set_cons_zero]
      refine reads_cons (.pointer (some ⟨lb, 0, none⟩)) (fun w' hw' => rfl) ?_
      simp only [Act.put, List.setIfInBounds_toArray, List.set_cons_succ, List.set_cons_zero]
      refine reads_cons (.pointer (some ⟨lb, 0, none⟩)) (fun w' hw' => rfl) ?_
      simp only [Act.put, List.setIfInBounds_toArray, List.set_cons_succ, List.set_cons_zero]
      refine reads_cons (.pointer (some ⟨lb, 0, none⟩)) (fun w' hw' => rd_field (fld71_0 lb w') rfl rfl) ?_
      simp only [Act.put, List.setIfInBounds_toArray, List.set_cons_succ, List.set_cons_zero]
      refine reads_cons (lrv) (fun w' hw' => rd_load (ld35 (node_cells hw'.1).1) rfl rfl) ?_
      simp only [Act.put, List.setIfInBounds_toArray, List.set_cons_succ, List.set_cons_zero]
      refine reads_cons (.pointer (some ⟨nb, 0, none⟩)) (fun w' hw' => rfl) ?_
      simp only [Act.put, List.setIfInBounds_toArray, List.set_cons_succ, List.set_cons_zero]
      refine reads_cons (.pointer (some ⟨nb, 0, none⟩)) (fun w' hw' => rfl) ?_
      simp only [Act.put, List.setIfInBounds_toArray, List.set_cons_succ, List.set_cons_zero]
      refine reads_cons (.pointer (some ⟨nb, 0, none⟩)) (fun w' hw' => rd_field (fld71_0 nb w') rfl rfl) ?_
      simp only [Act.put, List.setIfInBounds_toArray, List.set_cons_succ, List.set_cons_zero]
      refine reads_cons (.slice (some ⟨rg, 0, none⟩) m rcap) (fun w' hw' => rd_load (ld35 (node_cells hw'.2.1).1) rfl rfl) ?_
      simp only [Act.put, List.setIfInBounds_toArray, List.set_cons_succ, List.set_cons_zero]
      refine reads_cons (.int .i64 i) (fun w' hw' => rfl) ?_
      simp only [Act.put, List.setIfInBounds_toArray, List.set_cons_succ, List.set_cons_zero]
      refine reads_cons (.pointer (some ⟨rg, i * 4, none⟩)) (fun w' hw' => rd_index (ix35 w' HF.out.2.2.2.2.2.2.2.2.2.1 (by have := HF.out.2.2.2.2.2.2.2.2.2.2.1; omega)) rfl rfl rfl) ?_
      simp only [Act.put, List.setIfInBounds_toArray, List.set_cons_succ, List.set_cons_zero]
      refine reads_cons (.agg #[.string x.key, .slice x.va x.vl x.vc, .int .u64 x.rev, .int .u64 x.lease]) (fun w' hw' => rd_load (ld52 (OwnE.cell hw'.2.2.1 HF.out.2.2.2.2.2.2.1 (by simp [← HF.out.2.1])).1 (OwnE.cell hw'.2.2.1 HF.out.2.2.2.2.2.2.1 (by simp [← HF.out.2.1])).2.1 (OwnE.cell hw'.2.2.1 HF.out.2.2.2.2.2.2.1 (by simp [← HF.out.2.1])).2.2.1 (OwnE.cell hw'.2.2.1 HF.out.2.2.2.2.2.2.1 (by simp [← HF.out.2.1])).2.2.2) rfl rfl) ?_
      simp only [Act.put, List.setIfInBounds_toArray, List.set_cons_succ, List.set_cons_zero]
      refine reads_cons (.pointer (some ⟨rb, 0, none⟩)) (fun w' hw' => rfl) ?_
      simp only [Act.put, List.setIfInBounds_toArray, List.set_cons_succ, List.set_cons_zero]
      refine reads_cons (.pointer (some ⟨rb, 0, none⟩)) (fun w' hw' => rfl) ?_
      simp only [Act.put, List.setIfInBounds_toArray, List.set_cons_succ, List.set_cons_zero]
      refine reads_cons (.pointer (some ⟨rb, 0, none⟩)) (fun w' hw' => rd_field (fld71_0 rb w') rfl rfl) ?_
      simp only [Act.put, List.setIfInBounds_toArray, List.set_cons_succ, List.set_cons_zero]
      refine reads_cons (.slice (some ⟨qg, 0, none⟩) rrs.length qcap) (fun w' hw' => rd_load (ld35 (node_cells hw'.2.2.2).1) rfl rfl) ?_
      simp only [Act.put, List.setIfInBounds_toArray, List.set_cons_succ, List.set_cons_zero]
      refine reads_nil ?_
      have S1 := S0.alloc (.cells #[.string x.key, .slice x.va x.vl x.vc, .int .u64 x.rev, .int .u64 x.lease] 52)
      have e1a := S1.h.ok (Res.node lb lrv lkv) (by simp)
      have e2a := S1.h.ok (Res.node nb (.slice (some ⟨rg, 0, none⟩) m rcap) (.slice (some ⟨kg0, 0, none⟩) n kcap)) (by simp)
      have e3a := S1.h.ok (Res.rowE (.slice (some ⟨rg, 0, none⟩) m rcap) (rs1 ++ x :: rs2)) (by simp)
      have e4a := S1.h.ok (Res.node rb (.slice (some ⟨qg, 0, none⟩) rrs.length qcap) rkv) (by simp)
      refine seq_value (.slice (some ⟨W.drew.heap.size, 0, none⟩) 1 1) _ (rd_build (bs35 _ _ _ _ _ rfl rfl rfl rfl) rfl rfl) (fun _ => ⟨e1a, e2a, e3a, e4a⟩) ?_
      simp only [Act.put, List.setIfInBounds_toArray, List.set_cons_succ, List.set_cons_zero]
      refine seq_op (appE_st [Res.node nb (.slice (some ⟨rg, 0, none⟩) m rcap) (.slice (some ⟨kg0, 0, none⟩) n kcap), Res.rowE (.slice (some ⟨rg, 0, none⟩) m rcap) (rs1 ++ x :: rs2), Res.rowN (.slice (some ⟨kg0, 0, none⟩) n kcap) (ks1 ++ l :: r :: ks2), Res.node lb lrv lkv] (Res.rowN lkv lks :: Res.node rb (.slice (some ⟨qg, 0, none⟩) rrs.length qcap) rkv :: Res.rowE (.slice (some ⟨qg, 0, none⟩) rrs.length qcap) rrs :: Res.rowN rkv rks :: Rest) _ _ rfl S1 rfl rfl (by have := HF.out.2.2.2.1; omega) ?_)
      intro g2 cap2 w2 S2
      have e1b := S2.h.ok (Res.node lb lrv lkv) (by simp)
      have e2b := S2.h.ok (Res.node nb (.slice (some ⟨rg, 0, none⟩) m rcap) (.slice (some ⟨kg0, 0, none⟩) n kcap)) (by simp)
      have e3b := S2.h.ok (Res.rowE (.slice (some ⟨rg, 0, none⟩) m rcap) (rs1 ++ x :: rs2)) (by simp)
      have e4b := S2.h.ok (Res.node rb (.slice (some ⟨qg, 0, none⟩) rrs.length qcap) rkv) (by simp)
      refine ⟨fun _ => ⟨e1b, e2b, e3b, e4b⟩, ?_⟩
      simp only [Act.put, List.setIfInBounds_toArray, List.set_cons_succ, List.set_cons_zero]
      refine seq_op (appEs_st [Res.node nb (.slice (some ⟨rg, 0, none⟩) m rcap) (.slice (some ⟨kg0, 0, none⟩) n kcap), Res.rowE (.slice (some ⟨rg, 0, none⟩) m rcap) (rs1 ++ x :: rs2), Res.rowN (.slice (some ⟨kg0, 0, none⟩) n kcap) (ks1 ++ l :: r :: ks2), Res.node lb lrv lkv] [Res.rowN lkv lks, Res.node rb (.slice (some ⟨qg, 0, none⟩) rrs.length qcap) rkv] (Res.rowN rkv rks :: Rest) _ _ rfl S2 rfl rfl (by have := HF.out.2.2.2.1; simp; omega) (by have := HF.out.2.2.2.2.1; omega) (by have := HF.out.2.2.2.2.1; omega) ?_)
      intro g3 cap3 w3 S3
      have e1c := S3.h.ok (Res.node lb lrv lkv) (by simp)
      have e2c := S3.h.ok (Res.node nb (.slice (some ⟨rg, 0, none⟩) m rcap) (.slice (some ⟨kg0, 0, none⟩) n kcap)) (by simp)
      have e3c := S3.h.ok (Res.rowE (.slice (some ⟨rg, 0, none⟩) m rcap) (rs1 ++ x :: rs2)) (by simp)
      have e4c := S3.h.ok (Res.node rb (.slice (some ⟨qg, 0, none⟩) rrs.length qcap) rkv) (by simp)
      refine ⟨fun _ => ⟨e1c, e2c, e3c, e4c⟩, ?_⟩
      simp only [Act.put, List.setIfInBounds_toArray, List.set_cons_succ, List.set_cons_zero]
      obtain ⟨zn, hzn⟩ : ∃ zn, zn = (lrs ++ [x] ++ rrs).length := ⟨_, rfl⟩
      rw [← hzn] at S3 ⊢
      obtain ⟨g0, g1, gf0, gf1, glt⟩ := node_cells e1c
      refine seq_value (.pointer (some ⟨lb, 0, none⟩)) w3 rfl (fun _ => ⟨e1c, e2c, e3c, e4c⟩) ?_
      simp only [Act.put, List.setIfInBounds_toArray, List.set_cons_succ, List.set_cons_zero]
      refine seq_value (.pointer (some ⟨lb, 0, none⟩)) w3 (rd_field (fld71_0 lb w3) rfl rfl) (fun _ => ⟨e1c, e2c, e3c, e4c⟩) ?_
      simp only [Act.put, List.setIfInBounds_toArray, List.set_cons_succ, List.set_cons_zero]
      refine seq_skip (w3.setCell ⟨lb, 0, none⟩ (.slice (some ⟨g3, 0, none⟩) zn cap3)) (rd_store (st35 (some ⟨g3, 0, none⟩) zn cap3 g0 gf0) rfl rfl rfl) (fun h => absurd rfl h) ?_
      simp only [Act.put, List.setIfInBounds_toArray, List.set_cons_succ, List.set_cons_zero]
      refine seq_nil ?_
      have S4 := St.set0 [Res.node nb (.slice (some ⟨rg, 0, none⟩) m rcap) (.slice (some ⟨kg0, 0, none⟩) n kcap), Res.rowE (.slice (some ⟨rg, 0, none⟩) m rcap) (rs1 ++ x :: rs2), Res.rowN (.slice (some ⟨kg0, 0, none⟩) n kcap) (ks1 ++ l :: r :: ks2)] _ (S3.perm (by rfl)) (.slice (some ⟨g3, 0, none⟩) zn cap3)
      rw [List.append_assoc, List.singleton_append] at S4
      have HS4 : Hid (St w0 o (w3.setCell ⟨lb, 0, none⟩ (.slice (some ⟨g3, 0, none⟩) zn cap3)) _) := S4
      clear S0 S1 S2 S3 S4
      go_wp2_with fail
      go_meet
      case rel => exact ⟨_, HS4.out⟩
  case rest =>
    go_upto_region 2 with (fail)
    go_cut [] (fun wx => ∃ lrv' lkv', St w0 o wx ([Res.node nb (.slice (some ⟨rg, 0, none⟩) m rcap) (.slice (some ⟨kg0, 0, none⟩) n kcap), Res.rowE (.slice (some ⟨rg, 0, none⟩) m rcap) (rs1 ++ x :: rs2), Res.rowN (.slice (some ⟨kg0, 0, none⟩) n kcap) (ks1 ++ l :: r :: ks2)] ++ Res.node lb lrv' lkv' :: Res.rowE lrv' (lrs ++ x :: rrs) :: Res.rowN lkv' (lks ++ rks) :: Res.node rb (.slice (some ⟨qg, 0, none⟩) rrs.length qcap) rkv :: Res.rowE (.slice (some ⟨qg, 0, none⟩) rrs.length qcap) rrs :: Res.rowN rkv rks :: Rest))
    case first =>
      rcases HF.out.2.2.2.2.2.2.2.1 with ⟨hk1, hk2⟩ | ⟨hk1, hk2⟩
      · obtain rfl : lks = [] := List.eq_nil_of_length_eq_zero hk1
        obtain rfl : rks = [] := List.eq_nil_of_length_eq_zero hk2
        obtain ⟨la, lln, lcap, rfl, hlc⟩ : ∃ la lln lcap, lkv = .slice la lln lcap ∧ lln ≤ lcap := by
          have hown : OwnN w lkv [] := HS.out.h.ok (Res.rowN lkv []) (by simp)
          rcases hown.form with ⟨h1, _⟩ | ⟨g, c, h1, _, h2, _⟩
          · exact ⟨_, _, _, h1, Nat.le_refl _⟩
          · exact ⟨_, _, _, h1, h2⟩
        obtain ⟨ra, rcp, rfl⟩ : ∃ ra rcp, rkv = .slice ra 0 rcp := by
          have hown : OwnN w rkv [] := HS.out.h.ok (Res.rowN rkv []) (by simp)
          rcases hown.form with ⟨h1, _⟩ | ⟨g, c, h1, _, h2, _⟩
          · exact ⟨_, _, h1⟩
          · exact ⟨_, _, h1⟩
        clear hk1 hk2
        as_aux_lemma =>
          obtain ⟨lrv2, S0'⟩ := hcut
          have S0 := S0'.drew
          clear S0' HS
          have e1 := S0.h.ok (Res.node lb lrv2 (.slice la lln lcap)) (by simp)
          have e4 := S0.h.ok (Res.node rb (.slice (some ⟨qg, 0, none⟩) rrs.length qcap) (.slice ra 0 rcp)) (by simp)
          refine region_lexL [0, 1, 2, 3, 4, 5, 6, 7, 8] [9, 10, 11, 12] 12 (fun w' => w'.heap[lb]? = some (.cells #[lrv2, .slice la lln lcap] 71 (0, 0)) ∧ w'.heap[rb]? = some (.cells #[.slice (some ⟨qg, 0, none⟩) rrs.length qcap, .slice ra 0 rcp] 71 (0, 0))) (by kernel_rfl) (by kernel_rfl) (fun _ _ d _ _ h => by cases d <;> exact h) ⟨e1, e4⟩ ?_
          refine reads_cons (.pointer (some ⟨lb, 0, none⟩)) (fun w' hw' => rfl) ?_
          simp only [Act.put, List.setIfInBounds_toArray, List.set_cons_succ, List.set_cons_zero]
          refine reads_cons (.pointer (some ⟨lb, 0, none⟩)) (fun w' hw' => rfl) ?_
          simp only [Act.put, List.setIfInBounds_toArray, List.set_cons_succ, List.set_cons_zero]
          refine reads_cons (.pointer (some ⟨lb, 0, none⟩)) (fun w' hw' => rfl) ?_
          simp only [Act.put, List.setIfInBounds_toArray, List.set_cons_succ, List.set_cons_zero]
          refine reads_cons (.pointer (some ⟨lb, 1, none⟩)) (fun w' hw' => rd_field (fld71_1 lb w') rfl rfl) ?_
          simp only [Act.put, List.setIfInBounds_toArray, List.set_cons_succ, List.set_cons_zero]
          refine reads_cons (.slice la lln lcap) (fun w' hw' => rd_load (ld36 (node_cells hw'.1).2.1) rfl rfl) ?_
          simp only [Act.put, List.setIfInBounds_toArray, List.set_cons_succ, List.set_cons_zero]
          refine reads_cons (.pointer (some ⟨rb, 0, none⟩)) (fun w' hw' => rfl) ?_
          simp only [Act.put, List.setIfInBounds_toArray, List.set_cons_succ, List.set_cons_zero]
          refine reads_cons (.pointer (some ⟨rb, 0, none⟩)) (fun w' hw' => rfl) ?_
          simp only [Act.put, List.setIfInBounds_toArray, List.set_cons_succ, List.set_cons_zero]
          refine reads_cons (.pointer (some ⟨rb, 1, none⟩)) (fun w' hw' => rd_field (fld71_1 rb w') rfl rfl) ?_
          simp only [Act.put, List.setIfInBounds_toArray, List.set_cons_succ, List.set_cons_zero]
          refine reads_cons (.slice ra 0 rcp) (fun w' hw' => rd_load (ld36 (node_cells hw'.2).2.1) rfl rfl) ?_
          simp only [Act.put, List.setIfInBounds_toArray, List.set_cons_succ, List.set_cons_zero]
          refine reads_nil ?_
          refine seq_value (.slice la lln lcap) wc.drew (rd_app (run_app0 _ _ la ra lln lcap rcp hlc) rfl rfl rfl) (fun _ => ⟨e1, e4⟩) ?_
          simp only [Act.put, List.setIfInBounds_toArray, List.set_cons_succ, List.set_cons_zero]
          obtain ⟨g0, g1, gf0, gf1, glt⟩ := node_cells e1
          refine seq_value (.pointer (some ⟨lb, 0, none⟩)) wc.drew rfl (fun _ => ⟨e1, e4⟩) ?_
          simp only [Act.put, List.setIfInBounds_toArray, List.set_cons_succ, List.set_cons_zero]
          refine seq_value (.pointer (some ⟨lb, 1, none⟩)) wc.drew (rd_field (fld71_1 lb wc.drew) rfl rfl) (fun _ => ⟨e1, e4⟩) ?_
          simp only [Act.put, List.setIfInBounds_toArray, List.set_cons_succ, List.set_cons_zero]
          refine seq_skip _ (rd_store (st36 la lln lcap g1 gf1) rfl rfl rfl) (fun h => absurd rfl h) ?_
          simp only [Act.put, List.setIfInBounds_toArray, List.set_cons_succ, List.set_cons_zero]
          refine seq_nil ?_
          have S4 := St.set1 [Res.node nb (.slice (some ⟨rg, 0, none⟩) m rcap) (.slice (some ⟨kg0, 0, none⟩) n kcap), Res.rowE (.slice (some ⟨rg, 0, none⟩) m rcap) (rs1 ++ x :: rs2), Res.rowN (.slice (some ⟨kg0, 0, none⟩) n kcap) (ks1 ++ l :: r :: ks2)] _ S0 (.slice la lln lcap)
          have HS4 : Hid (St w0 o (wc.drew.setCell ⟨lb, 1, none⟩ (.slice la lln lcap)) _) := S4
          clear S0 S4
          go_wp2_with fail
          go_meet
          case rel => exact ⟨_, _, HS4.out⟩
      · have hne : rks ≠ [] := by intro h; rw [h] at hk2; simp at hk2
        obtain ⟨kqg, kqcap, rfl⟩ : ∃ kqg kqcap, rkv = .slice (some ⟨kqg, 0, none⟩) rks.length kqcap := by
          have hown : OwnN w rkv rks := HS.out.h.ok (Res.rowN rkv rks) (by simp)
          rcases hown.form with ⟨_, h1⟩ | ⟨g, c, h1, _⟩
          · exact absurd h1 hne
          · exact ⟨g, c, h1⟩
        have HK : Hid (lks.length = 32 ∧ rks.length = 32) := ⟨hk1, hk2⟩
        clear hk1 hk2 hne
        as_aux_lemma =>
          obtain ⟨lrv2, S0'⟩ := hcut
          have S0 := S0'.drew
          clear S0' HS
          have e1 := S0.h.ok (Res.node lb lrv2 (lkv)) (by simp)
          have e4 := S0.h.ok (Res.node rb (.slice (some ⟨qg, 0, none⟩) rrs.length qcap) (.slice (some ⟨kqg, 0, none⟩) rks.length kqcap)) (by simp)
          refine region_lexL [0, 1, 2, 3, 4, 5, 6, 7, 8] [9, 10, 11, 12] 12 (fun w' => w'.heap[lb]? = some (.cells #[lrv2, lkv] 71 (0, 0)) ∧ w'.heap[rb]? = some (.cells #[.slice (some ⟨qg, 0, none⟩) rrs.length qcap, .slice (some ⟨kqg, 0, none⟩) rks.length kqcap] 71 (0, 0))) (by kernel_rfl) (by kernel_rfl) (fun _ _ d _ _ h => by cases d <;> exact h) ⟨e1, e4⟩ ?_
          refine reads_cons (.pointer (some ⟨lb, 0, none⟩)) (fun w' hw' => rfl) ?_
          simp only [Act.put, List.setIfInBounds_toArray, List.set_cons_succ, List.set_cons_zero]
          refine reads_cons (.pointer (some ⟨lb, 0, none⟩)) (fun w' hw' => rfl) ?_
          simp only [Act.put, List.setIfInBounds_toArray, List.set_cons_succ, List.set_cons_zero]
          refine reads_cons (.pointer (some ⟨lb, 0, none⟩)) (fun w' hw' => rfl) ?_
          simp only [Act.put, List.setIfInBounds_toArray, List.set_cons_succ, List.set_cons_zero]
          refine reads_cons (.pointer (some ⟨lb, 1, none⟩)) (fun w' hw' => rd_field (fld71_1 lb w') rfl rfl) ?_
          simp only [Act.put, List.setIfInBounds_toArray, List.set_cons_succ, List.set_cons_zero]
          refine reads_cons (lkv) (fun w' hw' => rd_load (ld36 (node_cells hw'.1).2.1) rfl rfl) ?_
          simp only [Act.put, List.setIfInBounds_toArray, List.set_cons_succ, List.set_cons_zero]
          refine reads_cons (.pointer (some ⟨rb, 0, none⟩)) (fun w' hw' => rfl) ?_
          simp only [Act.put, List.setIfInBounds_toArray, List.set_cons_succ, List.set_cons_zero]
          refine reads_cons (.pointer (some ⟨rb, 0, none⟩)) (fun w' hw' => rfl) ?_
          simp only [Act.put, List.setIfInBounds_toArray, List.set_cons_succ, List.set_cons_zero]
          refine reads_cons (.pointer (some ⟨rb, 1, none⟩)) (fun w' hw' => rd_field (fld71_1 rb w') rfl rfl) ?_
          simp only [Act.put, List.setIfInBounds_toArray, List.set_cons_succ, List.set_cons_zero]
          refine reads_cons (.slice (some ⟨kqg, 0, none⟩) rks.length kqcap) (fun w' hw' => rd_load (ld36 (node_cells hw'.2).2.1) rfl rfl) ?_
          simp only [Act.put, List.setIfInBounds_toArray, List.set_cons_succ, List.set_cons_zero]
          refine reads_nil ?_
          refine seq_op (appNs_st [Res.node nb (.slice (some ⟨rg, 0, none⟩) m rcap) (.slice (some ⟨kg0, 0, none⟩) n kcap), Res.rowE (.slice (some ⟨rg, 0, none⟩) m rcap) (rs1 ++ x :: rs2), Res.rowN (.slice (some ⟨kg0, 0, none⟩) n kcap) (ks1 ++ l :: r :: ks2), Res.node lb lrv2 lkv, Res.rowE lrv2 (lrs ++ x :: rrs)] [Res.node rb (.slice (some ⟨qg, 0, none⟩) rrs.length qcap) (.slice (some ⟨kqg, 0, none⟩) rks.length kqcap), Res.rowE (.slice (some ⟨qg, 0, none⟩) rrs.length qcap) rrs] Rest _ _ rfl S0 rfl rfl (by have := HK.out; omega) (by have := HK.out; omega) (by have := HK.out; omega) ?_)
          intro g3 cap3 w3 S3
          have e1c := S3.h.ok (Res.node lb lrv2 (lkv)) (by simp)
          have e4c := S3.h.ok (Res.node rb (.slice (some ⟨qg, 0, none⟩) rrs.length qcap) (.slice (some ⟨kqg, 0, none⟩) rks.length kqcap)) (by simp)
          refine ⟨fun _ => ⟨e1c, e4c⟩, ?_⟩
          simp only [Act.put, List.setIfInBounds_toArray, List.set_cons_succ, List.set_cons_zero]
          obtain ⟨g0, g1, gf0, gf1, glt⟩ := node_cells e1c
          refine seq_value (.pointer (some ⟨lb, 0, none⟩)) w3 rfl (fun _ => ⟨e1c, e4c⟩) ?_
          simp only [Act.put, List.setIfInBounds_toArray, List.set_cons_succ, List.set_cons_zero]
          refine seq_value (.pointer (some ⟨lb, 1, none⟩)) w3 (rd_field (fld71_1 lb w3) rfl rfl) (fun _ => ⟨e1c, e4c⟩) ?_
          simp only [Act.put, List.setIfInBounds_toArray, List.set_cons_succ, List.set_cons_zero]
          refine seq_skip _ (rd_store (st36 (some ⟨g3, 0, none⟩) (lks ++ rks).length cap3 g1 gf1) rfl rfl rfl) (fun h => absurd rfl h) ?_
          simp only [Act.put, List.setIfInBounds_toArray, List.set_cons_succ, List.set_cons_zero]
          refine seq_nil ?_
          have S4 := St.set1 [Res.node nb (.slice (some ⟨rg, 0, none⟩) m rcap) (.slice (some ⟨kg0, 0, none⟩) n kcap), Res.rowE (.slice (some ⟨rg, 0, none⟩) m rcap) (rs1 ++ x :: rs2), Res.rowN (.slice (some ⟨kg0, 0, none⟩) n kcap) (ks1 ++ l :: r :: ks2)] _ (S3.perm (by rfl)) (.slice (some ⟨g3, 0, none⟩) (lks ++ rks).length cap3)
          have HS4 : Hid (St w0 o (w3.setCell ⟨lb, 1, none⟩ (.slice (some ⟨g3, 0, none⟩) (lks ++ rks).length cap3)) _) := S4
          clear S3
          clear S0 S4
          go_wp2_with fail
          go_meet
          case rel => exact ⟨_, _, HS4.out⟩
    case rest =>
      obtain ⟨lrv2, lkv2, S0⟩ := hcut
      clear HS
      obtain ⟨c0, c1, cf0, cf1, clt⟩ := node_cells (S0.h.ok (Res.node nb (.slice (some ⟨rg, 0, none⟩) m rcap) (.slice (some ⟨kg0, 0, none⟩) n kcap)) (by simp))
      have HDE : Hid (Calls Try.prog 38 #[.slice (some ⟨rg, 0, none⟩) m rcap, .int .i64 i, .int .i64 ((i : Int) + 1)] wc (RowESays w0 o [Res.node nb (.slice (some ⟨rg, 0, none⟩) m rcap) (.slice (some ⟨kg0, 0, none⟩) n kcap)] (Res.rowN (.slice (some ⟨kg0, 0, none⟩) n kcap) (ks1 ++ l :: r :: ks2) :: Res.node lb lrv2 lkv2 :: Res.rowE lrv2 (lrs ++ x :: rrs) :: Res.rowN lkv2 (lks ++ rks) :: Res.node rb (.slice (some ⟨qg, 0, none⟩) rrs.length qcap) rkv :: Res.rowE (.slice (some ⟨qg, 0, none⟩) rrs.length qcap) rrs :: Res.rowN rkv rks :: Rest) (rs1 ++ rs2))) := by
        obtain ⟨f1, f2, f3, f4, f5, f6, f7, f8, f9, f10⟩ := HF.out
        have := delE_st [Res.node nb (.slice (some ⟨rg, 0, none⟩) m rcap) (.slice (some ⟨kg0, 0, none⟩) n kcap)] (Res.rowN (.slice (some ⟨kg0, 0, none⟩) n kcap) (ks1 ++ l :: r :: ks2) :: Res.node lb lrv2 lkv2 :: Res.rowE lrv2 (lrs ++ x :: rrs) :: Res.rowN lkv2 (lks ++ rks) :: Res.node rb (.slice (some ⟨qg, 0, none⟩) rrs.length qcap) rkv :: Res.rowE (.slice (some ⟨qg, 0, none⟩) rrs.length qcap) rrs :: Res.rowN rkv rks :: Rest) (l1 := rs1) (l2 := [x]) (l3 := rs2) (i := i) (j := i + 1) S0 (by rw [f7]; simp; omega) (by omega) f2 (by simp; omega) (by simp)
        rw [show ((i + 1 : Nat) : Int) = (i : Int) + 1 by omega] at this
        exact this
      clear S0 n0 n1 nf0 nf1 nlt hc0 hc1
      go_wp2_with (first
        | (go_at_call 38; refine HDE.out.mono ?_; rintro e w1 ⟨g1, cp1, rfl, S1⟩; obtain ⟨zn, hzn⟩ : ∃ zn, zn = (rs1 ++ rs2).length := ⟨_, rfl⟩; rw [← hzn] at S1 ⊢; clear hzn; obtain ⟨a0, a1, af0, af1, alt⟩ := node_cells (S1.h.ok (Res.node nb (.slice (some ⟨rg, 0, none⟩) m rcap) (.slice (some ⟨kg0, 0, none⟩) n kcap)) (by simp)); have S2 := St.set0 [] _ S1 (.slice (some ⟨g1, 0, none⟩) zn cp1); obtain ⟨b0, b1, bf0, bf1, blt⟩ := node_cells (S2.h.ok (Res.node nb (.slice (some ⟨g1, 0, none⟩) zn cp1) (.slice (some ⟨kg0, 0, none⟩) n kcap)) (by simp)); have HDN : Hid (Calls Try.prog 41 #[.slice (some ⟨kg0, 0, none⟩) n kcap, .int .i64 ((i : Int) + 1), .int .i64 ((i : Int) + 2)] (w1.setCell ⟨nb, 0, none⟩ (.slice (some ⟨g1, 0, none⟩) zn cp1)) (RowNIn w0 o [Res.node nb (.slice (some ⟨g1, 0, none⟩) zn cp1) (.slice (some ⟨kg0, 0, none⟩) n kcap), Res.rowE (.slice (some ⟨g1, 0, none⟩) zn cp1) (rs1 ++ rs2)] (Res.node lb lrv2 lkv2 :: Res.rowE lrv2 (lrs ++ x :: rrs) :: Res.rowN lkv2 (lks ++ rks) :: Res.node rb (.slice (some ⟨qg, 0, none⟩) rrs.length qcap) rkv :: Res.rowE (.slice (some ⟨qg, 0, none⟩) rrs.length qcap) rrs :: Res.rowN rkv rks :: Rest) kg0 ((ks1 ++ [l]) ++ ks2))) := merge_del S2 HF.out.1 HF.out.2.2.2.2.2.1 HF.out.2.2.2.2.2.2.2.2.2.2.2.2; clear S1 S2)
        | (go_at_call 41; refine HDN.out.mono ?_; rintro e w2 ⟨cp2, rfl, S3⟩; obtain ⟨yn, hyn⟩ : ∃ yn, yn = ((ks1 ++ [l]) ++ ks2).length := ⟨_, rfl⟩; rw [← hyn] at S3 ⊢; clear hyn; obtain ⟨d0, d1, df0, df1, dlt⟩ := node_cells (S3.h.ok (Res.node nb (.slice (some ⟨g1, 0, none⟩) zn cp1) (.slice (some ⟨kg0, 0, none⟩) n kcap)) (by simp)); have HS3 : Hid (St w0 o (w2.setCell ⟨nb, 1, none⟩ (.slice (some ⟨kg0, 0, none⟩) yn cp2)) _) := St.set1 [] _ S3 (.slice (some ⟨kg0, 0, none⟩) yn cp2); clear S3))
      try go_end0
      have S4 := HS3.out
      rw [show (ks1 ++ [l]) ++ ks2 = ks1 ++ l :: ks2 by simp] at S4
      refine ⟨.slice (some ⟨g1, 0, none⟩) zn cp1, .slice (some ⟨kg0, 0, none⟩) yn cp2, lrv2, lkv2, rfl, ⟨_, _, rfl⟩, S4.sub ?_⟩
      refine List.Sublist.cons_cons _ (List.Sublist.cons_cons _ (List.Sublist.cons_cons _ (List.Sublist.cons_cons _ (List.Sublist.cons_cons _ (List.Sublist.cons_cons _ ?_)))))
      exact (List.sublist_cons_self _ _).trans ((List.sublist_cons_self _ _).trans (List.sublist_cons_self _ _))

end Go.Proofs.Qxb6601706a
