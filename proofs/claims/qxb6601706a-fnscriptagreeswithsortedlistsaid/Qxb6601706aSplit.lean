import Derived.Test.Qxb6601706aSmall
import Derived.Test.Qxb6601706aOps
import Derived.Test.Qxb6601706aSlE2
import Derived.Test.Qxb6601706aSlN2
import Derived.Test.Qxb6601706aStc
import Derived.Deep.DeepCutAuto
import Derived.Deep.CutBlock
import Derived.Deep.RegionHeld3
namespace Go.Proofs.Qxb6601706a
open Go.RowKit
set_option linter.unusedVariables false
set_option linter.unusedSimpArgs false

theorem OwnE.cur {w : World} {g n cap : Nat} {l : List Ent} (h : OwnE w 52 (.slice (some ⟨g, 0, none⟩) n cap) l) : ∃ cur, w.heap[g]? = some (.cells cur 52 (0, 0)) ∧ n = l.length ∧ ∀ i j v, (flatE (l.drop i))[j]? = some v → cur.toList[i * 4 + j]? = some v := by
  rcases h.2 with ⟨h1, _⟩ | ⟨g', cap', cur, hv, _, hg, hnc, hcm, hcs, htk⟩
  · simp at h1
  · simp only [Value.slice.injEq, Option.some.injEq, Addr.mk.injEq, and_true] at hv
    obtain ⟨rfl, rfl, rfl⟩ := hv
    refine ⟨cur, hg, rfl, fun i j v hv => ?_⟩
    rw [← flatE_drop, List.getElem?_drop, ← htk, List.getElem?_take] at hv
    split at hv
    · exact hv
    · cases hv
theorem OwnN.cur {w : World} {g n cap : Nat} {l : List Kid} (h : OwnN w (.slice (some ⟨g, 0, none⟩) n cap) l) : ∃ cur, w.heap[g]? = some (.cells cur 32 (0, 0)) ∧ n = l.length ∧ ∀ i j v, (ptrs (l.drop i))[j]? = some v → cur.toList[i + j]? = some v := by
  rcases h.2 with ⟨h1, _⟩ | ⟨g', cap', cur, hv, _, hg, hnc, hcm, hcs, htk⟩
  · simp at h1
  · simp only [Value.slice.injEq, Option.some.injEq, Addr.mk.injEq, and_true] at hv
    obtain ⟨rfl, rfl, rfl⟩ := hv
    refine ⟨cur, hg, rfl, fun i j v hv => ?_⟩
    rw [← ptrs_drop, List.getElem?_drop, ← htk, List.getElem?_take] at hv
    split at hv
    · simpa using hv
    · cases hv

def Nob (b : Nat) : Kid := ⟨b, 0, [], []⟩

def SplitSays (w0 : World) (o : List Nat) (nb fb : Nat) (rs1 rs2 frs : List Ent) (ks1 : List Kid) (f : Kid) (ks2 fks : List Kid) (Rest : List Res) (e : Ending) (w' : World) : Prop :=
  ∃ up rv kv frv fkv rb rrv rkv, e = .returned (.tuple #[]) ∧ frs[31]? = some up ∧
    St w0 o w' (Res.node nb rv kv :: Res.rowE rv (rs1 ++ up :: rs2) :: Res.rowN kv (ks1 ++ f :: Nob rb :: ks2) :: Res.node fb frv fkv :: Res.rowE frv (frs.take 31) :: Res.rowN fkv (fks.take 32) :: Res.node rb rrv rkv :: Res.rowE rrv (frs.drop 32) :: Res.rowN rkv (fks.drop 32) :: Rest)

set_option maxHeartbeats 4000000 in
set_option maxRecDepth 100000 in
theorem split45 {w0 w : World} {o : List Nat} {nb fb : Nat} {rv kv frv fkv : Value} {rs1 rs2 frs : List Ent} {ks1 ks2 fks : List Kid} {f : Kid} {Rest : List Res}
    (s : St w0 o w (Res.node nb rv kv :: Res.rowE rv (rs1 ++ rs2) :: Res.rowN kv (ks1 ++ f :: ks2) :: Res.node fb frv fkv :: Res.rowE frv frs :: Res.rowN fkv fks :: Rest))
    (hfb : f.b = fb) (hf : frs.length = 63) (i : Nat) (hi1 : ks1.length = i) (hi2 : rs1.length = i) (h2 : ks2.length = rs2.length) (hlen : i + rs2.length < 63) (hfk : fks.length = 0 ∨ fks.length = 64) :
    Calls Try.prog 45 #[.pointer (some ⟨nb, 0, none⟩), .int .i64 i] w (SplitSays w0 o nb fb rs1 rs2 frs ks1 f ks2 fks Rest) := by
  have hkv : OwnN w kv (ks1 ++ f :: ks2) := s.h.ok (Res.rowN kv (ks1 ++ f :: ks2)) (by simp)
  have hfv : OwnE w 52 frv frs := s.h.ok (Res.rowE frv frs) (by simp)
  obtain ⟨n0, n1, nf0, nf1, nlt⟩ := node_cells (s.h.ok (Res.node nb rv kv) (by simp))
  obtain ⟨c0, c1, cf0, cf1, flt⟩ := node_cells (s.h.ok (Res.node fb frv fkv) (by simp))
  rcases hkv.form with ⟨_, h⟩ | ⟨kg, kcap, rfl, hkg, hkn, hkc⟩
  · simp at h
  rcases hfv.form with ⟨_, h⟩ | ⟨fg, fcap, rfl, hfg, hfn, hfc⟩
  · rw [h] at hf; simp at hf
  obtain ⟨n, hn⟩ : ∃ n, n = (ks1 ++ f :: ks2).length := ⟨_, rfl⟩
  have hnl : n = i + rs2.length + 1 := by rw [hn]; simp; omega
  have hin : i < n := by omega
  have hn63 : n ≤ 63 := by omega
  have HIN : Hid (n = i + rs2.length + 1) := hnl
  have hkc0 : w.cell? ⟨kg, i, none⟩ = some (.pointer (some ⟨fb, 0, none⟩)) := by
    rw [← hfb]; exact hkv.cell rfl (by simp [← hi1])
  obtain ⟨cur, hcur, _, hcurx⟩ := hfv.cur
  have HCL : Hid (∀ cap, Calls Try.prog 55 #[.slice (some ⟨fg, 128, none⟩) 31 cap] w (RowSays 52 4 w (.slice none 0 0) 31 (flatE (frs.drop 32)))) := by
    intro cap
    exact cloE fg 128 31 cap cur 52 (flatE (frs.drop 32)) w hcur (by omega) (by omega) (by rw [flatE_length, List.length_drop, hf]) (fun j v hv => hcurx 32 j v hv) (flatE_one1 _)
  rw [hf] at c0 hfn s
  rw [← hn] at n1 hkn s
  have HS : Hid (St w0 o w (Res.node nb rv (.slice (some ⟨kg, 0, none⟩) n kcap) :: Res.rowE rv (rs1 ++ rs2) :: Res.rowN (.slice (some ⟨kg, 0, none⟩) n kcap) (ks1 ++ f :: ks2) :: Res.node fb (.slice (some ⟨fg, 0, none⟩) 63 fcap) fkv :: Res.rowE (.slice (some ⟨fg, 0, none⟩) 63 fcap) frs :: Res.rowN fkv fks :: Rest)) := s
  have HF : Hid (frs.length = 63) := hf
  have HN : Hid (n = (ks1 ++ f :: ks2).length) := hn
  have HI1 : Hid (ks1.length = i) := hi1
  have HI2 : Hid (rs1.length = i) := hi2
  have H2 : Hid (ks2.length = rs2.length) := h2
  have HFB : Hid (f.b = fb) := hfb
  have HFK : Hid (fks.length = 0 ∨ fks.length = 64) := hfk
  clear s hkv hfv hcur hcurx hn hnl hf hi1 hi2 h2 hfb hfk
  unfold maxLen at hfc hkc
  have hfc2 : ¬ (fcap = 32) := by omega
  go_enter Try.func45, Try.ntmps45
  go_upto_if 24 with (first
    | (go_at_call 55; refine (HCL.out _).mono ?_; rintro e w1 hr; obtain ⟨rg, rcap, rfl, S1⟩ := HS.out.newE hr (frs.drop 32) (by simp [HF.out]) rfl
       have S2 := (S1.allocNode (.slice (some ⟨rg, 0, none⟩) 31 rcap) (.slice none 0 0)).nilN
       obtain ⟨rb, hrb⟩ : ∃ rb, rb = w1.heap.size := ⟨_, rfl⟩
       rw [← hrb] at S2
       have HRB : Hid (rb = w1.heap.size) := hrb
       have HS2 : Hid (St w0 o (w1.alloc (.cells #[.slice (some ⟨rg, 0, none⟩) 31 rcap, .slice none 0 0] 71)) _) := S2
       have hLF := leaf39 (HS2.out.h.ok (Res.node fb (.slice (some ⟨fg, 0, none⟩) 63 fcap) fkv) (by simp)) (HS2.out.h.ok (Res.rowN fkv fks) (by simp))
       have HLF : Hid (Calls Try.prog 39 #[.pointer (some ⟨fb, 0, none⟩)] (w1.alloc (.cells #[.slice (some ⟨rg, 0, none⟩) 31 rcap, .slice none 0 0] 71)) fun e w' => e = .returned (.bool (decide (fks.length = 0))) ∧ w' = _) := hLF
       clear S1 S2 hr hrb hLF n0 n1 nf0 nf1 c0 c1 cf0 cf1 hkc0 HS HCL)
    | (go_at_call 39; refine (HLF.out).mono ?_; rintro e w2 ⟨rfl, rfl⟩))
  have hrb := HRB.out
  rw [← hrb]
  obtain ⟨W, hW⟩ : ∃ W, W = w1.alloc (.cells #[.slice (some ⟨rg, 0, none⟩) 31 rcap, .slice none 0 0] 71) := ⟨_, rfl⟩
  have HS3 := HS2.out
  rw [← hW] at HS3 ⊢
  clear HS2 HLF hW hrb HRB
  have HS4 : Hid (St w0 o W _) := HS3
  clear HS3
  go_cut [] (fun wx => ∃ fkv' rkv, St w0 o wx (Res.rowN rkv (fks.drop 32) :: Res.node rb (.slice (some ⟨rg, 0, none⟩) 31 rcap) rkv :: Res.rowE (.slice (some ⟨rg, 0, none⟩) 31 rcap) (frs.drop 32) :: Res.node nb rv (.slice (some ⟨kg, 0, none⟩) n kcap) :: Res.rowE rv (rs1 ++ rs2) :: Res.rowN (.slice (some ⟨kg, 0, none⟩) n kcap) (ks1 ++ f :: ks2) :: Res.node fb (.slice (some ⟨fg, 0, none⟩) 63 fcap) fkv' :: Res.rowE (.slice (some ⟨fg, 0, none⟩) 63 fcap) frs :: Res.rowN fkv' (fks.take 32) :: Rest))
  case first =>
    as_aux_lemma =>
      rcases HFK.out with h0 | h64
      · have hnil : fks = [] := List.eq_nil_of_length_eq_zero h0
        subst hnil
        clear h0
        go_wp2_with fail
        go_meet
        case rel => exact ⟨fkv, .slice none 0 0, HS4.out⟩
      · have hne : ¬ (fks = []) := by intro h; rw [h] at h64; simp at h64
        have hfkv : OwnN W fkv fks := HS4.out.h.ok (Res.rowN fkv fks) (by simp)
        rcases hfkv.form with ⟨_, h⟩ | ⟨xg, xcap, rfl, hxg, hxn, hxc⟩
        · exact absurd h hne
        rw [h64] at hxn HS4
        obtain ⟨c0, c1, cf0, cf1, flt⟩ := node_cells (HS4.out.h.ok (Res.node fb (.slice (some ⟨fg, 0, none⟩) 63 fcap) (.slice (some ⟨xg, 0, none⟩) 64 xcap)) (by simp))
        obtain ⟨cur, hcur, _, hcurx⟩ := hfkv.cur
        have HCL : Hid (∀ cap, Calls Try.prog 56 #[.slice (some ⟨xg, 32, none⟩) 32 cap] W (RowSays 32 1 W (.slice none 0 0) 32 (ptrs (fks.drop 32)))) := by
          intro cap
          exact cloN xg 32 32 cap cur 32 (ptrs (fks.drop 32)) W hcur (by omega) (by omega) (by rw [ptrs_length, List.length_drop, h64]) (fun j v hv => hcurx 32 j v hv) (ptrs_one1 _)
        have HF64 : Hid (fks.length = 64) := h64
        clear hfkv hcur hcurx h64
        unfold maxLen at hxc
        have hxc2 : ¬ (xcap = 32) := by omega
        have hnd : decide (fks = []) = false := decide_eq_false hne
        rw [hnd]
        go_upto_region 4 with ((go_at_call 56; refine (HCL.out _).mono ?_; rintro e w2 hr; have S1 := HS4.out.sub (List.sublist_cons_self _ _); obtain ⟨yg, ycap, rfl, S2⟩ := S1.newN hr (fks.drop 32) (by simp [HF64.out]) rfl; have S3 := St.set1 [Res.rowN (.slice (some ⟨yg, 0, none⟩) 32 ycap) (fks.drop 32)] _ S2 (.slice (some ⟨yg, 0, none⟩) 32 ycap); obtain ⟨d0, d1, df0, df1, dlt⟩ := node_cells (S2.h.ok (Res.node rb (.slice (some ⟨rg, 0, none⟩) 31 rcap) (.slice none 0 0)) (by simp)); have HS5 : Hid (St w0 o (w2.setCell ⟨rb, 1, none⟩ (.slice (some ⟨yg, 0, none⟩) 32 ycap)) _) := S3; clear S1 S2 S3 hr c0 c1 cf0 cf1 flt HS4 HCL))
        obtain ⟨W5, hW5⟩ : ∃ W5, W5 = w2.setCell ⟨rb, 1, none⟩ (.slice (some ⟨yg, 0, none⟩) 32 ycap) := ⟨_, rfl⟩
        have S5 := HS5.out
        rw [← hW5] at S5 ⊢
        clear HS5 hW5
        have S6 := S5.drew
        obtain ⟨e0, e1, ef0, ef1, elt⟩ := node_cells (S6.h.ok (Res.node fb (.slice (some ⟨fg, 0, none⟩) 63 fcap) (.slice (some ⟨xg, 0, none⟩) 64 xcap)) (by simp))
        have HDL : Hid (Calls Try.prog 41 #[.slice (some ⟨xg, 0, none⟩) 64 xcap, .int .i64 32, .int .i64 64] W5.drew (RowSays 32 1 W5.drew (.slice (some ⟨xg, 0, none⟩) 64 xcap) 32 (ptrs (fks.take 32)))) := by
          have hx : OwnN W5.drew (.slice (some ⟨xg, 0, none⟩) 64 xcap) fks := S6.h.ok (Res.rowN (.slice (some ⟨xg, 0, none⟩) 64 xcap) fks) (by simp)
          have := delN xg 64 xcap 32 64 (ptrs fks) W5.drew (by rw [← HF64.out]; rw [← HF64.out] at hx; exact hx) (by omega) (by omega) (by omega) (ptrs_one1 _)
          rw [ptrs_take, ptrs_drop, List.drop_of_length_le (l := fks) (by have := HF64.out; omega)] at this
          rw [show ptrs [] = [] from rfl, List.append_nil] at this
          exact this
        have HS6 : Hid (St w0 o W5.drew _) := S6
        clear S5 S6
        refine region_lex 10 (fun w' => w'.cell? ⟨fb, 1, none⟩ = some (.slice (some ⟨xg, 0, none⟩) 64 xcap)) (by kernel_rfl) (by kernel_rfl) (fun _ _ d _ _ h => by cases d <;> exact h) e1 ?_
        refine reads_cons (.pointer (some ⟨fb, 0, none⟩)) (fun w' hw' => rfl) ?_
        simp only [Act.put, List.setIfInBounds_toArray, List.set_cons_succ, List.set_cons_zero]
        refine reads_cons (.pointer (some ⟨fb, 0, none⟩)) (fun w' hw' => rfl) ?_
        simp only [Act.put, List.setIfInBounds_toArray, List.set_cons_succ, List.set_cons_zero]
        refine reads_cons (.pointer (some ⟨fb, 0, none⟩)) (fun w' hw' => rfl) ?_
        simp only [Act.put, List.setIfInBounds_toArray, List.set_cons_succ, List.set_cons_zero]
        refine reads_cons (.pointer (some ⟨fb, 1, none⟩)) (fun w' hw' => rd_field (fld71_1 fb w') rfl rfl) ?_
        simp only [Act.put, List.setIfInBounds_toArray, List.set_cons_succ, List.set_cons_zero]
        refine reads_cons (.slice (some ⟨xg, 0, none⟩) 64 xcap) (fun w' hw' => rd_load (ld36 hw') rfl rfl) ?_
        simp only [Act.put, List.setIfInBounds_toArray, List.set_cons_succ, List.set_cons_zero]
        refine reads_cons (.pointer (some ⟨fb, 0, none⟩)) (fun w' hw' => rfl) ?_
        simp only [Act.put, List.setIfInBounds_toArray, List.set_cons_succ, List.set_cons_zero]
        refine reads_cons (.pointer (some ⟨fb, 0, none⟩)) (fun w' hw' => rfl) ?_
        simp only [Act.put, List.setIfInBounds_toArray, List.set_cons_succ, List.set_cons_zero]
        refine reads_cons (.pointer (some ⟨fb, 1, none⟩)) (fun w' hw' => rd_field (fld71_1 fb w') rfl rfl) ?_
        simp only [Act.put, List.setIfInBounds_toArray, List.set_cons_succ, List.set_cons_zero]
        refine reads_cons (.slice (some ⟨xg, 0, none⟩) 64 xcap) (fun w' hw' => rd_load (ld36 hw') rfl rfl) ?_
        simp only [Act.put, List.setIfInBounds_toArray, List.set_cons_succ, List.set_cons_zero]
        refine reads_cons (.int .i64 64) (fun w' hw' => rd_len (len36 (some ⟨xg, 0, none⟩) 64 xcap _ w') rfl rfl) ?_
        simp only [Act.put, List.setIfInBounds_toArray, List.set_cons_succ, List.set_cons_zero]
        refine reads_nil ?_
        refine seq_call 41 #[.slice (some ⟨xg, 0, none⟩) 64 xcap, .int .i64 32, .int .i64 64] _ (by go_simp) HDL.out ?_
        rintro e w3 hr
        obtain ⟨zg, zcap, rfl, S7⟩ := St.rowN [Res.rowN (.slice (some ⟨yg, 0, none⟩) 32 ycap) (fks.drop 32), Res.node rb (.slice (some ⟨rg, 0, none⟩) 31 rcap) (.slice (some ⟨yg, 0, none⟩) 32 ycap), Res.rowE (.slice (some ⟨rg, 0, none⟩) 31 rcap) (frs.drop 32), Res.node nb rv (.slice (some ⟨kg, 0, none⟩) n kcap), Res.rowE rv (rs1 ++ rs2), Res.rowN (.slice (some ⟨kg, 0, none⟩) n kcap) (ks1 ++ f :: ks2), Res.node fb (.slice (some ⟨fg, 0, none⟩) 63 fcap) (.slice (some ⟨xg, 0, none⟩) 64 xcap), Res.rowE (.slice (some ⟨fg, 0, none⟩) 63 fcap) frs] Rest HS6.out hr (fks.take 32) (by simp [HF64.out]) rfl
        obtain ⟨g0, g1, gf0, gf1, glt⟩ := node_cells (S7.h.ok (Res.node fb (.slice (some ⟨fg, 0, none⟩) 63 fcap) (.slice (some ⟨xg, 0, none⟩) 64 xcap)) (by simp))
        have S8 := St.set1 [Res.rowN (.slice (some ⟨yg, 0, none⟩) 32 ycap) (fks.drop 32), Res.node rb (.slice (some ⟨rg, 0, none⟩) 31 rcap) (.slice (some ⟨yg, 0, none⟩) 32 ycap), Res.rowE (.slice (some ⟨rg, 0, none⟩) 31 rcap) (frs.drop 32), Res.node nb rv (.slice (some ⟨kg, 0, none⟩) n kcap), Res.rowE rv (rs1 ++ rs2), Res.rowN (.slice (some ⟨kg, 0, none⟩) n kcap) (ks1 ++ f :: ks2)] _ S7 (.slice (some ⟨zg, 0, none⟩) 32 zcap)
        refine ⟨_, rfl, g1, ?_⟩
        simp only [Act.put, List.setIfInBounds_toArray, List.set_cons_succ, List.set_cons_zero]
        refine seq_value (.pointer (some ⟨fb, 0, none⟩)) w3 rfl (fun _ => g1) ?_
        simp only [Act.put, List.setIfInBounds_toArray, List.set_cons_succ, List.set_cons_zero]
        refine seq_value (.pointer (some ⟨fb, 1, none⟩)) w3 (rd_field (fld71_1 fb w3) rfl rfl) (fun _ => g1) ?_
        simp only [Act.put, List.setIfInBounds_toArray, List.set_cons_succ, List.set_cons_zero]
        refine seq_skip (w3.setCell ⟨fb, 1, none⟩ (.slice (some ⟨zg, 0, none⟩) 32 zcap)) (rd_store (st36 (some ⟨zg, 0, none⟩) 32 zcap g1 gf1) rfl rfl rfl) (fun h => absurd rfl h) ?_
        simp only [Act.put, List.setIfInBounds_toArray, List.set_cons_succ, List.set_cons_zero]
        refine seq_nil ?_
        have HS8 : Hid (St w0 o (w3.setCell ⟨fb, 1, none⟩ (.slice (some ⟨zg, 0, none⟩) 32 zcap)) _) := S8
        clear S7 S8 hr
        go_wp2_with fail
        go_meet
        case rel => exact ⟨_, _, HS8.out⟩
  case rest =>
    obtain ⟨fkv', rkv, S0⟩ := hcut
    clear HS4
    obtain ⟨up, hup⟩ : ∃ up, frs[31]? = some up := ⟨_, List.getElem?_eq_getElem (by have := HF.out; omega)⟩
    obtain ⟨q0, q1, q2, q3⟩ := OwnE.cell (S0.h.ok (Res.rowE (.slice (some ⟨fg, 0, none⟩) 63 fcap) frs) (by simp)) (HF.out.symm) hup
    simp only [Nat.reduceMul, Nat.reduceAdd] at q0 q1 q2 q3
    obtain ⟨c0, c1, cf0, cf1, flt⟩ := node_cells (S0.h.ok (Res.node fb (.slice (some ⟨fg, 0, none⟩) 63 fcap) fkv') (by simp))
    have HS0 : Hid (St w0 o wc _) := S0
    have HUP : Hid (frs[31]? = some up) := hup
    clear S0 hup
    go_upto_region 6 with (fail)
    obtain ⟨ub, hub⟩ : ∃ ub, ub = wc.heap.size := ⟨_, rfl⟩
    obtain ⟨W6, hW6⟩ : ∃ W6, W6 = wc.alloc (.cells #[.string up.key, .slice up.va up.vl up.vc, .int .u64 up.rev, .int .u64 up.lease] 52) := ⟨_, rfl⟩
    have S1 := HS0.out.alloc (.cells #[.string up.key, .slice up.va up.vl up.vc, .int .u64 up.rev, .int .u64 up.lease] 52)
    rw [← hub, ← hW6] at S1
    rw [← hub, ← hW6]
    clear HS0 hW6 hub q0 q1 q2 q3 c0 c1 cf0 cf1 flt
    go_cut [] (fun wx => ∃ frv', St w0 o wx ([Res.at ub (.cells #[.string up.key, .slice up.va up.vl up.vc, .int .u64 up.rev, .int .u64 up.lease] 52), Res.rowN rkv (fks.drop 32), Res.node rb (.slice (some ⟨rg, 0, none⟩) 31 rcap) rkv, Res.rowE (.slice (some ⟨rg, 0, none⟩) 31 rcap) (frs.drop 32), Res.node nb rv (.slice (some ⟨kg, 0, none⟩) n kcap), Res.rowE rv (rs1 ++ rs2), Res.rowN (.slice (some ⟨kg, 0, none⟩) n kcap) (ks1 ++ f :: ks2), Res.node fb frv' fkv', Res.rowE frv' (frs.take 31), Res.rowN fkv' (fks.take 32)] ++ Rest))
    case first =>
      as_aux_lemma =>
        have S2 := S1.drew
        obtain ⟨e0, e1, ef0, ef1, elt⟩ := node_cells (S2.h.ok (Res.node fb (.slice (some ⟨fg, 0, none⟩) 63 fcap) fkv') (by simp))
        have HDL : Hid (Calls Try.prog 38 #[(.slice (some ⟨fg, 0, none⟩) 63 fcap), .int .i64 31, .int .i64 63] W6.drew (RowSays 52 4 W6.drew (.slice (some ⟨fg, 0, none⟩) 63 fcap) 31 (flatE (frs.take 31)))) := by
          have hx : OwnE W6.drew 52 (.slice (some ⟨fg, 0, none⟩) 63 fcap) frs := S2.h.ok (Res.rowE (.slice (some ⟨fg, 0, none⟩) 63 fcap) frs) (by simp)
          have := delE fg 63 fcap 31 63 (flatE frs) W6.drew (by rw [← HF.out]; rw [← HF.out] at hx; exact hx) (by omega) (by omega) (by omega) (flatE_one1 _)
          rw [flatE_take, flatE_drop, List.drop_of_length_le (l := frs) (by have := HF.out; omega), flatE_nil, List.append_nil] at this
          exact this
        refine region_lex 10 (fun w' => w'.cell? ⟨fb, 0, none⟩ = some (.slice (some ⟨fg, 0, none⟩) 63 fcap)) (by kernel_rfl) (by kernel_rfl) (fun _ _ d _ _ h => by cases d <;> exact h) e0 ?_
        refine reads_cons (.pointer (some ⟨fb, 0, none⟩)) (fun w' hw' => rfl) ?_
        simp only [Act.put, List.setIfInBounds_toArray, List.set_cons_succ, List.set_cons_zero]
        refine reads_cons (.pointer (some ⟨fb, 0, none⟩)) (fun w' hw' => rfl) ?_
        simp only [Act.put, List.setIfInBounds_toArray, List.set_cons_succ, List.set_cons_zero]
        refine reads_cons (.pointer (some ⟨fb, 0, none⟩)) (fun w' hw' => rfl) ?_
        simp only [Act.put, List.setIfInBounds_toArray, List.set_cons_succ, List.set_cons_zero]
        refine reads_cons (.pointer (some ⟨fb, 0, none⟩)) (fun w' hw' => rd_field (fld71_0 fb w') rfl rfl) ?_
        simp only [Act.put, List.setIfInBounds_toArray, List.set_cons_succ, List.set_cons_zero]
        refine reads_cons (.slice (some ⟨fg, 0, none⟩) 63 fcap) (fun w' hw' => rd_load (ld35 hw') rfl rfl) ?_
        simp only [Act.put, List.setIfInBounds_toArray, List.set_cons_succ, List.set_cons_zero]
        refine reads_cons (.pointer (some ⟨fb, 0, none⟩)) (fun w' hw' => rfl) ?_
        simp only [Act.put, List.setIfInBounds_toArray, List.set_cons_succ, List.set_cons_zero]
        refine reads_cons (.pointer (some ⟨fb, 0, none⟩)) (fun w' hw' => rfl) ?_
        simp only [Act.put, List.setIfInBounds_toArray, List.set_cons_succ, List.set_cons_zero]
        refine reads_cons (.pointer (some ⟨fb, 0, none⟩)) (fun w' hw' => rd_field (fld71_0 fb w') rfl rfl) ?_
        simp only [Act.put, List.setIfInBounds_toArray, List.set_cons_succ, List.set_cons_zero]
        refine reads_cons (.slice (some ⟨fg, 0, none⟩) 63 fcap) (fun w' hw' => rd_load (ld35 hw') rfl rfl) ?_
        simp only [Act.put, List.setIfInBounds_toArray, List.set_cons_succ, List.set_cons_zero]
        refine reads_cons (.int .i64 63) (fun w' hw' => rd_len (len35 (some ⟨fg, 0, none⟩) 63 fcap _ w') rfl rfl) ?_
        simp only [Act.put, List.setIfInBounds_toArray, List.set_cons_succ, List.set_cons_zero]
        refine reads_nil ?_
        refine seq_call 38 #[(.slice (some ⟨fg, 0, none⟩) 63 fcap), .int .i64 31, .int .i64 63] _ (by go_simp) HDL.out ?_
        rintro e w3 hr
        obtain ⟨zg, zcap, rfl, S7⟩ := St.rowE [Res.at ub (.cells #[.string up.key, .slice up.va up.vl up.vc, .int .u64 up.rev, .int .u64 up.lease] 52), Res.rowN rkv (fks.drop 32), Res.node rb (.slice (some ⟨rg, 0, none⟩) 31 rcap) rkv, Res.rowE (.slice (some ⟨rg, 0, none⟩) 31 rcap) (frs.drop 32), Res.node nb rv (.slice (some ⟨kg, 0, none⟩) n kcap), Res.rowE rv (rs1 ++ rs2), Res.rowN (.slice (some ⟨kg, 0, none⟩) n kcap) (ks1 ++ f :: ks2), Res.node fb (.slice (some ⟨fg, 0, none⟩) 63 fcap) fkv'] (Res.rowN fkv' (fks.take 32) :: Rest) S2 hr (frs.take 31) (by simp [HF.out]) rfl
        obtain ⟨g0, g1, gf0, gf1, glt⟩ := node_cells (S7.h.ok (Res.node fb (.slice (some ⟨fg, 0, none⟩) 63 fcap) fkv') (by simp))
        have S8 := St.set0 [Res.at ub (.cells #[.string up.key, .slice up.va up.vl up.vc, .int .u64 up.rev, .int .u64 up.lease] 52), Res.rowN rkv (fks.drop 32), Res.node rb (.slice (some ⟨rg, 0, none⟩) 31 rcap) rkv, Res.rowE (.slice (some ⟨rg, 0, none⟩) 31 rcap) (frs.drop 32), Res.node nb rv (.slice (some ⟨kg, 0, none⟩) n kcap), Res.rowE rv (rs1 ++ rs2), Res.rowN (.slice (some ⟨kg, 0, none⟩) n kcap) (ks1 ++ f :: ks2)] _ S7 (.slice (some ⟨zg, 0, none⟩) 31 zcap)
        refine ⟨_, rfl, g0, ?_⟩
        simp only [Act.put, List.setIfInBounds_toArray, List.set_cons_succ, List.set_cons_zero]
        refine seq_value (.pointer (some ⟨fb, 0, none⟩)) w3 rfl (fun _ => g0) ?_
        simp only [Act.put, List.setIfInBounds_toArray, List.set_cons_succ, List.set_cons_zero]
        refine seq_value (.pointer (some ⟨fb, 0, none⟩)) w3 (rd_field (fld71_0 fb w3) rfl rfl) (fun _ => g0) ?_
        simp only [Act.put, List.setIfInBounds_toArray, List.set_cons_succ, List.set_cons_zero]
        refine seq_skip (w3.setCell ⟨fb, 0, none⟩ (.slice (some ⟨zg, 0, none⟩) 31 zcap)) (rd_store (st35 (some ⟨zg, 0, none⟩) 31 zcap g0 gf0) rfl rfl rfl) (fun h => absurd rfl h) ?_
        simp only [Act.put, List.setIfInBounds_toArray, List.set_cons_succ, List.set_cons_zero]
        refine seq_nil ?_
        have HS8 : Hid (St w0 o (w3.setCell ⟨fb, 0, none⟩ (.slice (some ⟨zg, 0, none⟩) 31 zcap)) _) := S8
        clear S7 S8 hr S1 S2
        go_wp2_with fail
        go_meet
        case rel => exact ⟨_, HS8.out⟩
    case rest =>
      obtain ⟨frv', S3⟩ := hcut
      clear S1
      go_upto_region 7 with (fail)
      go_cut [] (fun wx => ∃ rv', St w0 o wx ([Res.at ub (.cells #[.string up.key, .slice up.va up.vl up.vc, .int .u64 up.rev, .int .u64 up.lease] 52), Res.rowN rkv (fks.drop 32), Res.node rb (.slice (some ⟨rg, 0, none⟩) 31 rcap) rkv, Res.rowE (.slice (some ⟨rg, 0, none⟩) 31 rcap) (frs.drop 32), Res.node nb rv' (.slice (some ⟨kg, 0, none⟩) n kcap), Res.rowE rv' (rs1 ++ up :: rs2), Res.rowN (.slice (some ⟨kg, 0, none⟩) n kcap) (ks1 ++ f :: ks2)] ++ (Res.node fb frv' fkv' :: Res.rowE frv' (frs.take 31) :: Res.rowN fkv' (fks.take 32) :: Rest)))
      case first =>
       as_aux_lemma =>
        have S4 := S3.drew
        obtain ⟨e0, e1, ef0, ef1, elt⟩ := node_cells (S4.h.ok (Res.node nb rv (.slice (some ⟨kg, 0, none⟩) n kcap)) (by simp))
        have hbx : wc.drew.heap[ub]? = some (.cells #[.string up.key, .slice up.va up.vl up.vc, .int .u64 up.rev, .int .u64 up.lease] 52) := S4.h.ok (Res.at ub (.cells #[.string up.key, .slice up.va up.vl up.vc, .int .u64 up.rev, .int .u64 up.lease] 52)) (by simp)
        have hb0 : wc.drew.cell? ⟨ub, 0, none⟩ = some (.string up.key) := by simp [World.cell?, hbx]
        have hb1 : wc.drew.cell? ⟨ub, 0 + 1, none⟩ = some (.slice up.va up.vl up.vc) := by simp [World.cell?, hbx]
        have hb2 : wc.drew.cell? ⟨ub, 0 + 2, none⟩ = some (.int .u64 up.rev) := by simp [World.cell?, hbx]
        have hb3 : wc.drew.cell? ⟨ub, 0 + 3, none⟩ = some (.int .u64 up.lease) := by simp [World.cell?, hbx]
        refine region_lex 7 (fun w' => w'.cell? ⟨nb, 0, none⟩ = some rv ∧ w'.cell? ⟨ub, 0, none⟩ = some (.string up.key) ∧ w'.cell? ⟨ub, 0 + 1, none⟩ = some (.slice up.va up.vl up.vc) ∧ w'.cell? ⟨ub, 0 + 2, none⟩ = some (.int .u64 up.rev) ∧ w'.cell? ⟨ub, 0 + 3, none⟩ = some (.int .u64 up.lease)) (by kernel_rfl) (by kernel_rfl) (fun _ _ d _ _ h => by cases d <;> exact h) ⟨e0, hb0, hb1, hb2, hb3⟩ ?_
        refine reads_cons (.pointer (some ⟨nb, 0, none⟩)) (fun w' hw' => rfl) ?_
        simp only [Act.put, List.setIfInBounds_toArray, List.set_cons_succ, List.set_cons_zero]
        refine reads_cons (.pointer (some ⟨nb, 0, none⟩)) (fun w' hw' => rfl) ?_
        simp only [Act.put, List.setIfInBounds_toArray, List.set_cons_succ, List.set_cons_zero]
        refine reads_cons (.pointer (some ⟨nb, 0, none⟩)) (fun w' hw' => rfl) ?_
        simp only [Act.put, List.setIfInBounds_toArray, List.set_cons_succ, List.set_cons_zero]
        refine reads_cons (.pointer (some ⟨nb, 0, none⟩)) (fun w' hw' => rd_field (fld71_0 nb w') rfl rfl) ?_
        simp only [Act.put, List.setIfInBounds_toArray, List.set_cons_succ, List.set_cons_zero]
        refine reads_cons rv (fun w' hw' => rd_load (ld35 hw'.1) rfl rfl) ?_
        simp only [Act.put, List.setIfInBounds_toArray, List.set_cons_succ, List.set_cons_zero]
        refine reads_cons (.int .i64 i) (fun w' hw' => rfl) ?_
        simp only [Act.put, List.setIfInBounds_toArray, List.set_cons_succ, List.set_cons_zero]
        refine reads_cons (.agg #[.string up.key, .slice up.va up.vl up.vc, .int .u64 up.rev, .int .u64 up.lease]) (fun w' hw' => rd_load (ld52 hw'.2.1 hw'.2.2.1 hw'.2.2.2.1 hw'.2.2.2.2) rfl rfl) ?_
        simp only [Act.put, List.setIfInBounds_toArray, List.set_cons_succ, List.set_cons_zero]
        refine reads_nil ?_
        have S5 := S4.alloc (.cells #[.string up.key, .slice up.va up.vl up.vc, .int .u64 up.rev, .int .u64 up.lease] 52)
        obtain ⟨vb, hvb⟩ : ∃ vb, vb = wc.drew.heap.size := ⟨_, rfl⟩
        obtain ⟨W7, hW7⟩ : ∃ W7, W7 = wc.drew.alloc (.cells #[.string up.key, .slice up.va up.vl up.vc, .int .u64 up.rev, .int .u64 up.lease] 52) := ⟨_, rfl⟩
        rw [← hvb, ← hW7] at S5
        obtain ⟨k0, k1, kf0, kf1, klt⟩ := node_cells (S5.h.ok (Res.node nb rv (.slice (some ⟨kg, 0, none⟩) n kcap)) (by simp))
        have hbx' : W7.heap[ub]? = some (.cells #[.string up.key, .slice up.va up.vl up.vc, .int .u64 up.rev, .int .u64 up.lease] 52) := S5.h.ok (Res.at ub (.cells #[.string up.key, .slice up.va up.vl up.vc, .int .u64 up.rev, .int .u64 up.lease] 52)) (by simp)
        have hb0' : W7.cell? ⟨ub, 0, none⟩ = some (.string up.key) := by simp [World.cell?, hbx']
        have hb1' : W7.cell? ⟨ub, 0 + 1, none⟩ = some (.slice up.va up.vl up.vc) := by simp [World.cell?, hbx']
        have hb2' : W7.cell? ⟨ub, 0 + 2, none⟩ = some (.int .u64 up.rev) := by simp [World.cell?, hbx']
        have hb3' : W7.cell? ⟨ub, 0 + 3, none⟩ = some (.int .u64 up.lease) := by simp [World.cell?, hbx']
        refine seq_value (.slice (some ⟨vb, 0, none⟩) 1 1) W7 (by rw [hvb, hW7]; exact rd_build (bs35 _ _ _ _ _ rfl rfl rfl rfl) rfl rfl) (fun _ => ⟨k0, hb0', hb1', hb2', hb3'⟩) ?_
        simp only [Act.put, List.setIfInBounds_toArray, List.set_cons_succ, List.set_cons_zero]
        have HDL := insE_st (w := W7) (tb := 52) [Res.at ub (.cells #[.string up.key, .slice up.va up.vl up.vc, .int .u64 up.rev, .int .u64 up.lease] 52), Res.rowN rkv (fks.drop 32), Res.node rb (.slice (some ⟨rg, 0, none⟩) 31 rcap) rkv, Res.rowE (.slice (some ⟨rg, 0, none⟩) 31 rcap) (frs.drop 32), Res.node nb rv (.slice (some ⟨kg, 0, none⟩) n kcap)] (Res.rowN (.slice (some ⟨kg, 0, none⟩) n kcap) (ks1 ++ f :: ks2) :: Res.node fb frv' fkv' :: Res.rowE frv' (frs.take 31) :: Res.rowN fkv' (fks.take 32) :: Rest) (v := rv) (rs1 := rs1) (rs2 := rs2) (e := up) (vb := vb) (i := i) S5 (by have := HI2.out; omega) HI2.out
        refine seq_call 37 #[rv, .int .i64 i, .slice (some ⟨vb, 0, none⟩) 1 1] _ (by go_simp) HDL ?_
        rintro e w3 ⟨zg, zcap, rfl, S7⟩
        obtain ⟨zn, hzn⟩ : ∃ zn, zn = (rs1 ++ up :: rs2).length := ⟨_, rfl⟩
        rw [← hzn] at S7 ⊢
        obtain ⟨g0, g1, gf0, gf1, glt⟩ := node_cells (S7.h.ok (Res.node nb rv (.slice (some ⟨kg, 0, none⟩) n kcap)) (by simp))
        have hbx3 : w3.heap[ub]? = some (.cells #[.string up.key, .slice up.va up.vl up.vc, .int .u64 up.rev, .int .u64 up.lease] 52) := S7.h.ok (Res.at ub (.cells #[.string up.key, .slice up.va up.vl up.vc, .int .u64 up.rev, .int .u64 up.lease] 52)) (by simp)
        have ha0 : w3.cell? ⟨ub, 0, none⟩ = some (.string up.key) := by simp [World.cell?, hbx3]
        have ha1 : w3.cell? ⟨ub, 0 + 1, none⟩ = some (.slice up.va up.vl up.vc) := by simp [World.cell?, hbx3]
        have ha2 : w3.cell? ⟨ub, 0 + 2, none⟩ = some (.int .u64 up.rev) := by simp [World.cell?, hbx3]
        have ha3 : w3.cell? ⟨ub, 0 + 3, none⟩ = some (.int .u64 up.lease) := by simp [World.cell?, hbx3]
        have S8 := St.set0 [Res.at ub (.cells #[.string up.key, .slice up.va up.vl up.vc, .int .u64 up.rev, .int .u64 up.lease] 52), Res.rowN rkv (fks.drop 32), Res.node rb (.slice (some ⟨rg, 0, none⟩) 31 rcap) rkv, Res.rowE (.slice (some ⟨rg, 0, none⟩) 31 rcap) (frs.drop 32)] _ (St.perm S7 (by rfl)) (.slice (some ⟨zg, 0, none⟩) zn zcap)
        refine ⟨_, rfl, ⟨g0, ha0, ha1, ha2, ha3⟩, ?_⟩
        simp only [Act.put, List.setIfInBounds_toArray, List.set_cons_succ, List.set_cons_zero]
        refine seq_value (.pointer (some ⟨nb, 0, none⟩)) w3 rfl (fun _ => ⟨g0, ha0, ha1, ha2, ha3⟩) ?_
        simp only [Act.put, List.setIfInBounds_toArray, List.set_cons_succ, List.set_cons_zero]
        refine seq_value (.pointer (some ⟨nb, 0, none⟩)) w3 (rd_field (fld71_0 nb w3) rfl rfl) (fun _ => ⟨g0, ha0, ha1, ha2, ha3⟩) ?_
        simp only [Act.put, List.setIfInBounds_toArray, List.set_cons_succ, List.set_cons_zero]
        refine seq_skip (w3.setCell ⟨nb, 0, none⟩ (.slice (some ⟨zg, 0, none⟩) zn zcap)) (rd_store (st35 (some ⟨zg, 0, none⟩) zn zcap g0 gf0) rfl rfl rfl) (fun h => absurd rfl h) ?_
        simp only [Act.put, List.setIfInBounds_toArray, List.set_cons_succ, List.set_cons_zero]
        refine seq_nil ?_
        have HS8 : Hid (St w0 o (w3.setCell ⟨nb, 0, none⟩ (.slice (some ⟨zg, 0, none⟩) zn zcap)) _) := S8
        clear S7 S8 S3 S4 S5 HDL
        go_wp2_with fail
        go_meet
        case rel => exact ⟨_, HS8.out⟩
      case rest =>
        obtain ⟨rv', S3'⟩ := hcut
        clear S3
        obtain ⟨e0, e1, ef0, ef1, elt⟩ := node_cells (S3'.h.ok (Res.node nb rv' (.slice (some ⟨kg, 0, none⟩) n kcap)) (by simp))
        have S5 := S3'.alloc (.cells #[.pointer (some ⟨rb, 0, none⟩)] 32)
        have HDL := insN_st (w := wc.alloc (.cells #[.pointer (some ⟨rb, 0, none⟩)] 32)) (tb := 32) [Res.at ub (.cells #[.string up.key, .slice up.va up.vl up.vc, .int .u64 up.rev, .int .u64 up.lease] 52), Res.rowN rkv (fks.drop 32), Res.node rb (.slice (some ⟨rg, 0, none⟩) 31 rcap) rkv, Res.rowE (.slice (some ⟨rg, 0, none⟩) 31 rcap) (frs.drop 32), Res.node nb rv' (.slice (some ⟨kg, 0, none⟩) n kcap), Res.rowE rv' (rs1 ++ up :: rs2)] (Res.node fb frv' fkv' :: Res.rowE frv' (frs.take 31) :: Res.rowN fkv' (fks.take 32) :: Rest) (v := .slice (some ⟨kg, 0, none⟩) n kcap) (rs1 := ks1 ++ [f]) (rs2 := ks2) (e := Nob rb) (vb := wc.heap.size) (i := i + 1) (by rw [List.append_assoc]; exact S5) (by have := HI1.out; have := H2.out; simp; omega) (by simp [HI1.out])
        rw [show ((i + 1 : Nat) : Int) = (i : Int) + 1 by omega] at HDL
        have HIN : Hid (Calls Try.prog 40 #[.slice (some ⟨kg, 0, none⟩) n kcap, .int .i64 ((i : Int) + 1), .slice (some ⟨wc.heap.size, 0, none⟩) 1 1] _ _) := HDL
        clear S5 HDL S3'
        go_wp2_with (go_at_call 40; refine HIN.out.mono ?_; rintro e w3 ⟨zg, zcap, rfl, S7⟩; obtain ⟨g0, g1, gf0, gf1, glt⟩ := node_cells (S7.h.ok (Res.node nb rv' (.slice (some ⟨kg, 0, none⟩) n kcap)) (by simp)); obtain ⟨zn, hzn⟩ : ∃ zn, zn = (ks1 ++ [f] ++ Nob rb :: ks2).length := ⟨_, rfl⟩; rw [← hzn] at S7 ⊢; have HS7 : Hid (St w0 o w3 _) := S7; have HZN : Hid (zn = (ks1 ++ [f] ++ Nob rb :: ks2).length) := hzn; clear S7 hzn e0 e1 ef0 ef1 elt)
        go_end0
        have S8 := St.set1 [Res.at ub (.cells #[.string up.key, .slice up.va up.vl up.vc, .int .u64 up.rev, .int .u64 up.lease] 52), Res.rowN rkv (fks.drop 32), Res.node rb (.slice (some ⟨rg, 0, none⟩) 31 rcap) rkv, Res.rowE (.slice (some ⟨rg, 0, none⟩) 31 rcap) (frs.drop 32)] _ (St.perm HS7.out (by rfl)) (.slice (some ⟨zg, 0, none⟩) zn zcap)
        rw [List.append_assoc] at S8
        exact ⟨up, rv', _, frv', fkv', rb, _, rkv, rfl, HUP.out, St.perm (St.sub S8 (List.sublist_cons_self _ _)) (perm_pick 8 rfl (perm_pick 6 rfl (perm_pick 6 rfl (List.Perm.refl _))))⟩

end Go.Proofs.Qxb6601706a
