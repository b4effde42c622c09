import Derived.Test.Qxb6601706aGrowR
namespace Go.Proofs.Qxb6601706a
open Go.RowKit
set_option linter.unusedVariables false
set_option linter.unusedSimpArgs false

set_option maxHeartbeats 4000000 in
set_option maxRecDepth 100000 in
theorem grow_big {w : World} {nb : Nat} {rv kv ckv : Value} {ks : List Kid} {c : Kid} {i r ca : Nat} {a : Option Addr} (hn : w.heap[nb]? = some (.cells #[rv, kv] 71 (0, 0))) (hk : OwnN w kv ks) (hi : ks[i]? = some c) (h64 : ks.length ≤ 64) (hc : w.heap[c.b]? = some (.cells #[.slice a r ca, ckv] 71 (0, 0))) (hr : 31 < r) (hr63 : r ≤ 63) :
    Calls Try.prog 32 #[.pointer (some ⟨nb, 0, none⟩), .int .i64 i] w fun e w' => e = .returned (.int .i64 i) ∧ w' = w := by
  obtain ⟨n0, n1, nf0, nf1, nlt⟩ := node_cells hn
  obtain ⟨c0, c1, cf0, cf1, clt⟩ := node_cells hc
  have hil := (List.getElem?_eq_some_iff.1 hi).1
  rcases hk.form with ⟨_, h⟩ | ⟨kg, kcap, hkvf, hkg, hkn, hkc⟩
  · rw [h] at hil; simp at hil
  obtain ⟨n, hn'⟩ : ∃ n, n = ks.length := ⟨_, rfl⟩
  rw [← hn'] at hkvf h64 hil
  have hcell : w.cell? ⟨kg, i, none⟩ = some (.pointer (some ⟨c.b, 0, none⟩)) := OwnN.cell (n := n) (by rw [← hkvf]; exact hk) hn' hi
  subst hkvf
  have hr' : (31 : Int) < r := by omega
  clear hn hk hi hc hn' hkn
  go_enter Try.func32, Try.ntmps32
  go_wp2
  go_returns
  exact ⟨rfl, rfl⟩

/-- the facts that both merges read -/
theorem merge_facts {w : World} {kv : Value} {ks : List Kid} {n : Nat} (hk : OwnN w kv ks) (hn : n = ks.length) (h0 : 0 < n) : ∃ kg kcap, kv = .slice (some ⟨kg, 0, none⟩) n kcap ∧ ∀ (i : Nat) (c : Kid), ks[i]? = some c → w.cell? ⟨kg, i, none⟩ = some (.pointer (some ⟨c.b, 0, none⟩)) := by
  rcases hk.form with ⟨_, h⟩ | ⟨kg, kcap, hkvf, hkg, hkn, hkc⟩
  · rw [h] at hn; simp at hn; omega
  · rw [← hn] at hkvf
    exact ⟨kg, kcap, hkvf, fun i c hi => OwnN.cell (n := n) (by rw [← hkvf]; exact hk) hn hi⟩

set_option maxHeartbeats 4000000 in
set_option maxRecDepth 100000 in
theorem grow_merge_a {w0 w : World} {o : List Nat} {nb lb rb : Nat} {rv kv lrv lkv rrv rkv : Value} {rs1 rs2 lrs rrs : List Ent} {x : Ent} {ks1 ks2 lks rks : List Kid} {l r : Kid} {Rest : List Res}
    (s : St w0 o w (Res.node nb rv kv :: Res.rowE rv (rs1 ++ x :: rs2) :: Res.rowN kv (ks1 ++ l :: r :: ks2) :: Res.node lb lrv lkv :: Res.rowE lrv lrs :: Res.rowN lkv lks :: Res.node rb rrv rkv :: Res.rowE rrv rrs :: Res.rowN rkv rks :: Rest))
    {kg0 : Nat} (hkg0 : ∃ n0 c0, kv = .slice (some ⟨kg0, 0, none⟩) n0 c0) (hlb : l.b = lb) (hrb : r.b = rb) (hl : lrs.length = 31) (hr : rrs.length = 31) (i : Nat) (hi1 : ks1.length = i) (hi2 : rs1.length = i) (hlen : rs1.length + rs2.length ≤ 62) (h2 : ks2.length = rs2.length) (hk : (lks.length = 0 ∧ rks.length = 0) ∨ (lks.length = 32 ∧ rks.length = 32)) (hleft : LeftSmall w ks1 i) :
    Calls Try.prog 32 #[.pointer (some ⟨nb, 0, none⟩), .int .i64 i] w (fun e w' => e = .returned (.int .i64 i) ∧ MergeSays w0 o kg0 nb lb rs1 rs2 lrs rrs x ks1 l ks2 lks rks Rest (.returned (.tuple #[])) w') := by
  have HM : Hid (Calls Try.prog 42 #[.pointer (some ⟨nb, 0, none⟩), .int .i64 i] w (MergeSays w0 o kg0 nb lb rs1 rs2 lrs rrs x ks1 l ks2 lks rks Rest)) := merge42 s hkg0 hlb hrb hl hr i hi1 hi2 hlen h2 hk
  obtain ⟨n, hn⟩ : ∃ n, n = (ks1 ++ l :: r :: ks2).length := ⟨_, rfl⟩
  obtain ⟨m, hm⟩ : ∃ m, m = (rs1 ++ x :: rs2).length := ⟨_, rfl⟩
  have hnn : i + 1 < n ∧ n ≤ 64 := by rw [hn]; simp; omega
  have hmm : i < m ∧ m ≤ 63 := by rw [hm]; simp; omega
  obtain ⟨kg, kcap, rfl, hcell⟩ := merge_facts (s.h.ok (Res.rowN kv (ks1 ++ l :: r :: ks2)) (by simp)) hn (by omega)
  have hrv : OwnE w 52 rv (rs1 ++ x :: rs2) := s.h.ok (Res.rowE rv (rs1 ++ x :: rs2)) (by simp)
  have hlr : OwnE w 52 lrv lrs := s.h.ok (Res.rowE lrv lrs) (by simp)
  have hrr : OwnE w 52 rrv rrs := s.h.ok (Res.rowE rrv rrs) (by simp)
  rcases hrv.form with ⟨_, h⟩ | ⟨rg, rcap, rfl, hrg, hrn, hrc⟩
  · simp at h
  rcases hlr.form with ⟨_, h⟩ | ⟨lg, lcap, rfl, hlg, hln, hlc⟩
  · rw [h] at hl; simp at hl
  rcases hrr.form with ⟨_, h⟩ | ⟨qg, qcap, rfl, hqg, hqn, hqc⟩
  · rw [h] at hr; simp at hr
  have hc0 := hcell i l (by simp [← hi1])
  have hc1 := hcell (i + 1) r (by rw [List.getElem?_append_right (by omega), show i + 1 - ks1.length = 1 by omega]; rfl)
  rw [hlb] at hc0
  rw [hrb] at hc1
  obtain ⟨n0, n1, nf0, nf1, nlt⟩ := node_cells (s.h.ok (Res.node nb (.slice (some ⟨rg, 0, none⟩) (rs1 ++ x :: rs2).length rcap) (.slice (some ⟨kg, 0, none⟩) n kcap)) (by simp))
  obtain ⟨l0, l1, lf0, lf1, llt⟩ := node_cells (s.h.ok (Res.node lb (.slice (some ⟨lg, 0, none⟩) lrs.length lcap) lkv) (by simp))
  obtain ⟨q0, q1, qf0, qf1, qlt⟩ := node_cells (s.h.ok (Res.node rb (.slice (some ⟨qg, 0, none⟩) rrs.length qcap) rkv) (by simp))
  rw [← hm] at n0
  rw [hl] at l0
  rw [hr] at q0
  have hleft2 : i = 0 ∨ ∃ lb a ca, w.cell? ⟨kg, i - 1, none⟩ = some (.pointer (some ⟨lb, 0, none⟩)) ∧ w.cell? ⟨lb, 0, none⟩ = some (.slice a 31 ca) := by
    rcases hleft with h | ⟨l', a, ca, lkv', h1, h3⟩
    · exact .inl h
    · refine .inr ⟨l'.b, a, ca, ?_, (node_cells h3).1⟩
      have hjl : i - 1 < ks1.length := (List.getElem?_eq_some_iff.1 h1).1
      exact hcell (i - 1) l' (by rw [List.getElem?_append_left hjl]; exact h1)
  have hin1 : (i : Int) + 1 < n := by omega
  have hin64 := hnn.2
  have hjm : (i : Int) < m := by omega
  have hm63 := hmm.2
  have hne : ((i : Int) == (m : Int)) = false := by rw [beq_eq_false_iff_ne]; omega
  clear hkg0 s hrv hlr hrr hrn hln hqn hl hr hi1 hi2 hlen h2 hk hn hm hnn hmm hcell hleft hlb hrb
  obtain ⟨PP, hPP⟩ : ∃ PP : World → Prop, PP = fun w' => MergeSays w0 o kg0 nb lb rs1 rs2 lrs rrs x ks1 l ks2 lks rks Rest (.returned (.tuple #[])) w' := ⟨_, rfl⟩
  have HM2 : Hid (Calls Try.prog 42 #[.pointer (some ⟨nb, 0, none⟩), .int .i64 i] w fun e w' => e = .returned (.tuple #[]) ∧ PP w') := by
    refine HM.out.mono ?_
    intro e w' hx
    rw [hPP]
    obtain ⟨a1, a2, a3, a4, he, hS⟩ := hx
    exact ⟨he, a1, a2, a3, a4, rfl, hS⟩
  have HPP : Hid (∀ w', PP w' → MergeSays w0 o kg0 nb lb rs1 rs2 lrs rrs x ks1 l ks2 lks rks Rest (.returned (.tuple #[])) w') := by intro w' h; rw [hPP] at h; exact h
  refine Calls.mono (R := fun e w' => e = .returned (.int .i64 i) ∧ PP w') ?_ (fun e w' h => ⟨h.1, HPP.out w' h.2⟩)
  clear hPP HPP HM
  rcases hleft2 with rfl | ⟨lb', a, ca, d0, d1⟩
  · go_enter Try.func32, Try.ntmps32
    go_wp2_with (go_at_call 42; refine HM2.out.mono ?_; rintro e w' ⟨rfl, hp⟩; have HP : Hid (PP w') := hp; clear hp)
    try go_returns
    exact ⟨rfl, HP.out⟩
  · by_cases hj0 : i = 0
    · subst hj0
      go_enter Try.func32, Try.ntmps32
      go_wp2_with (go_at_call 42; refine HM2.out.mono ?_; rintro e w' ⟨rfl, hp⟩; have HP : Hid (PP w') := hp; clear hp)
      try go_returns
      exact ⟨rfl, HP.out⟩
    · have hjp : (0 : Int) < (i : Int) := by omega
      obtain ⟨j', rfl⟩ : ∃ j', i = j' + 1 := ⟨i - 1, by omega⟩
      simp only [Nat.add_sub_cancel] at d0
      go_enter Try.func32, Try.ntmps32
      go_wp2_with (go_at_call 42; refine HM2.out.mono ?_; rintro e w' ⟨rfl, hp⟩; have HP : Hid (PP w') := hp; clear hp)
      try go_returns
      exact ⟨rfl, HP.out⟩

set_option maxHeartbeats 4000000 in
set_option maxRecDepth 100000 in
theorem grow_merge_b {w0 w : World} {o : List Nat} {nb lb rb : Nat} {rv kv lrv lkv rrv rkv : Value} {rs1 lrs rrs : List Ent} {x : Ent} {ks1 lks rks : List Kid} {l r : Kid} {Rest : List Res}
    (s : St w0 o w (Res.node nb rv kv :: Res.rowE rv (rs1 ++ x :: []) :: Res.rowN kv (ks1 ++ l :: r :: []) :: Res.node lb lrv lkv :: Res.rowE lrv lrs :: Res.rowN lkv lks :: Res.node rb rrv rkv :: Res.rowE rrv rrs :: Res.rowN rkv rks :: Rest))
    {kg0 : Nat} (hkg0 : ∃ n0 c0, kv = .slice (some ⟨kg0, 0, none⟩) n0 c0) (hlb : l.b = lb) (hrb : r.b = rb) (hl : lrs.length = 31) (hr : rrs.length = 31) (i : Nat) (hi1 : ks1.length = i) (hi2 : rs1.length = i) (hlen : rs1.length ≤ 62) (hk : (lks.length = 0 ∧ rks.length = 0) ∨ (lks.length = 32 ∧ rks.length = 32)) :
    Calls Try.prog 32 #[.pointer (some ⟨nb, 0, none⟩), .int .i64 ((i : Int) + 1)] w (fun e w' => e = .returned (.int .i64 i) ∧ MergeSays w0 o kg0 nb lb rs1 [] lrs rrs x ks1 l [] lks rks Rest (.returned (.tuple #[])) w') := by
  have HM : Hid (Calls Try.prog 42 #[.pointer (some ⟨nb, 0, none⟩), .int .i64 i] w (MergeSays w0 o kg0 nb lb rs1 [] lrs rrs x ks1 l [] lks rks Rest)) := merge42 s hkg0 hlb hrb hl hr i hi1 hi2 (by simpa using hlen) rfl hk
  obtain ⟨n, hn⟩ : ∃ n, n = (ks1 ++ l :: r :: []).length := ⟨_, rfl⟩
  obtain ⟨m, hm⟩ : ∃ m, m = (rs1 ++ x :: []).length := ⟨_, rfl⟩
  have hnn : n = i + 2 := by rw [hn]; simp; omega
  have hmm : m = i + 1 := by rw [hm]; simp; omega
  obtain ⟨kg, kcap, rfl, hcell⟩ := merge_facts (s.h.ok (Res.rowN kv (ks1 ++ l :: r :: [])) (by simp)) hn (by omega)
  have hrv : OwnE w 52 rv (rs1 ++ x :: []) := s.h.ok (Res.rowE rv (rs1 ++ x :: [])) (by simp)
  have hlr : OwnE w 52 lrv lrs := s.h.ok (Res.rowE lrv lrs) (by simp)
  have hrr : OwnE w 52 rrv rrs := s.h.ok (Res.rowE rrv rrs) (by simp)
  rcases hrv.form with ⟨_, h⟩ | ⟨rg, rcap, rfl, hrg, hrn, hrc⟩
  · simp at h
  rcases hlr.form with ⟨_, h⟩ | ⟨lg, lcap, rfl, hlg, hln, hlc⟩
  · rw [h] at hl; simp at hl
  rcases hrr.form with ⟨_, h⟩ | ⟨qg, qcap, rfl, hqg, hqn, hqc⟩
  · rw [h] at hr; simp at hr
  have hc0 := hcell i l (by simp [← hi1])
  have hc1 := hcell (i + 1) r (by rw [List.getElem?_append_right (by omega), show i + 1 - ks1.length = 1 by omega]; rfl)
  rw [hlb] at hc0
  rw [hrb] at hc1
  obtain ⟨n0, n1, nf0, nf1, nlt⟩ := node_cells (s.h.ok (Res.node nb (.slice (some ⟨rg, 0, none⟩) (rs1 ++ x :: []).length rcap) (.slice (some ⟨kg, 0, none⟩) n kcap)) (by simp))
  obtain ⟨l0, l1, lf0, lf1, llt⟩ := node_cells (s.h.ok (Res.node lb (.slice (some ⟨lg, 0, none⟩) lrs.length lcap) lkv) (by simp))
  obtain ⟨q0, q1, qf0, qf1, qlt⟩ := node_cells (s.h.ok (Res.node rb (.slice (some ⟨qg, 0, none⟩) rrs.length qcap) rkv) (by simp))
  rw [← hm, hmm] at n0
  rw [hnn] at n1
  rw [hl] at l0
  rw [hr] at q0
  have hi62 : i ≤ 62 := by omega
  clear hkg0 s hrv hlr hrr hrn hln hqn hl hr hi1 hi2 hlen hk hn hm hnn hmm hcell hlb hrb
  obtain ⟨PP, hPP⟩ : ∃ PP : World → Prop, PP = fun w' => MergeSays w0 o kg0 nb lb rs1 [] lrs rrs x ks1 l [] lks rks Rest (.returned (.tuple #[])) w' := ⟨_, rfl⟩
  have HM2 : Hid (Calls Try.prog 42 #[.pointer (some ⟨nb, 0, none⟩), .int .i64 i] w fun e w' => e = .returned (.tuple #[]) ∧ PP w') := by
    refine HM.out.mono ?_
    intro e w' hx
    rw [hPP]
    obtain ⟨a1, a2, a3, a4, he, hS⟩ := hx
    exact ⟨he, a1, a2, a3, a4, rfl, hS⟩
  have HPP : Hid (∀ w', PP w' → MergeSays w0 o kg0 nb lb rs1 [] lrs rrs x ks1 l [] lks rks Rest (.returned (.tuple #[])) w') := by intro w' h; rw [hPP] at h; exact h
  refine Calls.mono (R := fun e w' => e = .returned (.int .i64 i) ∧ PP w') ?_ (fun e w' h => ⟨h.1, HPP.out w' h.2⟩)
  clear hPP HPP HM
  go_enter Try.func32, Try.ntmps32
  go_wp2_with (go_at_call 42; refine HM2.out.mono ?_; rintro e w' ⟨rfl, hp⟩; have HP : Hid (PP w') := hp; clear hp)
  try go_returns
  exact ⟨rfl, HP.out⟩

end Go.Proofs.Qxb6601706a
