import Derived.Test.Qxb6601706aSetP
namespace Go.Proofs.Qxb6601706a
open Go.RowKit
set_option linter.unusedVariables false
set_option linter.unusedSimpArgs false

theorem R_sub : ∀ (rs : List Ent) (ks : List Kid), rs.length ≤ ks.length → rs.Sublist (R rs ks)
  | [], ks, _ => List.nil_sublist _
  | r :: rs, [], h => by simp at h
  | r :: rs, k :: ks, h => List.Sublist.cons_cons _ ((R_sub rs ks (by simpa using h)).trans (List.sublist_append_right _ _))
theorem weave_sub {hc : Nat} {ks : List Kid} {rs : List Ent} (hk : KLen hc ks rs) : rs.Sublist (weave ks rs) := by
  cases ks with
  | nil => exact List.Sublist.refl _
  | cons k ks =>
    have : hc ≠ 0 := fun h => by have := hk.1 h; simp at this
    have := hk.2 this
    exact (R_sub rs ks (by simp at this; omega)).trans (List.sublist_append_right _ _)

theorem weave_cut (fk1 fk2 : List Kid) (fr1 fr2 : List Ent) (up : Ent) (h : (fk1 = [] ∧ fk2 = []) ∨ (fk1.length = fr1.length + 1 ∧ fk2 ≠ [])) : weave (fk1 ++ fk2) (fr1 ++ up :: fr2) = weave fk1 fr1 ++ up :: weave fk2 fr2 := by
  rcases h with ⟨rfl, rfl⟩ | ⟨h1, h2⟩
  · rfl
  · cases fk1 with
    | nil => simp at h1
    | cons k1 fk1 =>
      cases fk2 with
      | nil => exact absurd rfl h2
      | cons k2 t =>
        show k1.fl ++ R (fr1 ++ up :: fr2) (fk1 ++ k2 :: t) = _
        rw [R_append _ _ _ _ (by simpa using h1)]
        simp [R, weave]

/-- behind a split: the two halves shut -/
theorem split_after {w0 w' : World} {o : List Nat} {hc nb rb fb eb : Nat} {ob : Obj} {rv kv frv fkv rrv rkv : Value} {rs frs : List Ent} {up : Ent} {kx ks1 ks2 fks : List Kid}
    (S : St w0 o w' (Res.node nb rv kv :: Res.rowE rv rs :: Res.rowN kv kx :: Res.node fb frv fkv :: Res.rowE frv (frs.take 31) :: Res.rowN fkv (fks.take 32) :: Res.node rb rrv rkv :: Res.rowE rrv (frs.drop 32) :: Res.rowN rkv (fks.drop 32) :: (trees (hc - 1) fks ++ (Res.at eb ob :: (trees hc ks1 ++ trees hc ks2)))))
    (hf : frs.length = 63) (hup : frs[31]? = some up) (hkl : KLen hc fks frs) (hm : ∀ c ∈ fks, 31 ≤ c.r) :
    ∃ fL fR : Kid, St w0 o w' (Res.at eb ob :: Res.tree hc fL :: Res.tree hc fR :: Res.node nb rv kv :: Res.rowE rv rs :: Res.rowN kv kx :: (trees hc ks1 ++ trees hc ks2)) ∧ fL.b = fb ∧ fR.b = rb ∧ fL.r = 31 ∧ fR.r = 31 ∧ fL.fl ++ up :: fR.fl = weave fks frs := by
  have e1 : trees (hc - 1) fks = trees (hc - 1) (fks.take 32) ++ trees (hc - 1) (fks.drop 32) := by
    conv => lhs; rw [← List.take_append_drop 32 fks]
    simp only [trees, List.map_append]
  have S1 : St w0 o w' ([] ++ (parts hc fb frv fkv (frs.take 31) (fks.take 32) ++ (parts hc rb rrv rkv (frs.drop 32) (fks.drop 32) ++ (Res.at eb ob :: Res.node nb rv kv :: Res.rowE rv rs :: Res.rowN kv kx :: (trees hc ks1 ++ trees hc ks2))))) := by
    refine S.perm ?_
    rw [e1, List.append_assoc]
    show ([Res.node nb rv kv, Res.rowE rv rs, Res.rowN kv kx] ++ ([Res.node fb frv fkv, Res.rowE frv (frs.take 31), Res.rowN fkv (fks.take 32)] ++ ([Res.node rb rrv rkv, Res.rowE rrv (frs.drop 32), Res.rowN rkv (fks.drop 32)] ++ (trees (hc - 1) (fks.take 32) ++ (trees (hc - 1) (fks.drop 32) ++ (Res.at eb ob :: (trees hc ks1 ++ trees hc ks2))))))).Perm
      ([Res.node fb frv fkv, Res.rowE frv (frs.take 31), Res.rowN fkv (fks.take 32)] ++ (trees (hc - 1) (fks.take 32) ++ ([Res.node rb rrv rkv, Res.rowE rrv (frs.drop 32), Res.rowN rkv (fks.drop 32)] ++ (trees (hc - 1) (fks.drop 32) ++ (Res.at eb ob :: ([Res.node nb rv kv, Res.rowE rv rs, Res.rowN kv kx] ++ (trees hc ks1 ++ trees hc ks2)))))))
    generalize [Res.node nb rv kv, Res.rowE rv rs, Res.rowN kv kx] = A
    generalize [Res.node fb frv fkv, Res.rowE frv (frs.take 31), Res.rowN fkv (fks.take 32)] = F
    generalize [Res.node rb rrv rkv, Res.rowE rrv (frs.drop 32), Res.rowN rkv (fks.drop 32)] = G
    generalize trees (hc - 1) (fks.take 32) = T1
    generalize trees (hc - 1) (fks.drop 32) = T2
    generalize trees hc ks1 ++ trees hc ks2 = K
    refine (List.perm_append_comm_assoc A F _).trans (List.Perm.append_left F ?_)
    refine (List.perm_append_comm_assoc A G _).trans ?_
    refine (List.Perm.append_left G (List.perm_append_comm_assoc A T1 _)).trans ?_
    refine (List.perm_append_comm_assoc G T1 _).trans (List.Perm.append_left T1 (List.Perm.append_left G ?_))
    refine (List.perm_append_comm_assoc A T2 _).trans (List.Perm.append_left T2 ?_)
    exact List.perm_middle
  have hfk : (fks = [] ∨ fks.length = 64) := by
    by_cases h0 : hc = 0
    · exact .inl (hkl.1 h0)
    · exact .inr (by rw [hkl.2 h0, hf])
  have kl1 : KLen hc (fks.take 32) (frs.take 31) := by
    refine ⟨fun h => by rw [hkl.1 h]; rfl, fun h => ?_⟩
    have := hkl.2 h
    simp; omega
  have kl2 : KLen hc (fks.drop 32) (frs.drop 32) := by
    refine ⟨fun h => by rw [hkl.1 h]; rfl, fun h => ?_⟩
    have := hkl.2 h
    simp; omega
  obtain ⟨fL, S2, b1, r1, l1⟩ := St.shut [] _ S1 (by simp; omega) kl1 (fun c hc => hm c (List.mem_of_mem_take hc))
  obtain ⟨fR, S3, b2, r2, l2⟩ := St.shut [Res.tree hc fL] _ S2 (by simp; omega) kl2 (fun c hc => hm c (List.mem_of_mem_drop hc))
  refine ⟨fL, fR, S3.perm (perm_pick 1 rfl (perm_pick 1 rfl (perm_pick 0 rfl (List.Perm.refl _)))), b1, b2, by rw [r1]; simp; omega, by rw [r2]; simp; omega, ?_⟩
  rw [l1, l2]
  have e2 : frs = frs.take 31 ++ up :: frs.drop 32 := by
    obtain ⟨hi, he⟩ := List.getElem?_eq_some_iff.1 hup
    rw [← he, ← List.drop_eq_getElem_cons, List.take_append_drop]
  have := weave_cut (fks.take 32) (fks.drop 32) (frs.take 31) (frs.drop 32) up (by
    rcases hfk with h | h
    · left; rw [h]; exact ⟨rfl, rfl⟩
    · right
      refine ⟨by simp; omega, fun h' => ?_⟩
      rw [List.drop_eq_nil_iff] at h'; omega)
  rw [List.take_append_drop, ← e2] at this
  exact this.symm

theorem split_weave {ks1 ks2 : List Kid} {rs1 rs2 : List Ent} {f fL fR : Kid} {up : Ent} (hl : ks1.length = rs1.length) (hf : fL.fl ++ up :: fR.fl = f.fl) :
    weave (ks1 ++ fL :: fR :: ks2) (rs1 ++ up :: rs2) = weave (ks1 ++ f :: ks2) (rs1 ++ rs2) := by
  rw [weave_zip _ _ _ _ _ hl, weave_zip _ _ _ _ _ hl, ← hf]
  simp [R]

theorem shut_found {w0 w' : World} {o : List Nat} {eb gk b : Nat} {ob : Obj} {rv kv : Value} {r1 r2 : List Ent} {e x : Ent} {ks : List Kid} (S : St w0 o w' (Res.at eb ob :: parts gk b rv kv (r1 ++ e :: r2) ks)) (h63 : r1.length + r2.length + 1 ≤ 63)
    (hkl : KLen gk ks (r1 ++ x :: r2)) (hkm : ∀ c ∈ ks, 31 ≤ c.r) (hs : Sorted (weave ks (r1 ++ x :: r2))) (hk : x.key = e.key) :
    ∃ c' : Kid, St w0 o w' [Res.at eb ob, Res.tree gk c'] ∧ c'.b = b ∧ c'.fl = insertL e (weave ks (r1 ++ x :: r2)) ∧ c'.r = r1.length + r2.length + 1 ∧ Has e.key (weave ks (r1 ++ x :: r2)) := by
  obtain ⟨c', S2, hb, hr, hf⟩ := St.shut [Res.at eb ob] [] (by rw [List.append_nil]; exact S) (by simp; omega) ⟨hkl.1, fun h => by have := hkl.2 h; simpa using this⟩ hkm
  obtain ⟨P, Q, hPQ⟩ := weave_at ks r1 r2 (by
    by_cases h : gk = 0
    · exact .inl (hkl.1 h)
    · right; have := hkl.2 h; simp at this; omega)
  refine ⟨c', S2, hb, ?_, by rw [hr]; simp; omega, ?_⟩
  · rw [hf, hPQ, hPQ]
    rw [hPQ] at hs
    have h1 : ∀ y ∈ P, Lt y.key e.key := fun y hy => by rw [← hk]; exact hs.cross hy (by simp)
    have h2 : ∀ y ∈ Q, Lt e.key y.key := fun y hy => by rw [← hk]; exact (List.pairwise_cons.1 hs.right).1 y hy
    have := insertL_mid (e := e) (m := [x]) h1 h2
    rw [insertL_one hk] at this
    simp at this
    exact this.symm
  · rw [hPQ]; exact ⟨x, by simp, hk⟩

theorem shut_leaf {w0 w' : World} {o : List Nat} {eb b : Nat} {ob : Obj} {rv kv : Value} {r1 r2 : List Ent} {e : Ent} (S : St w0 o w' (Res.at eb ob :: parts 0 b rv kv (r1 ++ e :: r2) [])) (h63 : r1.length + r2.length + 1 ≤ 63)
    (h1 : ∀ x ∈ r1, Lt x.key e.key) (h2 : ∀ x ∈ r2, Lt e.key x.key) :
    ∃ c' : Kid, St w0 o w' [Res.at eb ob, Res.tree 0 c'] ∧ c'.b = b ∧ c'.fl = insertL e (r1 ++ r2) ∧ c'.r = r1.length + r2.length + 1 ∧ ¬ Has e.key (r1 ++ r2) := by
  obtain ⟨c', S2, hb, hr, hf⟩ := St.shut [Res.at eb ob] [] (by rw [List.append_nil]; exact S) (by simp; omega) ⟨fun _ => rfl, fun h => absurd rfl h⟩ (by simp)
  refine ⟨c', S2, hb, ?_, by rw [hr]; simp; omega, ?_⟩
  · rw [hf]
    have := insertL_mid (e := e) (m := []) h1 h2
    rw [insertL_nil] at this
    simp at this
    exact this.symm
  · rintro ⟨x, hx, hk⟩
    rcases List.mem_append.1 hx with h | h
    · exact (h1 x h).ne hk
    · exact (h2 x h).ne hk.symm

theorem rs_after {rs : List Ent} {key : ByteArray} {i : Nat} (hs : Sorted rs) (h2 : ∀ x ∈ rs.drop i, ¬ Lt x.key key) (hn : ¬ ∃ x, rs[i]? = some x ∧ x.key = key) : ∀ x ∈ rs.drop i, Lt key x.key := by
  have hsd : Sorted (rs.drop i) := hs.sublist (List.drop_sublist _ _)
  have h0 : (rs.drop i)[0]? = rs[i]? := by simp
  cases hd : rs.drop i with
  | nil => simp
  | cons y t =>
    rw [hd] at hsd h2 h0
    have hy : Lt key y.key := by
      rcases Lt.tri y.key key with h | h | h
      · exact absurd h (h2 y (by simp))
      · exact absurd ⟨y, by rw [← h0]; rfl, h⟩ hn
      · exact h
    intro x hx
    rcases List.mem_cons.1 hx with rfl | hx
    · exact hy
    · exact hy.trans ((List.pairwise_cons.1 hsd).1 x hx)

theorem St.drewN {w0 w : World} {o : List Nat} {L : List Res} (s : St w0 o w L) (n : Nat) : St w0 o (w.drewN n) L :=
  ⟨⟨fun x hx => x.loc w (w.drewN n) (fun _ _ => rfl) (s.h.ok x hx), s.h.nodup, s.h.lt⟩, ⟨s.f.os, s.f.tape, s.f.output, s.f.size, s.f.keep, s.f.sub⟩⟩

end Go.Proofs.Qxb6601706a
