import Derived.Test.Qxb6601706aGrowM
namespace Go.Proofs.Qxb6601706a
open Go.RowKit
set_option linter.unusedVariables false
set_option linter.unusedSimpArgs false

theorem perm5 {α : Type} (A T1 C T2 B K : List α) : ((A ++ T1) ++ ((C ++ T2) ++ (B ++ K))).Perm (B ++ (A ++ (C ++ (T1 ++ (T2 ++ K))))) := by
  simp only [List.append_assoc]
  -- A ++ (T1 ++ (C ++ (T2 ++ (B ++ K))))
  refine (List.Perm.append_left A (List.Perm.append_left T1 (List.Perm.append_left C (List.perm_append_comm_assoc T2 B K)))).trans ?_
  refine (List.Perm.append_left A (List.Perm.append_left T1 (List.perm_append_comm_assoc C B _))).trans ?_
  refine (List.Perm.append_left A (List.perm_append_comm_assoc T1 B _)).trans ?_
  refine (List.perm_append_comm_assoc A B _).trans (List.Perm.append_left B (List.Perm.append_left A ?_))
  exact List.perm_append_comm_assoc T1 C _
theorem perm3 {α : Type} (A T B K : List α) : ((A ++ T) ++ (B ++ K)).Perm (B ++ (A ++ (T ++ K))) := by
  simp only [List.append_assoc]
  refine (List.Perm.append_left A (List.perm_append_comm_assoc T B K)).trans ?_
  exact List.perm_append_comm_assoc A B _

def head3 (b : Nat) (rv kv : Value) (rs : List Ent) (ks : List Kid) : List Res := [Res.node b rv kv, Res.rowE rv rs, Res.rowN kv ks]
theorem parts_eq (h b : Nat) (rv kv : Value) (rs : List Ent) (ks : List Kid) : parts h b rv kv rs ks = head3 b rv kv rs ks ++ trees (h - 1) ks := rfl

section
variable {w0 w : World} {o : List Nat}
theorem open2 {h : Nat} {a b : Kid} {B K : List Res} (S : St w0 o w (Res.tree h a :: Res.tree h b :: (B ++ K))) :
    ∃ ars aks arv akv brs bks brv bkv, St w0 o w (B ++ (head3 a.b arv akv ars aks ++ (head3 b.b brv bkv brs bks ++ (trees (h - 1) aks ++ (trees (h - 1) bks ++ K))))) ∧
      a.r = ars.length ∧ a.fl = weave aks ars ∧ ars.length ≤ 63 ∧ KLen h aks ars ∧ (∀ c ∈ aks, 31 ≤ c.r) ∧ b.r = brs.length ∧ b.fl = weave bks brs ∧ brs.length ≤ 63 ∧ KLen h bks brs ∧ (∀ c ∈ bks, 31 ≤ c.r) := by
  obtain ⟨ars, aks, arv, akv, S1, ha, ha63, hakl, hakm⟩ := St.open [] _ S
  obtain ⟨brs, bks, brv, bkv, S2, hb, hb63, hbkl, hbkm⟩ := St.open (parts h a.b arv akv ars aks) _ S1
  refine ⟨ars, aks, arv, akv, brs, bks, brv, bkv, S2.perm ?_, by rw [ha], by rw [ha], ha63, hakl, hakm, by rw [hb], by rw [hb], hb63, hbkl, hbkm⟩
  rw [parts_eq, parts_eq]
  exact perm5 _ _ _ _ _ _
theorem shut2 {h ab bb : Nat} {ars brs : List Ent} {aks bks : List Kid} {arv akv brv bkv : Value} {B K : List Res} (S : St w0 o w (B ++ (head3 ab arv akv ars aks ++ (head3 bb brv bkv brs bks ++ (trees (h - 1) aks ++ (trees (h - 1) bks ++ K))))))
    (ha63 : ars.length ≤ 63) (hakl : KLen h aks ars) (hakm : ∀ c ∈ aks, 31 ≤ c.r) (hb63 : brs.length ≤ 63) (hbkl : KLen h bks brs) (hbkm : ∀ c ∈ bks, 31 ≤ c.r) :
    ∃ a b : Kid, St w0 o w (Res.tree h a :: Res.tree h b :: (B ++ K)) ∧ a.b = ab ∧ a.r = ars.length ∧ a.fl = weave aks ars ∧ b.b = bb ∧ b.r = brs.length ∧ b.fl = weave bks brs := by
  have S1 : St w0 o w ([] ++ (parts h ab arv akv ars aks ++ (parts h bb brv bkv brs bks ++ (B ++ K)))) := by
    refine S.perm ?_
    rw [parts_eq, parts_eq]
    exact (perm5 _ _ _ _ _ _).symm
  obtain ⟨a, S2, a1, a2, a3⟩ := St.shut [] _ S1 ha63 hakl hakm
  obtain ⟨b, S3, b1, b2, b3⟩ := St.shut [Res.tree h a] _ S2 hb63 hbkl hbkm
  exact ⟨a, b, S3, a1, a2, a3, b1, b2, b3⟩
theorem shut1 {h ab : Nat} {ars : List Ent} {aks : List Kid} {arv akv : Value} {B K : List Res} (S : St w0 o w (B ++ (head3 ab arv akv ars aks ++ (trees (h - 1) aks ++ K))))
    (ha63 : ars.length ≤ 63) (hakl : KLen h aks ars) (hakm : ∀ c ∈ aks, 31 ≤ c.r) :
    ∃ a : Kid, St w0 o w (Res.tree h a :: (B ++ K)) ∧ a.b = ab ∧ a.r = ars.length ∧ a.fl = weave aks ars := by
  have S1 : St w0 o w ([] ++ (parts h ab arv akv ars aks ++ (B ++ K))) := by
    refine S.perm ?_
    rw [parts_eq]
    exact (perm3 _ _ _ _).symm
  obtain ⟨a, S2, a1, a2, a3⟩ := St.shut [] _ S1 ha63 hakl hakm
  exact ⟨a, S2, a1, a2, a3⟩
end

theorem trees_append (h : Nat) (a b : List Kid) : trees h (a ++ b) = trees h a ++ trees h b := by simp [trees]
theorem trees_cons (h : Nat) (a : Kid) (b : List Kid) : trees h (a :: b) = Res.tree h a :: trees h b := rfl

/-- a node with its children shut, child c in the middle -/
def NodeAt (h nb : Nat) (rv kv : Value) (rs1 rs2 : List Ent) (ks1 : List Kid) (c : Kid) (ks2 : List Kid) : List Res :=
  head3 nb rv kv (rs1 ++ rs2) (ks1 ++ c :: ks2) ++ (trees h ks1 ++ Res.tree h c :: trees h ks2)

theorem nodeAt_left (h nb : Nat) (rv kv : Value) (rs1 rs2 : List Ent) (k1 : List Kid) (l c : Kid) (ks2 : List Kid) :
    (NodeAt h nb rv kv rs1 rs2 (k1 ++ [l]) c ks2).Perm (Res.tree h l :: Res.tree h c :: (head3 nb rv kv (rs1 ++ rs2) (k1 ++ l :: c :: ks2) ++ (trees h k1 ++ trees h ks2))) := by
  unfold NodeAt
  rw [trees_append, show k1 ++ [l] ++ c :: ks2 = k1 ++ l :: c :: ks2 by simp]
  show (head3 nb rv kv (rs1 ++ rs2) (k1 ++ l :: c :: ks2) ++ ((trees h k1 ++ [Res.tree h l]) ++ ([Res.tree h c] ++ trees h ks2))).Perm ([Res.tree h l, Res.tree h c] ++ (head3 nb rv kv (rs1 ++ rs2) (k1 ++ l :: c :: ks2) ++ (trees h k1 ++ trees h ks2)))
  generalize head3 nb rv kv (rs1 ++ rs2) (k1 ++ l :: c :: ks2) = H
  rw [List.append_assoc]
  show (H ++ (trees h k1 ++ ([Res.tree h l, Res.tree h c] ++ trees h ks2))).Perm _
  refine (List.Perm.append_left H (List.perm_append_comm_assoc _ _ _)).trans ?_
  exact List.perm_append_comm_assoc _ _ _
theorem nodeAt_right (h nb : Nat) (rv kv : Value) (rs1 rs2 : List Ent) (k1 : List Kid) (c r : Kid) (k2 : List Kid) :
    (NodeAt h nb rv kv rs1 rs2 k1 c (r :: k2)).Perm (Res.tree h c :: Res.tree h r :: (head3 nb rv kv (rs1 ++ rs2) (k1 ++ c :: r :: k2) ++ (trees h k1 ++ trees h k2))) := by
  unfold NodeAt
  show (head3 nb rv kv (rs1 ++ rs2) (k1 ++ c :: r :: k2) ++ (trees h k1 ++ ([Res.tree h c, Res.tree h r] ++ trees h k2))).Perm ([Res.tree h c, Res.tree h r] ++ (head3 nb rv kv (rs1 ++ rs2) (k1 ++ c :: r :: k2) ++ (trees h k1 ++ trees h k2)))
  refine (List.Perm.append_left _ (List.perm_append_comm_assoc _ _ _)).trans ?_
  exact List.perm_append_comm_assoc _ _ _
theorem nodeAt_one (h nb : Nat) (rv kv : Value) (rs1 rs2 : List Ent) (k1 : List Kid) (c : Kid) (k2 : List Kid) :
    (NodeAt h nb rv kv rs1 rs2 k1 c k2).Perm (Res.tree h c :: (head3 nb rv kv (rs1 ++ rs2) (k1 ++ c :: k2) ++ (trees h k1 ++ trees h k2))) := by
  unfold NodeAt
  show (head3 nb rv kv (rs1 ++ rs2) (k1 ++ c :: k2) ++ (trees h k1 ++ ([Res.tree h c] ++ trees h k2))).Perm ([Res.tree h c] ++ (head3 nb rv kv (rs1 ++ rs2) (k1 ++ c :: k2) ++ (trees h k1 ++ trees h k2)))
  refine (List.Perm.append_left _ (List.perm_append_comm_assoc _ _ _)).trans ?_
  exact List.perm_append_comm_assoc _ _ _

end Go.Proofs.Qxb6601706a
