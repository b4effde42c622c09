import Derived.Test.Qxb6601706aSt
import Derived.Test.Qxb6601706aSlE2
import Derived.Test.Qxb6601706aSlN2
namespace Go.Proofs.Qxb6601706a
open Go.RowKit
set_option linter.unusedVariables false
set_option linter.unusedSimpArgs false

/-! slices.Insert, Delete, Clone: what is held behind them -/
def RowESays (w0 : World) (o : List Nat) (A B : List Res) (l : List Ent) (en : Ending) (w' : World) : Prop :=
  ∃ g cap, en = .returned (.slice (some ⟨g, 0, none⟩) l.length cap) ∧ St w0 o w' (A ++ Res.rowE (.slice (some ⟨g, 0, none⟩) l.length cap) l :: B)
def RowNSays (w0 : World) (o : List Nat) (A B : List Res) (l : List Kid) (en : Ending) (w' : World) : Prop :=
  ∃ g cap, en = .returned (.slice (some ⟨g, 0, none⟩) l.length cap) ∧ St w0 o w' (A ++ Res.rowN (.slice (some ⟨g, 0, none⟩) l.length cap) l :: B)

theorem perm_pick {α : Type} {x : α} : ∀ {M L : List α} (n : Nat), M[n]? = some x → L.Perm (M.eraseIdx n) → (x :: L).Perm M
  | [], L, n, hn, h => by simp at hn
  | y :: M, L, 0, hn, h => by
    simp at hn
    subst hn
    exact h.cons _
  | y :: M, L, n + 1, hn, h => by
    have h1 : L.Perm (y :: M.eraseIdx n) := h
    have h2 : (x :: M.eraseIdx n).Perm M := perm_pick n (by simpa using hn) (List.Perm.refl _)
    exact ((h1.cons x).trans (List.Perm.swap y x _)).trans (h2.cons y)

section
variable {w0 w : World} {o : List Nat}

theorem at_apart {A B : List Res} {vb : Nat} {ob : Obj} {x : Res} (s : St w0 o w (Res.at vb ob :: (A ++ x :: B))) : vb ∉ x.blocks := by
  have h := s.h.nodup
  rw [bl_cons, List.nodup_append] at h
  intro hx
  refine h.2.2 vb (by simp [Res.at]) vb ?_ rfl
  rw [bl_append, bl_cons]
  simp [hx]

theorem insE_st (A B : List Res) {v : Value} {rs1 rs2 : List Ent} {e : Ent} {vb i : Nat} {tb : TypeId} (s : St w0 o w (Res.at vb (.cells e.cells.toArray tb) :: (A ++ Res.rowE v (rs1 ++ rs2) :: B))) (hl : rs1.length + rs2.length ≤ 1000) (hi : rs1.length = i) :
    Calls Try.prog 37 #[v, .int .i64 i, .slice (some ⟨vb, 0, none⟩) 1 1] w (RowESays w0 o A B (rs1 ++ e :: rs2)) := by
  have hx : OwnE w 52 v (rs1 ++ rs2) := s.h.ok (Res.rowE v (rs1 ++ rs2)) (by simp)
  have hvb : w.heap[vb]? = some (.cells e.cells.toArray tb (0, 0)) := s.h.ok (Res.at vb (.cells e.cells.toArray tb)) (by simp)
  have hne : v.ownBlock ≠ some vb := fun h => at_apart s (by simp [Res.rowE, h])
  have := insE v (rs1 ++ rs2).length i vb (flatE (rs1 ++ rs2)) e.cells tb w hx (by simpa using hl) (by simp; omega) rfl (cells_one1 e) (flatE_one1 _) hvb hne
  refine this.mono ?_
  intro en w' hr
  rw [flatE_take, flatE_drop, List.take_left' hi, List.drop_left' hi] at hr
  obtain ⟨g, cap, he, S⟩ := St.rowE A B (s.sub (List.sublist_cons_self _ _)) hr (rs1 ++ e :: rs2) (by simp; omega) (by simp [flatE_append, flatE_cons])
  rw [show (rs1 ++ rs2).length + 1 = (rs1 ++ e :: rs2).length by simp; omega] at he S
  exact ⟨g, cap, he, S⟩
theorem insN_st (A B : List Res) {v : Value} {rs1 rs2 : List Kid} {e : Kid} {vb i : Nat} {tb : TypeId} (s : St w0 o w (Res.at vb (.cells #[.pointer (some ⟨e.b, 0, none⟩)] tb) :: (A ++ Res.rowN v (rs1 ++ rs2) :: B))) (hl : rs1.length + rs2.length ≤ 1000) (hi : rs1.length = i) :
    Calls Try.prog 40 #[v, .int .i64 i, .slice (some ⟨vb, 0, none⟩) 1 1] w (RowNSays w0 o A B (rs1 ++ e :: rs2)) := by
  have hx : OwnN w v (rs1 ++ rs2) := s.h.ok (Res.rowN v (rs1 ++ rs2)) (by simp)
  have hvb : w.heap[vb]? = some (.cells #[.pointer (some ⟨e.b, 0, none⟩)] tb (0, 0)) := s.h.ok (Res.at vb (.cells #[.pointer (some ⟨e.b, 0, none⟩)] tb)) (by simp)
  have hne : v.ownBlock ≠ some vb := fun h => at_apart s (by simp [Res.rowN, h])
  have := insN v (rs1 ++ rs2).length i vb (ptrs (rs1 ++ rs2)) [.pointer (some ⟨e.b, 0, none⟩)] tb w hx (by simpa using hl) (by simp; omega) rfl (by intro u hu; simp at hu; subst hu; rfl) (ptrs_one1 _) hvb hne
  refine this.mono ?_
  intro en w' hr
  rw [ptrs_take, ptrs_drop, List.take_left' hi, List.drop_left' hi] at hr
  obtain ⟨g, cap, he, S⟩ := St.rowN A B (s.sub (List.sublist_cons_self _ _)) hr (rs1 ++ e :: rs2) (by simp; omega) (by simp [ptrs])
  rw [show (rs1 ++ rs2).length + 1 = (rs1 ++ e :: rs2).length by simp; omega] at he S
  exact ⟨g, cap, he, S⟩
theorem delE_st (A B : List Res) {g n cap : Nat} {l1 l2 l3 : List Ent} {i j : Nat} (s : St w0 o w (A ++ Res.rowE (.slice (some ⟨g, 0, none⟩) n cap) (l1 ++ (l2 ++ l3)) :: B)) (hn : n = l1.length + (l2.length + l3.length)) (hl : n ≤ 1000) (hi : l1.length = i) (hj : l1.length + l2.length = j) (h2 : 0 < l2.length) :
    Calls Try.prog 38 #[.slice (some ⟨g, 0, none⟩) n cap, .int .i64 i, .int .i64 j] w (RowESays w0 o A B (l1 ++ l3)) := by
  have hx : OwnE w 52 (.slice (some ⟨g, 0, none⟩) n cap) (l1 ++ (l2 ++ l3)) := s.h.mid
  have hx' : w.ownsRow 0 52 4 (.slice (some ⟨g, 0, none⟩) n cap) n (flatE (l1 ++ (l2 ++ l3))) := by
    have e : n = (l1 ++ (l2 ++ l3)).length := by simp; omega
    unfold OwnE at hx
    rw [← e] at hx
    exact hx
  have := delE g n cap i j (flatE (l1 ++ (l2 ++ l3))) w hx' hl (by omega) (by omega) (flatE_one1 _)
  refine this.mono ?_
  intro en w' hr
  rw [flatE_take, flatE_drop, List.take_left' hi, ← List.append_assoc, List.drop_left' (by simp; omega)] at hr
  obtain ⟨g', cap', he, S⟩ := St.rowE A B s hr (l1 ++ l3) (by simp; omega) (by simp [flatE_append])
  rw [show i + (n - j) = (l1 ++ l3).length by simp; omega] at he S
  exact ⟨g', cap', he, S⟩
theorem delN_st (A B : List Res) {g n cap : Nat} {l1 l2 l3 : List Kid} {i j : Nat} (s : St w0 o w (A ++ Res.rowN (.slice (some ⟨g, 0, none⟩) n cap) (l1 ++ (l2 ++ l3)) :: B)) (hn : n = l1.length + (l2.length + l3.length)) (hl : n ≤ 1000) (hi : l1.length = i) (hj : l1.length + l2.length = j) (h2 : 0 < l2.length) :
    Calls Try.prog 41 #[.slice (some ⟨g, 0, none⟩) n cap, .int .i64 i, .int .i64 j] w (RowNSays w0 o A B (l1 ++ l3)) := by
  have hx : OwnN w (.slice (some ⟨g, 0, none⟩) n cap) (l1 ++ (l2 ++ l3)) := s.h.mid
  have hx' : w.ownsRow 0 32 1 (.slice (some ⟨g, 0, none⟩) n cap) n (ptrs (l1 ++ (l2 ++ l3))) := by
    have e : n = (l1 ++ (l2 ++ l3)).length := by simp; omega
    unfold OwnN at hx
    rw [← e] at hx
    exact hx
  have := delN g n cap i j (ptrs (l1 ++ (l2 ++ l3))) w hx' hl (by omega) (by omega) (ptrs_one1 _)
  refine this.mono ?_
  intro en w' hr
  rw [ptrs_take, ptrs_drop, List.take_left' hi, ← List.append_assoc, List.drop_left' (by simp; omega)] at hr
  obtain ⟨g', cap', he, S⟩ := St.rowN A B s hr (l1 ++ l3) (by simp; omega) (by simp [ptrs_append])
  rw [show i + (n - j) = (l1 ++ l3).length by simp; omega] at he S
  exact ⟨g', cap', he, S⟩
end

end Go.Proofs.Qxb6601706a
