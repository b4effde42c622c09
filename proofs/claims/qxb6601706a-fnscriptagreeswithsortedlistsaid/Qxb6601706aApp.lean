import Derived.Test.Qxb6601706aBldP
import Derived.Test.Qxb6601706aLex3
namespace Go.Proofs.Qxb6601706a
open Go.RowKit
set_option linter.unusedVariables false
set_option linter.unusedSimpArgs false

/-! append over St -/
section
variable {w0 w : World} {o : List Nat} {op : Oper} {a : Act} {K : Act → World → Prop} {Q : Exit → Act → World → Prop}

/-- append(v, e) -/
theorem appE_st (A B : List Res) (s x : Operand) (ho : op.op = .call { callee := .builtin .append, args := #[s, x], argTypes := #[35, 35] }) {v : Value} {l : List Ent} {e : Ent} {vb : Nat}
    (S : St w0 o w (Res.at vb (.cells #[.string e.key, .slice e.va e.vl e.vc, .int .u64 e.rev, .int .u64 e.lease] 52) :: (A ++ Res.rowE v l :: B))) (hs : a.eval s = v) (hx : a.eval x = .slice (some ⟨vb, 0, none⟩) 1 1) (hl : l.length ≤ 1000)
    (h : ∀ g cap w', St w0 o w' (A ++ Res.rowE (.slice (some ⟨g, 0, none⟩) (l ++ [e]).length cap) (l ++ [e]) :: B) → K (a.put op.dst (.slice (some ⟨g, 0, none⟩) (l ++ [e]).length cap)) w') : op.wp Try.prog a w K Q := by
  refine wp_app52 w s x ho v l hs (S.h.ok (Res.rowE v l) (by simp)) vb e hx (S.h.ok (Res.at vb (.cells #[.string e.key, .slice e.va e.vl e.vc, .int .u64 e.rev, .int .u64 e.lease] 52)) (by simp)) (by omega) ?_
  intro g cap w' h1 h2 h3
  have e1 : l.length + 1 = (l ++ [e]).length := by simp
  rw [e1] at h1 ⊢
  obtain ⟨g', cap', he, S'⟩ := St.rowE A B (S.sub (List.sublist_cons_self _ _)) (n := (l ++ [e]).length) (xs := flatE (l ++ [e])) (en := .returned (.slice (some ⟨g, 0, none⟩) (l ++ [e]).length cap)) ⟨g, cap, rfl, h1, h2, h3⟩ (l ++ [e]) rfl rfl
  simp only [Ending.returned.injEq, Value.slice.injEq, Option.some.injEq, Addr.mk.injEq, and_true, true_and] at he
  obtain ⟨rfl, rfl⟩ := he
  exact h g cap w' S'
/-- append(v, u...), rows of entries -/
theorem appEs_st (A B C : List Res) (s x : Operand) (ho : op.op = .call { callee := .builtin .append, args := #[s, x], argTypes := #[35, 35] }) {v : Value} {l l2 : List Ent} {g2 c2 : Nat}
    (S : St w0 o w (A ++ Res.rowE v l :: (B ++ Res.rowE (.slice (some ⟨g2, 0, none⟩) l2.length c2) l2 :: C))) (hs : a.eval s = v) (hx : a.eval x = .slice (some ⟨g2, 0, none⟩) l2.length c2) (hl : l.length ≤ 1000) (hl2 : l2.length ≤ 1000) (h0 : 0 < l2.length)
    (h : ∀ g cap w', St w0 o w' (A ++ Res.rowE (.slice (some ⟨g, 0, none⟩) (l ++ l2).length cap) (l ++ l2) :: (B ++ Res.rowE (.slice (some ⟨g2, 0, none⟩) l2.length c2) l2 :: C)) → K (a.put op.dst (.slice (some ⟨g, 0, none⟩) (l ++ l2).length cap)) w') : op.wp Try.prog a w K Q := by
  obtain ⟨i0, hi, hz0, hz1, hz2⟩ := info_parts Try.info52
  have ho2 : OwnE w 52 (.slice (some ⟨g2, 0, none⟩) l2.length c2) l2 := S.h.ok (Res.rowE (.slice (some ⟨g2, 0, none⟩) l2.length c2) l2) (by simp)
  have hcv : ∀ j u, (flatE l2)[j]? = some u → w.cell? ((⟨g2, 0, none⟩ : Addr).add j) = some u := by
    intro j u hu
    have hj : j < l2.length * 4 := by rw [← flatE_length]; exact (List.getElem?_eq_some_iff.1 hu).1
    rw [Addr.add_lit, Nat.zero_add, ho2.cellAt j hj, hu]
  refine wp_append_lies _ s x 35 ho 0 52 i0 (.agg #[.string ByteArray.empty, .slice none 0 0, .int .u64 0, .int .u64 0]) 4 56 Try.under35 hi hz0 hz1 hz2 rfl (by omega) v l.length (flatE l) hs (S.h.ok (Res.rowE v l) (by simp)) ⟨g2, 0, none⟩ l2.length c2 (flatE l2) hx (flatE_length l2) hcv (flatE_one1 l2) h0 (by unfold maxLen; omega) (by omega) (Nat.zero_le _) _ rfl ?_
  intro g cap w' h1 h2 h3 h4
  have e1 : l.length + l2.length = (l ++ l2).length := by simp
  rw [e1] at h1 ⊢
  rw [← flatE_append] at h1
  obtain ⟨g', cap', he, S'⟩ := St.rowE A _ S (n := (l ++ l2).length) (xs := flatE (l ++ l2)) (en := .returned (.slice (some ⟨g, 0, none⟩) (l ++ l2).length cap)) ⟨g, cap, rfl, h1, h2, by rcases h3 with h | h; exact .inl h; exact .inr (by omega)⟩ (l ++ l2) rfl rfl
  simp only [Ending.returned.injEq, Value.slice.injEq, Option.some.injEq, Addr.mk.injEq, and_true, true_and] at he
  obtain ⟨rfl, rfl⟩ := he
  exact h g cap w' S'
/-- append(v, k), rows of nodes -/
theorem appN_st (A B : List Res) (s x : Operand) (ho : op.op = .call { callee := .builtin .append, args := #[s, x], argTypes := #[36, 36] }) {v : Value} {l : List Kid} {k : Kid} {vb : Nat}
    (S : St w0 o w (Res.at vb (.cells #[.pointer (some ⟨k.b, 0, none⟩)] 32) :: (A ++ Res.rowN v l :: B))) (hs : a.eval s = v) (hx : a.eval x = .slice (some ⟨vb, 0, none⟩) 1 1) (hl : l.length ≤ 1000)
    (h : ∀ g cap w', St w0 o w' (A ++ Res.rowN (.slice (some ⟨g, 0, none⟩) (l ++ [k]).length cap) (l ++ [k]) :: B) → K (a.put op.dst (.slice (some ⟨g, 0, none⟩) (l ++ [k]).length cap)) w') : op.wp Try.prog a w K Q := by
  obtain ⟨i0, hi, hz0, hz1, hz2⟩ := info_parts Try.info32
  have hvb : w.heap[vb]? = some (.cells #[.pointer (some ⟨k.b, 0, none⟩)] 32 (0, 0)) := S.h.ok (Res.at vb (.cells #[.pointer (some ⟨k.b, 0, none⟩)] 32)) (by simp)
  have hcv : ∀ j u, [Value.pointer (some ⟨k.b, 0, none⟩)][j]? = some u → w.cell? ((⟨vb, 0, none⟩ : Addr).add j) = some u := cells_at (cur := #[.pointer (some ⟨k.b, 0, none⟩)]) hvb 0 _ (by intro j v hv; simpa using hv)
  refine wp_append_lies _ s x 36 ho 0 32 i0 (.pointer none) 1 8 Try.under36 hi hz0 hz1 hz2 rfl (by omega) v l.length (ptrs l) hs (S.h.ok (Res.rowN v l) (by simp)) ⟨vb, 0, none⟩ 1 1 [.pointer (some ⟨k.b, 0, none⟩)] hx rfl hcv (by intro u hu; simp at hu; subst hu; rfl) (by omega) (by unfold maxLen; omega) (by omega) (Nat.zero_le _) _ rfl ?_
  intro g cap w' h1 h2 h3 h4
  have e1 : l.length + 1 = (l ++ [k]).length := by simp
  rw [e1] at h1 ⊢
  obtain ⟨g', cap', he, S'⟩ := St.rowN A B (S.sub (List.sublist_cons_self _ _)) (n := (l ++ [k]).length) (xs := ptrs (l ++ [k])) (en := .returned (.slice (some ⟨g, 0, none⟩) (l ++ [k]).length cap)) ⟨g, cap, rfl, by rw [ptrs_append]; exact h1, h2, by rcases h3 with h | h; exact .inl h; exact .inr (by omega)⟩ (l ++ [k]) rfl rfl
  simp only [Ending.returned.injEq, Value.slice.injEq, Option.some.injEq, Addr.mk.injEq, and_true, true_and] at he
  obtain ⟨rfl, rfl⟩ := he
  exact h g cap w' S'
/-- append(v, u...), rows of nodes -/
theorem appNs_st (A B C : List Res) (s x : Operand) (ho : op.op = .call { callee := .builtin .append, args := #[s, x], argTypes := #[36, 36] }) {v : Value} {l l2 : List Kid} {g2 c2 : Nat}
    (S : St w0 o w (A ++ Res.rowN v l :: (B ++ Res.rowN (.slice (some ⟨g2, 0, none⟩) l2.length c2) l2 :: C))) (hs : a.eval s = v) (hx : a.eval x = .slice (some ⟨g2, 0, none⟩) l2.length c2) (hl : l.length ≤ 1000) (hl2 : l2.length ≤ 1000) (h0 : 0 < l2.length)
    (h : ∀ g cap w', St w0 o w' (A ++ Res.rowN (.slice (some ⟨g, 0, none⟩) (l ++ l2).length cap) (l ++ l2) :: (B ++ Res.rowN (.slice (some ⟨g2, 0, none⟩) l2.length c2) l2 :: C)) → K (a.put op.dst (.slice (some ⟨g, 0, none⟩) (l ++ l2).length cap)) w') : op.wp Try.prog a w K Q := by
  obtain ⟨i0, hi, hz0, hz1, hz2⟩ := info_parts Try.info32
  have ho2 : OwnN w (.slice (some ⟨g2, 0, none⟩) l2.length c2) l2 := S.h.ok (Res.rowN (.slice (some ⟨g2, 0, none⟩) l2.length c2) l2) (by simp)
  have hcv : ∀ j u, (ptrs l2)[j]? = some u → w.cell? ((⟨g2, 0, none⟩ : Addr).add j) = some u := by
    intro j u hu
    have hj : j < l2.length * 1 := by rw [Nat.mul_one, ← ptrs_length]; exact (List.getElem?_eq_some_iff.1 hu).1
    rw [Addr.add_lit, Nat.zero_add, ho2.cellAt j hj, hu]
  refine wp_append_lies _ s x 36 ho 0 32 i0 (.pointer none) 1 8 Try.under36 hi hz0 hz1 hz2 rfl (by omega) v l.length (ptrs l) hs (S.h.ok (Res.rowN v l) (by simp)) ⟨g2, 0, none⟩ l2.length c2 (ptrs l2) hx (by simp [ptrs_length]) hcv (ptrs_one1 l2) h0 (by unfold maxLen; omega) (by omega) (Nat.zero_le _) _ rfl ?_
  intro g cap w' h1 h2 h3 h4
  have e1 : l.length + l2.length = (l ++ l2).length := by simp
  rw [e1] at h1 ⊢
  rw [← ptrs_append] at h1
  obtain ⟨g', cap', he, S'⟩ := St.rowN A _ S (n := (l ++ l2).length) (xs := ptrs (l ++ l2)) (en := .returned (.slice (some ⟨g, 0, none⟩) (l ++ l2).length cap)) ⟨g, cap, rfl, h1, h2, by rcases h3 with h | h; exact .inl h; exact .inr (by omega)⟩ (l ++ l2) rfl rfl
  simp only [Ending.returned.injEq, Value.slice.injEq, Option.some.injEq, Addr.mk.injEq, and_true, true_and] at he
  obtain ⟨rfl, rfl⟩ := he
  exact h g cap w' S'
end
/-- append(v, u...), u holding none -/
theorem run_app0 (ty : TypeId) (w : World) (va ua : Option Addr) (vn vc uc : Nat) (hv : vn ≤ vc) :
    (Builtin.append_ #[36, 36] ty #[.slice va vn vc, .slice ua 0 uc]).run Try.prog w = .ok (.slice va vn vc) w := by
  obtain ⟨i0, hi, hz0, hz1, hz2⟩ := info_parts Try.info32
  cases va <;> cases ua <;> simp [Builtin.append_, run_underlying Try.under36, Builtin.lenOf, Builtin.firstCells, sizeOf, typeInfo, hi, hz1, hv, loadCells, loadCellsFrom, storeCells]

end Go.Proofs.Qxb6601706a
