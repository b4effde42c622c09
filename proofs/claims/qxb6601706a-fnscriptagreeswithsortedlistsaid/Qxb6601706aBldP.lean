import Derived.Test.Qxb6601706aCloT
namespace Go.Proofs.Qxb6601706a
open Go.RowKit
set_option linter.unusedVariables false
set_option linter.unusedSimpArgs false

theorem Try.under35 : Try.prog.underlying 35 = some (.slice 52) := by kernel_rfl
theorem Try.under36 : Try.prog.underlying 36 = some (.slice 32) := by kernel_rfl

theorem SameL.nil (w : World) : SameL w [] [] := ⟨rfl, by simp⟩
theorem SameL.append {w : World} {a b c d : List Ent} (h : SameL w a b) (k : SameL w c d) : SameL w (a ++ c) (b ++ d) := by
  refine ⟨by simp [h.1, k.1], fun i x y hx hy => ?_⟩
  by_cases hi : i < a.length
  · rw [List.getElem?_append_left hi] at hx
    rw [List.getElem?_append_left (by rw [← h.1]; exact hi)] at hy
    exact h.2 i x y hx hy
  · rw [List.getElem?_append_right (by omega)] at hx
    rw [List.getElem?_append_right (by rw [← h.1]; omega), ← h.1] at hy
    exact k.2 _ x y hx hy
theorem SameL.one {w : World} {x y : Ent} (h : SameE w x y) : SameL w [x] [y] := by
  refine ⟨rfl, fun i a b ha hb => ?_⟩
  cases i with
  | zero => simp at ha hb; subst ha hb; exact h
  | succ i => simp at ha
theorem SameL.tail {w : World} {x y : Ent} {a b : List Ent} (h : SameL w (x :: a) (y :: b)) : SameE w x y ∧ SameL w a b := by
  refine ⟨h.2 0 x y rfl rfl, by simpa using h.1, fun i u v hu hv => h.2 (i + 1) u v (by simpa using hu) (by simpa using hv)⟩
def SameK (w : World) (a b : List Kid) : Prop := a.length = b.length ∧ ∀ (i : Nat) (x y : Kid), a[i]? = some x → b[i]? = some y → SameL w x.fl y.fl
theorem SameK.tail {w : World} {x y : Kid} {a b : List Kid} (h : SameK w (x :: a) (y :: b)) : SameL w x.fl y.fl ∧ SameK w a b := by
  refine ⟨h.2 0 x y rfl rfl, by simpa using h.1, fun i u v hu hv => h.2 (i + 1) u v (by simpa using hu) (by simpa using hv)⟩
theorem R_same {w : World} : ∀ (rs es : List Ent) (ks1 ks2 : List Kid), SameL w rs es → SameK w ks1 ks2 → SameL w (R rs ks1) (R es ks2)
  | [], [], ks1, ks2, _, _ => by simp [R]; exact SameL.nil w
  | [], _ :: _, _, _, h, _ => by have := h.1; simp at this
  | _ :: _, [], _, _, h, _ => by have := h.1; simp at this
  | r :: rs, e :: es, [], [], _, _ => by simp [R]; exact SameL.nil w
  | r :: rs, e :: es, [], _ :: _, _, h => by have := h.1; simp at this
  | r :: rs, e :: es, _ :: _, [], _, h => by have := h.1; simp at this
  | r :: rs, e :: es, k1 :: ks1, k2 :: ks2, h, hk => by
    have h1 := h.tail
    have h2 := hk.tail
    exact SameL.append (a := [r]) (b := [e]) (SameL.one h1.1) (h2.1.append (R_same rs es ks1 ks2 h1.2 h2.2))
theorem weave_same {w : World} {rs es : List Ent} {ks1 ks2 : List Kid} (h : SameL w rs es) (hk : SameK w ks1 ks2) : SameL w (weave ks1 rs) (weave ks2 es) := by
  cases ks1 with
  | nil =>
    have : ks2 = [] := List.eq_nil_of_length_eq_zero hk.1.symm
    subst this
    exact h
  | cons k1 ks1 =>
    cases ks2 with
    | nil => have := hk.1; simp at this
    | cons k2 ks2 => exact hk.tail.1.append (R_same rs es ks1 ks2 h hk.tail.2)

/-- blocks of bytes stand while a row of another kind grows -/
def BKept (w w' : World) : Prop := ∀ (g : Nat) (cur : Array Value), w.heap[g]? = some (.cells cur 5 (0, 0)) → w'.heap[g]? = w.heap[g]?
theorem BKept.trans {a b c : World} (h : BKept a b) (k : BKept b c) : BKept a c := fun g cur hg => by
  have h1 := h g cur hg
  have h2 := k g cur (by rw [h1]; exact hg)
  rw [h2, h1]
theorem bkept_row {w w' : World} {e size : Nat} {v : Value} {n : Nat} {xs : List Value} (ho : w.ownsRow 0 e size v n xs) (he : e ≠ 5) (hg : w.grownBy w' v.ownBlock) : BKept w w' := by
  intro g cur hgc
  refine hg.block g (Array.getElem?_eq_some_iff.1 hgc).1 (fun e' => ?_)
  rcases ho.2 with ⟨h1, _⟩ | ⟨g', cap, cur', hv, _, hg', _⟩
  · rw [h1] at e'; simp [Value.ownBlock] at e'
  · rw [hv] at e'
    simp [Value.ownBlock] at e'
    subst e'
    rw [hgc] at hg'
    simp only [Option.some.injEq, Obj.cells.injEq] at hg'
    exact he hg'.2.1.symm

/-- append one record to an own row of kv's entries -/
theorem wp_app52 (w : World) {o : Oper} {a : Act} {K : Act → World → Prop} {Q : Exit → Act → World → Prop} (s x : Operand) (ho : o.op = .call { callee := .builtin .append, args := #[s, x], argTypes := #[35, 35] })
    (v : Value) (l : List Ent) (hs : a.eval s = v) (hown : OwnE w 52 v l) (vb : Nat) (e : Ent) (hx : a.eval x = .slice (some ⟨vb, 0, none⟩) 1 1) (hvb : w.heap[vb]? = some (.cells #[.string e.key, .slice e.va e.vl e.vc, .int .u64 e.rev, .int .u64 e.lease] 52 (0, 0))) (hl : l.length ≤ 4000000)
    (h : ∀ g cap w', OwnE w' 52 (.slice (some ⟨g, 0, none⟩) (l.length + 1) cap) (l ++ [e]) → w.grownBy w' v.ownBlock → (v.ownBlock = some g ∨ w.heap.size ≤ g) → K (a.put o.dst (.slice (some ⟨g, 0, none⟩) (l.length + 1) cap)) w') : o.wp Try.prog a w K Q := by
  obtain ⟨i0, hi, hz0, hz1, hz2⟩ := info_parts Try.info52
  have hcv : ∀ j u, e.cells[j]? = some u → w.cell? ((⟨vb, 0, none⟩ : Addr).add j) = some u := cells_at (cur := #[.string e.key, .slice e.va e.vl e.vc, .int .u64 e.rev, .int .u64 e.lease]) hvb 0 e.cells (by intro j v hv; simpa [Ent.cells] using hv)
  refine wp_append_lies _ s x 35 ho 0 52 i0 (.agg #[.string ByteArray.empty, .slice none 0 0, .int .u64 0, .int .u64 0]) 4 56 Try.under35 hi hz0 hz1 hz2 rfl (by omega) v l.length (flatE l) hs hown ⟨vb, 0, none⟩ 1 1 e.cells hx rfl hcv (cells_one1 e) (by omega) (by unfold maxLen; omega) (by omega) (Nat.zero_le _) _ rfl ?_
  intro g cap w' h1 h2 h3 h4
  refine h g cap w' ?_ h2 ?_
  · show w'.ownsRow 0 52 4 _ (l ++ [e]).length (flatE (l ++ [e]))
    rw [flatE_append, flatE_one, List.length_append]
    exact h1
  · rcases h3 with h3 | h3
    · exact .inl h3
    · exact .inr (by omega)
/-- append one node to an own row of nodes -/
theorem wpList_app32 (w : World) {ops : Array Oper} {rest : List Oper} {o : Oper} {a : Act} {Q : Exit → Act → World → Prop} (hgd : o.guard = none) (s x : Operand) (ho : o.op = .call { callee := .builtin .append, args := #[s, x], argTypes := #[36, 36] })
    (v : Value) (l : List Kid) (hs : a.eval s = v) (hown : OwnN w v l) (vb : Nat) (k : Kid) (hx : a.eval x = .slice (some ⟨vb, 0, none⟩) 1 1) (hvb : w.heap[vb]? = some (.cells #[.pointer (some ⟨k.b, 0, none⟩)] 32 (0, 0))) (hl : l.length ≤ 4000000)
    (h : ∀ g cap w', RowSays 32 1 w v (l.length + 1) (ptrs (l ++ [k])) (.returned (.slice (some ⟨g, 0, none⟩) (l.length + 1) cap)) w' → wpList Try.prog ops Q rest (a.put o.dst (.slice (some ⟨g, 0, none⟩) (l.length + 1) cap)) w') : wpList Try.prog ops Q (o :: rest) a w := by
  obtain ⟨i0, hi, hz0, hz1, hz2⟩ := info_parts Try.info32
  have hcv : ∀ j u, [Value.pointer (some ⟨k.b, 0, none⟩)][j]? = some u → w.cell? ((⟨vb, 0, none⟩ : Addr).add j) = some u := cells_at (cur := #[.pointer (some ⟨k.b, 0, none⟩)]) hvb 0 _ (by intro j v hv; simpa using hv)
  refine wpList_append_lies _ hgd s x 36 ho 0 32 i0 (.pointer none) 1 8 Try.under36 hi hz0 hz1 hz2 rfl (by omega) v l.length (ptrs l) hs hown ⟨vb, 0, none⟩ 1 1 [.pointer (some ⟨k.b, 0, none⟩)] hx rfl hcv (by intro u hu; simp at hu; subst hu; rfl) (by omega) (by unfold maxLen; omega) (by omega) (Nat.zero_le _) _ rfl ?_
  intro g cap w' h1 h2 h3 h4
  refine h g cap w' ⟨g, cap, rfl, ?_, h2, ?_⟩
  · rw [ptrs_append]; exact h1
  · rcases h3 with h3 | h3
    · exact .inl h3
    · exact .inr (by omega)

end Go.Proofs.Qxb6601706a
