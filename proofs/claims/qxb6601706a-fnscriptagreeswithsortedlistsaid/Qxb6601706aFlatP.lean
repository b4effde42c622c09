import Derived.Test.Qxb6601706aShim
namespace Go.Proofs.Qxb6601706a
open Go.RowKit
set_option linter.unusedVariables false
set_option linter.unusedSimpArgs false

/-! ### a tree's blocks are of three types -/
theorem own_types : ∀ (h : Nat) (w : World) (k : Kid), Tree w h k → ∀ b ∈ k.own, ∃ cur t, w.heap[b]? = some (.cells cur t (0, 0)) ∧ (t = 71 ∨ t = 52 ∨ t = 32) := by
  have rowT : ∀ (w : World) (e size : Nat) (v : Value) (n : Nat) (xs : List Value), w.ownsRow 0 e size v n xs → ∀ b ∈ v.ownBlock.toList, ∃ cur, w.heap[b]? = some (.cells cur e (0, 0)) := by
    intro w e size v n xs h b hb
    rcases h.2 with ⟨h1, _⟩ | ⟨g, cap, cur, hv, _, hg, _⟩
    · rw [h1] at hb; simp [Value.ownBlock] at hb
    · rw [hv] at hb
      simp [Value.ownBlock] at hb
      subst hb
      exact ⟨cur, hg⟩
  intro h
  induction h with
  | zero =>
    intro w k t b hb
    obtain ⟨rs, rv, kv, h1, h2, h3, h4, h5, h6, h7, h8, h9⟩ := t
    rw [h7] at hb
    simp only [nodeOwn, List.mem_cons, List.mem_append, List.flatMap_nil, List.not_mem_nil, or_false] at hb
    rcases hb with rfl | hb | hb
    · exact ⟨_, 71, h1, .inl rfl⟩
    · obtain ⟨cur, hc⟩ := rowT _ _ _ _ _ _ h2 b hb; exact ⟨cur, 52, hc, .inr (.inl rfl)⟩
    · obtain ⟨cur, hc⟩ := rowT _ _ _ _ _ _ h3 b hb; exact ⟨cur, 32, hc, .inr (.inr rfl)⟩
  | succ h ih =>
    intro w k t b hb
    obtain ⟨rs, ks, rv, kv, h1, h2, h3, h4, h5, h6, h7, h8, h9, h10, h11⟩ := t
    rw [h7] at hb
    simp only [nodeOwn, List.mem_cons, List.mem_append, List.mem_flatMap] at hb
    rcases hb with rfl | hb | hb | ⟨c, hc, hb⟩
    · exact ⟨_, 71, h1, .inl rfl⟩
    · obtain ⟨cur, hc⟩ := rowT _ _ _ _ _ _ h2 b hb; exact ⟨cur, 52, hc, .inr (.inl rfl)⟩
    · obtain ⟨cur, hc⟩ := rowT _ _ _ _ _ _ h3 b hb; exact ⟨cur, 32, hc, .inr (.inr rfl)⟩
    · exact ih w c (h11 c hc).2 b hb
theorem own57 {w : World} {v : Value} {l : List Ent} (h : OwnE w 57 v l) : ∀ b, v.ownBlock = some b → ∃ cur, w.heap[b]? = some (.cells cur 57 (0, 0)) := by
  intro b hb
  rcases h.2 with ⟨h1, _⟩ | ⟨g, cap, cur, hv, _, hg, _⟩
  · rw [h1] at hb; simp [Value.ownBlock] at hb
  · rw [hv] at hb
    simp [Value.ownBlock] at hb
    subst hb
    exact ⟨cur, hg⟩
theorem Tree.grown {w w' : World} {h : Nat} {k : Kid} {v : Value} {l : List Ent} (t : Tree w h k) (ho : OwnE w 57 v l) (hg : w.grownBy w' v.ownBlock) : Tree w' h k := by
  refine Tree.loc' h k w w' (fun b hb => ?_) t
  refine hg.block b (t.nodup.2 b hb) (fun e => ?_)
  obtain ⟨cur, ty, h1, h2⟩ := own_types h w k t b hb
  obtain ⟨cur', h3⟩ := own57 ho b e.symm
  rw [h1] at h3
  simp only [Option.some.injEq, Obj.cells.injEq] at h3
  obtain ⟨_, h4, _⟩ := h3
  rcases h2 with h2 | h2 | h2 <;> rw [h2] at h4 <;> exact absurd h4 (by decide)

/-! ### a tree's records, as a loop lists them -/
def pre (ks : List Kid) (rs : List Ent) : Nat → List Ent
  | 0 => []
  | c + 1 => (match ks with | [] => [] | k :: _ => k.fl) ++ (match rs with | [] => [] | r :: _ => [r]) ++ pre ks.tail rs.tail c
theorem pre_cons (ks : List Kid) (rs : List Ent) (c : Nat) : pre ks rs (c + 1) = (match ks with | [] => [] | k :: _ => k.fl) ++ (match rs with | [] => [] | r :: _ => [r]) ++ pre ks.tail rs.tail c := rfl
theorem pre_succ : ∀ (c : Nat) (ks : List Kid) (rs : List Ent), pre ks rs (c + 1) = pre ks rs c ++ ((match ks[c]? with | none => [] | some k => k.fl) ++ (rs[c]?).toList)
  | 0, ks, rs => by
    cases ks <;> cases rs <;> simp [pre]
  | c + 1, ks, rs => by
    rw [pre_cons, pre_succ c, pre_cons ks rs c]
    cases ks <;> cases rs <;> simp
theorem pre_nil : ∀ (c : Nat) (rs : List Ent), pre [] rs c = rs.take c
  | 0, rs => by simp [pre]
  | c + 1, rs => by
    rw [pre_cons]
    cases rs with
    | nil => simp [pre_nil c]
    | cons r rs => simp [pre_nil c]
theorem pre_R : ∀ (rs : List Ent) (k : Kid) (ks : List Kid), ks.length = rs.length → pre (k :: ks) rs (rs.length + 1) = k.fl ++ R rs ks
  | [], k, ks, h => by
    have : ks = [] := List.eq_nil_of_length_eq_zero h
    subst this
    simp [pre, R]
  | r :: rs, k, [], h => by simp at h
  | r :: rs, k, k2 :: ks, h => by
    have ih := pre_R rs k2 ks (by simpa using h)
    rw [List.length_cons, pre_cons]
    simp only [List.tail_cons, ih, R]
    simp
theorem pre_full {h : Nat} {ks : List Kid} {rs : List Ent} (hk : KLen h ks rs) : pre ks rs (rs.length + 1) = weave ks rs := by
  cases ks with
  | nil => rw [pre_nil, List.take_of_length_le (by omega)]; rfl
  | cons k ks =>
    have h0 : h ≠ 0 := fun e => by have := hk.1 e; simp at this
    have := hk.2 h0
    exact pre_R rs k ks (by simpa using this)
theorem pre_length_le {h : Nat} {ks : List Kid} {rs : List Ent} (hk : KLen h ks rs) (c : Nat) (hc : c ≤ rs.length + 1) : (pre ks rs c).length ≤ (weave ks rs).length := by
  rw [← pre_full hk]
  have key : ∀ d, (pre ks rs c).length ≤ (pre ks rs (c + d)).length := by
    intro d
    induction d with
    | zero => exact Nat.le_refl _
    | succ d ih => rw [← Nat.add_assoc, pre_succ, List.length_append]; omega
  have := key (rs.length + 1 - c)
  rwa [show c + (rs.length + 1 - c) = rs.length + 1 by omega] at this

theorem Try.under26 : Try.prog.underlying 26 = some (.slice 57) := by kernel_rfl

/-- out = append(out, e), the rows being of Entry -/
theorem wpList_app57 (w : World) {ops : Array Oper} {rest : List Oper} {o : Oper} {a : Act} {Q : Exit → Act → World → Prop} (hgd : o.guard = none) (s x : Operand) (ho : o.op = .call { callee := .builtin .append, args := #[s, x], argTypes := #[26, 26] })
    (v : Value) (l : List Ent) (hs : a.eval s = v) (hown : OwnE w 57 v l) (vb : Nat) (e : Ent) (hx : a.eval x = .slice (some ⟨vb, 0, none⟩) 1 1) (hvb : w.heap[vb]? = some (.cells #[.string e.key, .slice e.va e.vl e.vc, .int .u64 e.rev, .int .u64 e.lease] 57 (0, 0))) (hl : l.length ≤ 4000000)
    (h : ∀ g cap w', OwnE w' 57 (.slice (some ⟨g, 0, none⟩) (l.length + 1) cap) (l ++ [e]) → w.grownBy w' v.ownBlock → (v.ownBlock = some g ∨ w.heap.size ≤ g) → wpList Try.prog ops Q rest (a.put o.dst (.slice (some ⟨g, 0, none⟩) (l.length + 1) cap)) w') : wpList Try.prog ops Q (o :: rest) a w := by
  obtain ⟨i0, hi, hz0, hz1, hz2⟩ := info_parts Try.info57
  have hcv : ∀ j u, e.cells[j]? = some u → w.cell? ((⟨vb, 0, none⟩ : Addr).add j) = some u := cells_at (cur := #[.string e.key, .slice e.va e.vl e.vc, .int .u64 e.rev, .int .u64 e.lease]) hvb 0 e.cells (by intro j v hv; simpa [Ent.cells] using hv)
  refine wpList_append_lies _ hgd s x 26 ho 0 57 i0 (.agg #[.string ByteArray.empty, .slice none 0 0, .int .u64 0, .int .u64 0]) 4 56 Try.under26 hi hz0 hz1 hz2 rfl (by omega) v l.length (flatE l) hs hown ⟨vb, 0, none⟩ 1 1 e.cells hx rfl hcv (cells_one1 e) (by omega) (by unfold maxLen; omega) (by omega) (Nat.zero_le _) _ rfl ?_
  intro g cap w' h1 h2 h3 h4
  refine h g cap w' ?_ h2 ?_
  · show w'.ownsRow 0 57 4 _ (l ++ [e]).length (flatE (l ++ [e]))
    rw [flatE_append, flatE_one, List.length_append]
    exact h1
  · rcases h3 with h3 | h3
    · exact .inl h3
    · exact .inr (by omega)

def RowsSays (w : World) (v : Value) (l : List Ent) (en : Ending) (w' : World) : Prop :=
  ∃ v', en = .returned v' ∧ OwnE w' 57 v' l ∧ w.grownBy w' v.ownBlock ∧ ∀ b, v'.ownBlock = some b → v.ownBlock = some b ∨ w.heap.size ≤ b

/-- an own row is handed on: what has grown since -/
theorem grown_on {w w1 w2 : World} {v v1 : Value} (h1 : w.grownBy w1 v.ownBlock) (h2 : w1.grownBy w2 v1.ownBlock) (hb : ∀ b, v1.ownBlock = some b → v.ownBlock = some b ∨ w.heap.size ≤ b) : w.grownBy w2 v.ownBlock := by
  refine ⟨h2.os.trans h1.os, h2.tape.trans h1.tape, h2.output.trans h1.output, Nat.le_trans h1.size h2.size, fun k hk hne => ?_⟩
  rw [h2.block k (Nat.lt_of_lt_of_le hk h1.size) ?_, h1.block k hk hne]
  intro e
  rcases hb k e.symm with h | h
  · exact hne h.symm
  · omega
theorem block_on {w w1 : World} {v v1 v2 : Value} (h1 : w.heap.size ≤ w1.heap.size) (hb : ∀ b, v1.ownBlock = some b → v.ownBlock = some b ∨ w.heap.size ≤ b) (hb2 : ∀ b, v2.ownBlock = some b → v1.ownBlock = some b ∨ w1.heap.size ≤ b) : ∀ b, v2.ownBlock = some b → v.ownBlock = some b ∨ w.heap.size ≤ b := by
  intro b h
  rcases hb2 b h with h | h
  · exact hb b h
  · exact .inr (by omega)

end Go.Proofs.Qxb6601706a
