import Derived.Test.Qxb6601706aKey
namespace Go.Proofs.Qxb6601706a
open Go.RowKit
set_option linter.unusedVariables false
set_option linter.unusedSimpArgs false

/-! ### what lies in memory, piece by piece -/
/-- a piece: its blocks, what holds of them, and that nothing else counts -/
structure Res where
  blocks : List Nat
  ok : World → Prop
  loc : ∀ w w' : World, (∀ b ∈ blocks, w'.heap[b]? = w.heap[b]?) → ok w → ok w'

def bl (L : List Res) : List Nat := L.flatMap Res.blocks

theorem bl_append (A B : List Res) : bl (A ++ B) = bl A ++ bl B := by simp [bl]
theorem bl_cons (x : Res) (A : List Res) : bl (x :: A) = x.blocks ++ bl A := by simp [bl]
theorem bl_nil : bl [] = [] := rfl
theorem mem_bl {b : Nat} {L : List Res} : b ∈ bl L ↔ ∃ x ∈ L, b ∈ x.blocks := by simp [bl]

structure Holds (w : World) (L : List Res) : Prop where
  ok : ∀ x ∈ L, x.ok w
  nodup : (bl L).Nodup
  lt : ∀ b ∈ bl L, b < w.heap.size

/-- from w to w' only the blocks 'o' and new ones have turned; of what is held behind, all was held before or is new -/
structure Fin (w w' : World) (o o' : List Nat) : Prop where
  os : w'.os = w.os
  tape : w'.tape = w.tape
  output : w'.output = w.output
  size : w.heap.size ≤ w'.heap.size
  keep : ∀ b, b < w.heap.size → b ∉ o → w'.heap[b]? = w.heap[b]?
  sub : ∀ b, b ∈ o' → b ∈ o ∨ w.heap.size ≤ b

theorem Fin.refl (w : World) (o : List Nat) : Fin w w o o := ⟨rfl, rfl, rfl, Nat.le_refl _, fun _ _ _ => rfl, fun _ h => .inl h⟩
theorem Fin.trans {a b c : World} {o o1 o2 : List Nat} (h : Fin a b o o1) (k : Fin b c o1 o2) : Fin a c o o2 := by
  refine ⟨k.os.trans h.os, k.tape.trans h.tape, k.output.trans h.output, Nat.le_trans h.size k.size, fun x hx hn => ?_, fun x hx => ?_⟩
  · rw [k.keep x (Nat.lt_of_lt_of_le hx h.size) (fun h1 => ?_), h.keep x hx hn]
    rcases h.sub x h1 with h2 | h2
    · exact hn h2
    · omega
  · rcases k.sub x hx with h1 | h1
    · exact h.sub x h1
    · exact .inr (Nat.le_trans h.size h1)
theorem Fin.mono {w w' : World} {o o' p p' : List Nat} (h : Fin w w' o o') (h1 : ∀ b ∈ o, b ∈ p) (h2 : ∀ b ∈ p', b ∈ o' ∨ b ∈ p) : Fin w w' p p' :=
  ⟨h.os, h.tape, h.output, h.size, fun b hb hn => h.keep b hb (fun k => hn (h1 b k)), fun b hb => by
    rcases h2 b hb with k | k
    · rcases h.sub b k with k | k
      · exact .inl (h1 b k)
      · exact .inr k
    · exact .inl k⟩
theorem Fin.grow {w w' : World} {row : Option Nat} {o' : List Nat} (h : w.grownBy w' row) (hs : ∀ b ∈ o', b ∈ row.toList ∨ w.heap.size ≤ b) : Fin w w' row.toList o' :=
  ⟨h.os, h.tape, h.output, h.size, fun b hb hn => h.block b hb (fun e => hn (by rw [← e]; simp)), hs⟩
theorem Fin.below {w w' : World} {o o' : List Nat} {B : Nat} (h : Fin w w' o o') (hB : B ≤ w.heap.size) (ho : ∀ b ∈ o, B ≤ b) : Below B w w' :=
  ⟨h.os, h.tape, h.output, h.size, fun k hk => h.keep k (by omega) (fun hm => by have := ho k hm; omega)⟩

/-- one part of what is held is exchanged for another -/
theorem Holds.step {w w' : World} {X X' : List Res} (A B : List Res) (h : Holds w (A ++ (X ++ B))) (f : Fin w w' (bl X) (bl X')) (h' : Holds w' X') : Holds w' (A ++ (X' ++ B)) := by
  have hn := h.nodup
  simp only [bl_append, List.nodup_append] at hn
  obtain ⟨nA, ⟨nX, nB, dXB⟩, dA⟩ := hn
  have old : ∀ b, (b ∈ bl A ∨ b ∈ bl B) → w'.heap[b]? = w.heap[b]? ∧ b < w.heap.size := by
    intro b hb
    have hlt : b < w.heap.size := h.lt b (by simp only [bl_append, List.mem_append]; rcases hb with hb | hb; exact .inl hb; exact .inr (.inr hb))
    refine ⟨f.keep b hlt (fun hx => ?_), hlt⟩
    rcases hb with hb | hb
    · exact dA b hb b (List.mem_append_left _ hx) rfl
    · exact dXB b hx b hb rfl
  refine ⟨?_, ?_, ?_⟩
  · intro x hx
    rcases List.mem_append.1 hx with hx | hx
    · exact x.loc w w' (fun b hb => (old b (.inl (mem_bl.2 ⟨x, hx, hb⟩))).1) (h.ok x (by simp [hx]))
    · rcases List.mem_append.1 hx with hx | hx
      · exact h'.ok x hx
      · exact x.loc w w' (fun b hb => (old b (.inr (mem_bl.2 ⟨x, hx, hb⟩))).1) (h.ok x (by simp [hx]))
  · simp only [bl_append, List.nodup_append]
    refine ⟨nA, ⟨h'.nodup, nB, ?_⟩, ?_⟩
    · intro a ha b hb e
      subst e
      rcases f.sub a ha with k | k
      · exact dXB a k a hb rfl
      · have := (old a (.inr hb)).2; omega
    · intro a ha b hb e
      subst e
      rcases List.mem_append.1 hb with hb | hb
      · rcases f.sub a hb with k | k
        · exact dA a ha a (List.mem_append_left _ k) rfl
        · have := (old a (.inl ha)).2; omega
      · exact dA a ha a (List.mem_append_right _ hb) rfl
  · intro b hb
    simp only [bl_append, List.mem_append] at hb
    rcases hb with hb | hb | hb
    · exact Nat.lt_of_lt_of_le (old b (.inl hb)).2 f.size
    · exact h'.lt b hb
    · exact Nat.lt_of_lt_of_le (old b (.inr hb)).2 f.size

theorem Fin.widen {w w' : World} {X X' : List Res} (A B : List Res) (f : Fin w w' (bl X) (bl X')) : Fin w w' (bl (A ++ (X ++ B))) (bl (A ++ (X' ++ B))) :=
  f.mono (fun b hb => by simp [bl_append, hb]) (fun b hb => by
    simp only [bl_append, List.mem_append] at hb ⊢
    rcases hb with hb | hb | hb
    · exact .inr (.inl hb)
    · exact .inl hb
    · exact .inr (.inr (.inr hb)))

theorem Holds.perm {w : World} {L M : List Res} (h : Holds w L) (p : L.Perm M) : Holds w M := by
  have pb : (bl L).Perm (bl M) := p.flatMap_right _
  exact ⟨fun x hx => h.ok x (p.mem_iff.2 hx), pb.nodup_iff.1 h.nodup, fun b hb => h.lt b (pb.mem_iff.2 hb)⟩

theorem Holds.tail {w : World} {x : Res} {L : List Res} (h : Holds w (x :: L)) : Holds w L := by
  have hn := h.nodup
  rw [bl_cons, List.nodup_append] at hn
  exact ⟨fun y hy => h.ok y (by simp [hy]), hn.2.1, fun b hb => h.lt b (by rw [bl_cons]; exact List.mem_append_right _ hb)⟩

theorem Holds.sub {w : World} {L M : List Res} (h : Holds w L) (s : M.Sublist L) : Holds w M := by
  have sb : (bl M).Sublist (bl L) := by
    induction s with
    | slnil => exact List.Sublist.refl _
    | cons a s ih => rw [bl_cons]; exact (ih (h.tail)).trans (List.sublist_append_right _ _)
    | cons_cons a s ih => rw [bl_cons, bl_cons]; exact (List.Sublist.refl _).append (ih h.tail)
  exact ⟨fun x hx => h.ok x (s.subset hx), h.nodup.sublist sb, fun b hb => h.lt b (sb.subset hb)⟩

theorem Holds.mid {w : World} {A B : List Res} {x : Res} (h : Holds w (A ++ x :: B)) : x.ok w := h.ok x (by simp)

/-- a piece is new -/
theorem Holds.new {w w' : World} {L X : List Res} (h : Holds w L) (f : Fin w w' [] (bl X)) (h' : Holds w' X) : Holds w' (X ++ L) := Holds.step [] L (X := []) (by simpa using h) f h'

theorem Fin.new {w w' : World} {X : List Res} (L : List Res) (f : Fin w w' [] (bl X)) : Fin w w' (bl L) (bl (X ++ L)) := by
  have := Fin.widen (X := []) [] L f
  simpa using this

/-! ### the pieces of a tree of kv -/
structure Kid where
  b : Nat
  r : Nat
  fl : List Ent
  own : List Nat

def ptrs (ks : List Kid) : List Value := ks.map fun k => .pointer (some ⟨k.b, 0, none⟩)
abbrev OwnN (w : World) (v : Value) (ks : List Kid) : Prop := w.ownsRow 0 32 1 v ks.length (ptrs ks)

theorem owns_loc {w w' : World} {e size : Nat} {v : Value} {n : Nat} {xs : List Value} (h : ∀ b ∈ v.ownBlock.toList, w'.heap[b]? = w.heap[b]?) (k : w.ownsRow 0 e size v n xs) : w'.ownsRow 0 e size v n xs := by
  refine ⟨k.1, ?_⟩
  rcases k.2 with h1 | ⟨g, cap, cur, hv, h0, hg, rest⟩
  · exact .inl h1
  · refine .inr ⟨g, cap, cur, hv, h0, ?_, rest⟩
    rw [h g (by rw [hv]; simp [Value.ownBlock]), hg]

def Res.node (b : Nat) (rv kv : Value) : Res := ⟨[b], fun w => w.heap[b]? = some (.cells #[rv, kv] 71 (0, 0)), fun w w' h k => by rw [h b (by simp), k]⟩
def Res.at (b : Nat) (o : Obj) : Res := ⟨[b], fun w => w.heap[b]? = some o, fun w w' h k => by rw [h b (by simp), k]⟩
def Res.rowE (v : Value) (l : List Ent) : Res := ⟨v.ownBlock.toList, fun w => OwnE w 52 v l, fun w w' h k => owns_loc h k⟩
def Res.rowN (v : Value) (ks : List Kid) : Res := ⟨v.ownBlock.toList, fun w => OwnN w v ks, fun w w' h k => owns_loc h k⟩

def L (ks : List Kid) (rs : List Ent) : List Ent :=
  match ks, rs with
  | k :: ks, r :: rs => k.fl ++ r :: L ks rs
  | _, _ => []
def R (rs : List Ent) (ks : List Kid) : List Ent :=
  match rs, ks with
  | r :: rs, k :: ks => r :: (k.fl ++ R rs ks)
  | _, _ => []
def weave (ks : List Kid) (rs : List Ent) : List Ent :=
  match ks with
  | [] => rs
  | k :: ks => k.fl ++ R rs ks

theorem weave_zip (c : Kid) (ks2 : List Kid) (rs2 : List Ent) : ∀ (ks1 : List Kid) (rs1 : List Ent), ks1.length = rs1.length → weave (ks1 ++ c :: ks2) (rs1 ++ rs2) = L ks1 rs1 ++ (c.fl ++ R rs2 ks2)
  | [], [], _ => by simp [weave, L]
  | [], _ :: _, h => by simp at h
  | _ :: _, [], h => by simp at h
  | k :: ks1, r :: rs1, h => by
    have ih := weave_zip c ks2 rs2 ks1 rs1 (by simpa using h)
    cases ks1 with
    | nil =>
      have : rs1 = [] := by cases rs1; rfl; simp at h
      subst this
      simp [weave, L, R]
    | cons k' ks1 =>
      simp only [List.cons_append, weave, R, L] at ih ⊢
      rw [ih]
      simp

theorem L_append : ∀ (ks1 : List Kid) (rs1 : List Ent) (ks2 : List Kid) (rs2 : List Ent), ks1.length = rs1.length → L (ks1 ++ ks2) (rs1 ++ rs2) = L ks1 rs1 ++ L ks2 rs2
  | [], [], ks2, rs2, _ => by simp [L]
  | [], _ :: _, _, _, h => by simp at h
  | _ :: _, [], _, _, h => by simp at h
  | k :: ks1, r :: rs1, ks2, rs2, h => by
    have ih := L_append ks1 rs1 ks2 rs2 (by simpa using h)
    simp only [List.cons_append, L, ih]
    simp
theorem R_append : ∀ (rs1 : List Ent) (ks1 : List Kid) (rs2 : List Ent) (ks2 : List Kid), ks1.length = rs1.length → R (rs1 ++ rs2) (ks1 ++ ks2) = R rs1 ks1 ++ R rs2 ks2
  | [], [], _, _, _ => by simp [R]
  | [], _ :: _, _, _, h => by simp at h
  | _ :: _, [], _, _, h => by simp at h
  | r :: rs1, k :: ks1, rs2, ks2, h => by
    have ih := R_append rs1 ks1 rs2 ks2 (by simpa using h)
    simp only [List.cons_append, R, ih]
    simp

def KLen (h : Nat) (ks : List Kid) (rs : List Ent) : Prop := (h = 0 → ks = []) ∧ (h ≠ 0 → ks.length = rs.length + 1)

/-- the node's own pieces -/
def nodeOwn (b : Nat) (rv kv : Value) (ks : List Kid) : List Nat := b :: (rv.ownBlock.toList ++ (kv.ownBlock.toList ++ ks.flatMap Kid.own))

/-- a tree of kv of height h (0 for a leaf): its root's block, its root's number of records, its records in order, its blocks -/
def Tree (w : World) : Nat → Kid → Prop
  | 0, k => ∃ rs rv kv, w.heap[k.b]? = some (.cells #[rv, kv] 71 (0, 0)) ∧ OwnE w 52 rv rs ∧ OwnN w kv [] ∧ k.r = rs.length ∧ rs.length ≤ 63 ∧ k.fl = rs ∧ k.own = nodeOwn k.b rv kv [] ∧ k.own.Nodup ∧ (∀ b ∈ k.own, b < w.heap.size)
  | h + 1, k => ∃ rs ks rv kv, w.heap[k.b]? = some (.cells #[rv, kv] 71 (0, 0)) ∧ OwnE w 52 rv rs ∧ OwnN w kv ks ∧ k.r = rs.length ∧ rs.length ≤ 63 ∧ k.fl = weave ks rs ∧ k.own = nodeOwn k.b rv kv ks ∧ k.own.Nodup ∧ (∀ b ∈ k.own, b < w.heap.size) ∧
      ks.length = rs.length + 1 ∧ ∀ c ∈ ks, 31 ≤ c.r ∧ Tree w h c

theorem Tree.loc : ∀ (h : Nat) (k : Kid) (w w' : World), w.heap.size ≤ w'.heap.size → (∀ b ∈ k.own, w'.heap[b]? = w.heap[b]?) → Tree w h k → Tree w' h k
  | 0, k, w, w', hs, e, t => by
    obtain ⟨rs, rv, kv, h1, h2, h3, h4, h5, h6, h7, h8, h9⟩ := t
    rw [h7] at e
    exact ⟨rs, rv, kv, by rw [e k.b (by simp [nodeOwn]), h1], owns_loc (fun b hb => e b (by simp only [nodeOwn, List.mem_cons, List.mem_append]; exact .inr (.inl hb))) h2, owns_loc (fun b hb => e b (by simp only [nodeOwn, List.mem_cons, List.mem_append]; exact .inr (.inr (.inl hb)))) h3, h4, h5, h6, h7, h8, fun b hb => Nat.lt_of_lt_of_le (h9 b hb) hs⟩
  | h + 1, k, w, w', hs, e, t => by
    obtain ⟨rs, ks, rv, kv, h1, h2, h3, h4, h5, h6, h7, h8, h9, h10, h11⟩ := t
    rw [h7] at e
    refine ⟨rs, ks, rv, kv, by rw [e k.b (by simp [nodeOwn]), h1], owns_loc (fun b hb => e b (by simp only [nodeOwn, List.mem_cons, List.mem_append]; exact .inr (.inl hb))) h2, owns_loc (fun b hb => e b (by simp only [nodeOwn, List.mem_cons, List.mem_append]; exact .inr (.inr (.inl hb)))) h3, h4, h5, h6, h7, h8, fun b hb => Nat.lt_of_lt_of_le (h9 b hb) hs, h10, fun c hc => ⟨(h11 c hc).1, ?_⟩⟩
    exact Tree.loc h c w w' hs (fun b hb => e b (by simp only [nodeOwn, List.mem_cons, List.mem_append]; exact .inr (.inr (.inr (List.mem_flatMap.2 ⟨c, hc, hb⟩))))) (h11 c hc).2

theorem Tree.nodup {w : World} {h : Nat} {k : Kid} (t : Tree w h k) : k.own.Nodup ∧ (∀ b ∈ k.own, b < w.heap.size) := by
  cases h with
  | zero => obtain ⟨rs, rv, kv, _, _, _, _, _, _, _, h8, h9⟩ := t; exact ⟨h8, h9⟩
  | succ h => obtain ⟨rs, ks, rv, kv, _, _, _, _, _, _, _, h8, h9, _⟩ := t; exact ⟨h8, h9⟩

/-- all blocks of k are old enough to be in w -/
def TreeOk (h : Nat) (k : Kid) (w : World) : Prop := Tree w h k

theorem Tree.loc' (h : Nat) (k : Kid) (w w' : World) (e : ∀ b ∈ k.own, w'.heap[b]? = w.heap[b]?) (t : Tree w h k) : Tree w' h k := by
  -- a block that is there and reads the same is there behind
  have key : ∀ (h : Nat) (k : Kid), (∀ b ∈ k.own, w'.heap[b]? = w.heap[b]?) → Tree w h k → Tree w' h k := by
    intro h
    induction h with
    | zero =>
      intro k e t
      obtain ⟨rs, rv, kv, h1, h2, h3, h4, h5, h6, h7, h8, h9⟩ := t
      have hlt : ∀ b ∈ k.own, b < w'.heap.size := by
        intro b hb
        have h := h9 b hb
        have e' := e b hb
        rw [Array.getElem?_eq_getElem h] at e'
        exact (Array.getElem?_eq_some_iff.1 e').1
      have e0 := e
      rw [h7] at e
      exact ⟨rs, rv, kv, by rw [e k.b (by simp [nodeOwn]), h1], owns_loc (fun b hb => e b (by simp only [nodeOwn, List.mem_cons, List.mem_append]; exact .inr (.inl hb))) h2, owns_loc (fun b hb => e b (by simp only [nodeOwn, List.mem_cons, List.mem_append]; exact .inr (.inr (.inl hb)))) h3, h4, h5, h6, h7, h8, hlt⟩
    | succ h ih =>
      intro k e t
      obtain ⟨rs, ks, rv, kv, h1, h2, h3, h4, h5, h6, h7, h8, h9, h10, h11⟩ := t
      have hlt : ∀ b ∈ k.own, b < w'.heap.size := by
        intro b hb
        have h := h9 b hb
        have e' := e b hb
        rw [Array.getElem?_eq_getElem h] at e'
        exact (Array.getElem?_eq_some_iff.1 e').1
      rw [h7] at e
      refine ⟨rs, ks, rv, kv, by rw [e k.b (by simp [nodeOwn]), h1], owns_loc (fun b hb => e b (by simp only [nodeOwn, List.mem_cons, List.mem_append]; exact .inr (.inl hb))) h2, owns_loc (fun b hb => e b (by simp only [nodeOwn, List.mem_cons, List.mem_append]; exact .inr (.inr (.inl hb)))) h3, h4, h5, h6, h7, h8, hlt, h10, fun c hc => ⟨(h11 c hc).1, ?_⟩⟩
      exact ih c (fun b hb => e b (by simp only [nodeOwn, List.mem_cons, List.mem_append]; exact .inr (.inr (.inr (List.mem_flatMap.2 ⟨c, hc, hb⟩))))) (h11 c hc).2
  exact key h k e t

def Res.tree (h : Nat) (k : Kid) : Res := ⟨k.own, fun w => Tree w h k, fun w w' e t => Tree.loc' h k w w' e t⟩

theorem Tree.holds {w : World} {h : Nat} {k : Kid} (t : Tree w h k) : Holds w [Res.tree h k] :=
  ⟨fun x hx => by simp at hx; subst hx; exact t, by simpa [bl, Res.tree] using t.nodup.1, by simpa [bl, Res.tree] using t.nodup.2⟩

/-- the pieces of a node -/
def parts (h b : Nat) (rv kv : Value) (rs : List Ent) (ks : List Kid) : List Res := Res.node b rv kv :: Res.rowE rv rs :: Res.rowN kv ks :: ks.map (Res.tree (h - 1))

theorem bl_parts (h b : Nat) (rv kv : Value) (rs : List Ent) (ks : List Kid) : bl (parts h b rv kv rs ks) = nodeOwn b rv kv ks := by
  have : ∀ ks : List Kid, bl (ks.map (Res.tree (h - 1))) = ks.flatMap Kid.own := by
    intro ks
    induction ks with
    | nil => rfl
    | cons k ks ih => rw [List.map_cons, bl_cons, ih]; simp [Res.tree]
  simp only [parts, bl_cons, this, nodeOwn, Res.node, Res.rowE, Res.rowN]
  rfl

theorem Tree.open {w : World} {h : Nat} {k : Kid} (t : Tree w h k) : ∃ rs ks rv kv, Holds w (parts h k.b rv kv rs ks) ∧ k = ⟨k.b, rs.length, weave ks rs, bl (parts h k.b rv kv rs ks)⟩ ∧ rs.length ≤ 63 ∧ KLen h ks rs ∧ ∀ c ∈ ks, 31 ≤ c.r := by
  cases h with
  | zero =>
    obtain ⟨rs, rv, kv, h1, h2, h3, h4, h5, h6, h7, h8, h9⟩ := t
    refine ⟨rs, [], rv, kv, ⟨?_, ?_, ?_⟩, ?_, h5, ⟨fun _ => rfl, fun h => absurd rfl h⟩, by simp⟩
    · intro x hx
      simp only [parts, List.map_nil, List.mem_cons, List.not_mem_nil, or_false] at hx
      rcases hx with rfl | rfl | rfl
      · exact h1
      · exact h2
      · exact h3
    · rw [bl_parts, ← h7]; exact h8
    · rw [bl_parts, ← h7]; exact h9
    · rw [bl_parts, ← h7, ← h4]
      show k = ⟨k.b, k.r, rs, k.own⟩
      rw [← h6]
  | succ h =>
    obtain ⟨rs, ks, rv, kv, h1, h2, h3, h4, h5, h6, h7, h8, h9, h10, h11⟩ := t
    refine ⟨rs, ks, rv, kv, ⟨?_, ?_, ?_⟩, ?_, h5, ⟨fun h => absurd h (by omega), fun _ => h10⟩, fun c hc => (h11 c hc).1⟩
    · intro x hx
      simp only [parts, List.mem_cons, List.mem_map] at hx
      rcases hx with rfl | rfl | rfl | ⟨c, hc, rfl⟩
      · exact h1
      · exact h2
      · exact h3
      · exact (h11 c hc).2
    · rw [bl_parts, ← h7]; exact h8
    · rw [bl_parts, ← h7]; exact h9
    · rw [bl_parts, ← h7, ← h4, ← h6]

theorem Tree.shut {w : World} {h b : Nat} {rv kv : Value} {rs : List Ent} {ks : List Kid} (hh : Holds w (parts h b rv kv rs ks)) (hr : rs.length ≤ 63) (hk : KLen h ks rs) (hm : ∀ c ∈ ks, 31 ≤ c.r) :
    Tree w h ⟨b, rs.length, weave ks rs, bl (parts h b rv kv rs ks)⟩ := by
  cases h with
  | zero =>
    have := hk.1 rfl
    subst this
    refine ⟨rs, rv, kv, hh.ok (Res.node b rv kv) (by simp [parts]), hh.ok (Res.rowE rv rs) (by simp [parts]), hh.ok (Res.rowN kv []) (by simp [parts]), rfl, hr, rfl, bl_parts _ _ _ _ _ _, hh.nodup, hh.lt⟩
  | succ h =>
    refine ⟨rs, ks, rv, kv, hh.ok (Res.node b rv kv) (by simp [parts]), hh.ok (Res.rowE rv rs) (by simp [parts]), hh.ok (Res.rowN kv ks) (by simp [parts]), rfl, hr, rfl, bl_parts _ _ _ _ _ _, hh.nodup, hh.lt, hk.2 (by omega), fun c hc => ⟨hm c hc, hh.ok (Res.tree h c) (by simp only [parts, List.mem_cons, List.mem_map]; exact .inr (.inr (.inr ⟨c, hc, rfl⟩)))⟩⟩

end Go.Proofs.Qxb6601706a
