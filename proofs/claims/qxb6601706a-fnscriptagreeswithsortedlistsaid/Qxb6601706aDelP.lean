import Derived.Test.Qxb6601706aGrow
namespace Go.Proofs.Qxb6601706a
open Go.RowKit
set_option linter.unusedVariables false
set_option linter.unusedSimpArgs false

/-! ### the list without a key -/
def deleteL (k : ByteArray) (l : List Ent) : List Ent := l.filter fun x => ltb x.key k || ltb k x.key
theorem deleteL_append (k : ByteArray) (a b : List Ent) : deleteL k (a ++ b) = deleteL k a ++ deleteL k b := by simp [deleteL]
theorem deleteL_ne {k : ByteArray} {l : List Ent} (h : ∀ x ∈ l, x.key ≠ k) : deleteL k l = l := by
  refine List.filter_eq_self.2 fun x hx => ?_
  rcases Lt.tri x.key k with h1 | h1 | h1
  · simp [ltb_iff.2 h1]
  · exact absurd h1 (h x hx)
  · simp [ltb_iff.2 h1]
theorem deleteL_lt {k : ByteArray} {l : List Ent} (h : ∀ x ∈ l, Lt x.key k) : deleteL k l = l := deleteL_ne fun x hx => (h x hx).ne
theorem deleteL_gt {k : ByteArray} {l : List Ent} (h : ∀ x ∈ l, Lt k x.key) : deleteL k l = l := deleteL_ne fun x hx => (h x hx).ne.symm
theorem deleteL_eq {k : ByteArray} {x : Ent} (h : x.key = k) : deleteL k [x] = [] := by
  subst h
  have : ltb x.key x.key = false := by
    cases hh : ltb x.key x.key with
    | false => rfl
    | true => exact absurd (ltb_iff.1 hh) (Lt.irrefl _)
  simp [deleteL, this]
theorem deleteL_mid {k : ByteArray} {a m b : List Ent} (ha : ∀ x ∈ a, Lt x.key k) (hb : ∀ x ∈ b, Lt k x.key) : deleteL k (a ++ (m ++ b)) = a ++ (deleteL k m ++ b) := by
  rw [deleteL_append, deleteL_append, deleteL_lt ha, deleteL_gt hb]
theorem deleteL_sorted {k : ByteArray} {l : List Ent} (h : Sorted l) : Sorted (deleteL k l) := h.filter _
theorem deleteL_one {k : ByteArray} {a b : List Ent} {x : Ent} (hs : Sorted (a ++ x :: b)) (hx : x.key = k) : deleteL k (a ++ x :: b) = a ++ b := by
  have h1 : ∀ y ∈ a, Lt y.key k := fun y hy => by rw [← hx]; exact hs.cross hy (by simp)
  have h2 : ∀ y ∈ b, Lt k y.key := fun y hy => by rw [← hx]; exact (List.pairwise_cons.1 hs.right).1 y hy
  have := deleteL_mid (m := [x]) h1 h2
  rw [deleteL_eq hx] at this
  simpa using this

/-! ### the invariant of delete -/
def DelStep (key : ByteArray) (wr : World) (hc b : Nat) (rv kv : Value) (rs : List Ent) (ks : List Kid) (ok : Bool) (w' : World) : Prop :=
  ∃ c' : Kid, St wr (bl (parts hc b rv kv rs ks)) w' [Res.tree hc c'] ∧ c'.b = b ∧ c'.fl = deleteL key (weave ks rs) ∧ rs.length ≤ c'.r + 1 ∧ (ok = true ↔ Has key (weave ks rs))
def DelInv (RR : Bool → World → Prop) (key : ByteArray) (hc b : Nat) (wr : World) : Prop :=
  ∃ rs ks rv kv, Holds wr (parts hc b rv kv rs ks) ∧ rs.length ≤ 63 ∧ KLen hc ks rs ∧ (∀ c ∈ ks, 31 ≤ c.r) ∧ (hc ≠ 0 → 1 ≤ rs.length) ∧ Sorted (weave ks rs) ∧ ∀ ok w', DelStep key wr hc b rv kv rs ks ok w' → RR ok w'

/-- one step down, to a child that has a record to spare -/
theorem DelInv.down {RR : Bool → World → Prop} {key : ByteArray} {h nb : Nat} {w0 w1 : World} {o : List Nat} {rv kv : Value} {rs1 rs2 : List Ent} {ks1 ks2 : List Kid} {c : Kid} (S : St w0 o w1 (NodeAt h nb rv kv rs1 rs2 ks1 c ks2))
    (hl1 : ks1.length = rs1.length) (hl2 : ks2.length = rs2.length) (hr : 32 ≤ c.r) (hm : ∀ x ∈ ks1 ++ c :: ks2, 31 ≤ x.r) (h63 : (rs1 ++ rs2).length ≤ 63) (hs : Sorted c.fl)
    (fin : ∀ ok w' c', St w0 o w' [Res.tree (h + 1) c'] → c'.b = nb → c'.fl = L ks1 rs1 ++ (deleteL key c.fl ++ R rs2 ks2) → c'.r = (rs1 ++ rs2).length → (ok = true ↔ Has key c.fl) → RR ok w') :
    DelInv RR key h c.b w1 := by
  have S1 := S.perm (nodeAt_one h nb rv kv rs1 rs2 ks1 c ks2)
  obtain ⟨rs, ks, crv, ckv, S2, hk, hr63, hkl, hkm⟩ := St.open [] _ S1
  have hfl : c.fl = weave ks rs := by rw [hk]
  have hrr : c.r = rs.length := by rw [hk]
  have hown : c.own = bl (parts h c.b crv ckv rs ks) := congrArg Kid.own hk
  refine ⟨rs, ks, crv, ckv, S2.h.sub (List.sublist_append_left _ _), hr63, hkl, hkm, fun _ => by omega, by rw [← hfl]; exact hs, ?_⟩
  rintro ok w' ⟨c', S3, hb, hf, hge, hok⟩
  have S4 : St w0 o w' ([] ++ ([Res.tree h c'] ++ (head3 nb rv kv (rs1 ++ rs2) (ks1 ++ c :: ks2) ++ (trees h ks1 ++ trees h ks2)))) := St.step (X := parts h c.b crv ckv rs ks) (X' := [Res.tree h c']) [] _ S2 S3.f S3.h
  have hpt : ptrs (ks1 ++ c :: ks2) = ptrs (ks1 ++ c' :: ks2) := by simp [ptrs, hb]
  have e1 : head3 nb rv kv (rs1 ++ rs2) (ks1 ++ c :: ks2) = head3 nb rv kv (rs1 ++ rs2) (ks1 ++ c' :: ks2) := by
    unfold head3
    rw [rowN_same hpt]
  rw [e1] at S4
  have S5 := S4.perm (nodeAt_one h nb rv kv rs1 rs2 ks1 c' ks2).symm
  have S6 : St w0 o w' ([] ++ (parts (h + 1) nb rv kv (rs1 ++ rs2) (ks1 ++ c' :: ks2) ++ [])) := by
    rw [List.append_nil, parts_eq, trees_append, trees_cons]
    exact S5
  obtain ⟨k, S7, k1, k2, k3⟩ := St.shut [] [] S6 h63 ⟨fun h => by omega, fun _ => by simp; omega⟩ (by
    intro x hx
    rcases List.mem_append.1 hx with h | h
    · exact hm x (by simp [h])
    · rcases List.mem_cons.1 h with rfl | h
      · omega
      · exact hm x (by simp [h]))
  refine fin ok w' k S7 k1 ?_ k2 ?_
  · rw [k3, weave_zip _ _ _ _ _ hl1, hf, hfl]
  · rw [hok, hfl]

end Go.Proofs.Qxb6601706a
