import Derived.Test.Qxb6601706aBld
import Derived.Test.Qxb6601706aModel
import Derived.Test.Qxb6601706aValid
import Derived.Test.Qxb6601706aSize
import Derived.Test.Qxb6601706aShape
namespace Go.Proofs.Qxb6601706a
open Go.RowKit
set_option linter.unusedVariables false
set_option linter.unusedSimpArgs false

theorem Sorted.keys {a b : List Ent} (h : a.map Ent.key = b.map Ent.key) (hs : Sorted a) : Sorted b := by
  have h1 : (a.map Ent.key).Pairwise Lt := List.pairwise_map.2 hs
  rw [h] at h1
  exact List.pairwise_map.1 h1
theorem Has.keys {a b : List Ent} {k : ByteArray} (h : a.map Ent.key = b.map Ent.key) : Has k a ↔ Has k b := by
  have key : ∀ l : List Ent, Has k l ↔ k ∈ l.map Ent.key := fun l => by
    simp only [Has, List.mem_map]
  rw [key, key, h]
theorem SameL.keys {w : World} {a b : List Ent} (h : SameL w a b) : a.map Ent.key = b.map Ent.key := by
  apply List.ext_getElem?
  intro i
  rw [List.getElem?_map, List.getElem?_map]
  by_cases hi : i < a.length
  · have h1 : a[i]? = some a[i] := List.getElem?_eq_getElem hi
    have h2 : b[i]? = some (b[i]'(by rw [← h.1]; exact hi)) := List.getElem?_eq_getElem (by rw [← h.1]; exact hi)
    have := (h.2 i _ _ h1 h2).1
    rw [h1, h2]
    simp [this]
  · rw [List.getElem?_eq_none (by omega), List.getElem?_eq_none (by rw [← h.1]; omega)]
theorem SameE.symm {w : World} {a b : Ent} (h : SameE w a b) : SameE w b a := by
  obtain ⟨h1, h2, h3, bs, h4, h5⟩ := h
  exact ⟨h1.symm, h2.symm, h3.symm, bs, h5, h4⟩
theorem SameL.symm {w : World} {a b : List Ent} (h : SameL w a b) : SameL w b a := ⟨h.1.symm, fun i x y hx hy => (h.2 i y x hy hx).symm⟩
theorem SameL.filter {w : World} (p : ByteArray → Bool) : ∀ {a b : List Ent}, SameL w a b → SameL w (a.filter fun x => p x.key) (b.filter fun x => p x.key)
  | [], [], _ => by simp; exact SameL.nil w
  | [], _ :: _, h => by have := h.1; simp at this
  | _ :: _, [], h => by have := h.1; simp at this
  | x :: a, y :: b, h => by
    have ht := h.tail
    have hk : x.key = y.key := ht.1.1
    have ih := SameL.filter p ht.2
    simp only [List.filter_cons, hk]
    split
    · exact SameL.append (a := [x]) (b := [y]) (SameL.one ht.1) ih
    · exact ih
theorem SameL.insert {w : World} {a b : List Ent} {e e' : Ent} (h : SameL w a b) (he : SameE w e e') : SameL w (insertL e a) (insertL e' b) := by
  unfold insertL
  rw [he.1]
  exact (h.filter (fun k => ltb k e'.key)).append (SameL.append (a := [e]) (b := [e']) (SameL.one he) (h.filter (fun k => ltb e'.key k)))
theorem er_keys {d : Nat} {T T' : NT d} (h : er d T' = er d T) : (flatT d T').map Ent.key = (flatT d T).map Ent.key := by
  have h1 := er_flat d T'
  have h2 := er_flat d T
  rw [h, h2] at h1
  have h3 := congrArg (List.map Ent.key) h1
  simp only [List.map_map] at h3
  have e : Ent.key ∘ erE = Ent.key := rfl
  rw [e] at h3
  exact h3.symm
theorem er_cnt {d : Nat} {T T' : NT d} (h : er d T' = er d T) : (flatT d T').length = (flatT d T).length := by
  have := congrArg List.length (er_keys h)
  simpa using this
theorem bkept_tree {w w' : World} {h : Nat} {k : Kid} {o' : List Nat} (t : Tree w h k) (f : Fin w w' k.own o') : BKept w w' := by
  intro g cur hg
  refine f.keep g (Array.getElem?_eq_some_iff.1 hg).1 (fun hm => ?_)
  obtain ⟨cur', ty, h1, h2⟩ := own_types h w k t g hm
  rw [hg] at h1
  simp only [Option.some.injEq, Obj.cells.injEq] at h1
  obtain ⟨_, h4, _⟩ := h1
  rcases h2 with h2 | h2 | h2 <;> rw [h2] at h4 <;> exact absurd h4 (by decide)
theorem ShOk.one {d h : Nat} {T : NT d} (s : ShOk d T h) (h0 : h ≠ 0) : 1 ≤ recs d T := by
  cases d with
  | zero => exact s.elim
  | succ d =>
    obtain ⟨n, rfl⟩ := s.isNode
    cases h with
    | zero => exact absurd rfl h0
    | succ h => exact s.2.2.1

end Go.Proofs.Qxb6601706a
