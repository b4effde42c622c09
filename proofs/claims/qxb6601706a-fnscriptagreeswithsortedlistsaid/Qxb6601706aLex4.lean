import Derived.Test.Qxb6601706aLex3
namespace Go.Proofs.Qxb6601706a
open Go.RowKit
set_option linter.unusedVariables false
set_option linter.unusedSimpArgs false

/-! Reads first; then two operations in either order; then a chain. -/
section
variable {P : Program} {Q : Exit → Act → World → Prop} {md : Region.Mode} {S : World → Prop}
def okFork (l : List Oper) (rd : List Nat) (x y : Nat) (chA chB : List Nat) : Bool :=
  Region.noSelect l.toArray && l.all (fun o => o.guard.isNone) && okReads .any l.toArray rd (Array.replicate l.length false) &&
  (Region.ready .any l.toArray (lS (Array.replicate l.length false) rd) == [x, y]) && decide (x < l.length) && decide (y < l.length) &&
  okChain .any l.toArray chA ((lS (Array.replicate l.length false) rd).setIfInBounds x true) && okChain .any l.toArray chB ((lS (Array.replicate l.length false) rd).setIfInBounds y true) && decide (rd.length + (chA.length + 1) = l.length) && decide (chB.length = chA.length)

theorem wpE_one {l : List Oper} (hg : ∀ o ∈ l, o.guard.isNone = true) {x : Nat} (hx : x < l.length) {ch : List Nat} {L : Array Bool} (hc : okChain md l.toArray ch (L.setIfInBounds x true) = true) {a : Act} {w : World} (h : wpSeqS P Q S (pickL l (x :: ch)) a w) :
    wpOp P l.toArray Q x (fun a' w' => (x ≠ l.length → S w') ∧ wpE P md l.toArray Q S l.length ch.length (L.setIfInBounds x true) a' w') a w := by
  rw [pickL_cons hx] at h
  have ho' : l.toArray[x]? = some l[x] := by simp [hx]
  unfold wpOp
  simp only [ho']
  rw [if_pos (wanted_none (hg _ (List.getElem_mem hx)) _)]
  exact .inl (Oper.wp_mono (fun a' w' h' => ⟨fun _ => h'.1, wpE_seqS hg ch _ hc a' w' h'.2⟩) h)

theorem wpE_readsF {l : List Oper} (hsel : Region.noSelect l.toArray = true) (hg : ∀ o ∈ l, o.guard.isNone = true) (hQ : ∀ c a d v w, Q (.panic c) (a.put d v) w → Q (.panic c) a w) {w : World} (hS : S w) {F : Nat} {K : Act → Prop} {Lend : Array Bool}
    (hK : ∀ a, K a → wpE P md l.toArray Q S l.length F Lend a w) :
    ∀ (r : List Nat) (L : Array Bool), okReads md l.toArray r L = true → lS L r = Lend → ∀ (a : Act), wpReads P S (pickL l r) a K → wpE P md l.toArray Q S l.length (r.length + F) L a w
  | [], L, _, hc, a, h => by
    rw [List.length_nil, Nat.zero_add]
    have : L = Lend := hc
    rw [this]
    exact hK a h
  | i :: r, L, hr, hc, a, h => by
    simp only [okReads, Bool.and_eq_true, decide_eq_true_eq] at hr
    obtain ⟨⟨⟨h1, h2⟩, h3⟩, h4⟩ := hr
    have hil : i < l.length := by simpa using h3
    rw [pickL_cons hil] at h
    have ho' : l.toArray[i]? = some l[i] := by simp [hil]
    obtain ⟨v, hy, hrest⟩ := h
    rw [show (i :: r).length + F = (r.length + F) + 1 by simp; omega]
    refine wpE_first ho' (Region.noSelect_spec hsel) (fun c a w h => hQ c a _ _ w h) (fun ol hol => by simp at hol) _ _ a w (Region.free_spec ho' h1) (by simpa using h2) (.inl ⟨wanted_none (hg _ (List.getElem_mem hil)) _, hy⟩) hS ?_
    exact wpE_readsF hsel hg hQ hS hK r _ h4 hc _ hrest

/-- THE LAW -/
theorem region_fork {id : Nat} {l : List Oper} {a : Act} {w : World} (rd : List Nat) (x y : Nat) (chA chB : List Nat) (S : World → Prop) (hm : P.follows .mixedOrders = true) (hok : okFork l rd x y chA chB = true) (hQ : ∀ c a d v w, Q (.panic c) (a.put d v) w → Q (.panic c) a w) (hS : S w.drew)
    (h : wpReads P S (pickL l rd) a (fun a' => wpSeqS P Q S (pickL l (x :: chA)) a' w.drew ∧ wpSeqS P Q S (pickL l (y :: chB)) a' w.drew)) : (Code.region id l.toArray true).wp P Q a w := by
  simp only [okFork, Bool.and_eq_true, List.all_eq_true, decide_eq_true_eq, beq_iff_eq] at hok
  obtain ⟨⟨⟨⟨⟨⟨⟨⟨⟨h1, h2⟩, h3⟩, h4⟩, h5⟩, h6⟩, h7⟩, h8⟩, h9⟩, h10⟩ := hok
  refine wp_region_any hm ?_
  have key := wpE_readsF (P := P) (Q := Q) (md := .any) (S := S) h1 h2 hQ (w := w.drew) hS (F := chA.length + 1) (Lend := lS (Array.replicate l.length false) rd) (K := fun a' => wpSeqS P Q S (pickL l (x :: chA)) a' w.drew ∧ wpSeqS P Q S (pickL l (y :: chB)) a' w.drew) (fun a' ha' => by
    refine ⟨fun h0 => (by rw [h4] at h0; cases h0), fun i hi => ?_⟩
    rw [h4] at hi
    simp only [List.mem_cons, List.not_mem_nil, or_false] at hi
    rcases hi with rfl | rfl
    · exact wpE_one h2 h5 h7 ha'.1
    · have := wpE_one h2 h6 h8 ha'.2
      rw [h10] at this
      exact this) rd _ h3 rfl a h
  have := wpAny_of_E _ _ _ _ key
  rw [h9] at this
  simpa using this
end

end Go.Proofs.Qxb6601706a
