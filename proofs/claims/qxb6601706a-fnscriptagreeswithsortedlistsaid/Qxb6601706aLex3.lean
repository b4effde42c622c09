import Derived.Test.Qxb6601706aLex2
namespace Go.Proofs.Qxb6601706a
open Go.RowKit
set_option linter.unusedVariables false
set_option linter.unusedSimpArgs false

/-! As region_lexS, S being asked no more behind the last operation, which waits for all reads. -/
section
variable {P : Program} {Q : Exit → Act → World → Prop} {md : Region.Mode} {S : World → Prop}

def waits (md : Region.Mode) (ops : Array Oper) (last k : Nat) : Bool := ((ops[last]?).map (fun o => o.after.any fun e => Region.binds md e && e.on == k)).getD false
def okReadsL (md : Region.Mode) (ops : Array Oper) (last : Nat) : List Nat → Array Bool → Bool
  | [], _ => true
  | i :: r, L => Region.free md ops L i && (Region.ready md ops L).contains i && decide (i < ops.size) && waits md ops last i && okReadsL md ops last r (L.setIfInBounds i true)
def okChainL (md : Region.Mode) (ops : Array Oper) (last : Nat) : List Nat → Array Bool → Bool
  | [], L => Region.ready md ops L == []
  | i :: r, L => (Region.ready md ops L == [i]) && decide (i < ops.size) && (r.isEmpty || decide (i ≠ last)) && okChainL md ops last r (L.setIfInBounds i true) && (!r.isEmpty || i == last)
def lexOkL (l : List Oper) (rd ch : List Nat) (last : Nat) : Bool :=
  Region.noSelect l.toArray && l.all (fun o => o.guard.isNone) && okReadsL .any l.toArray last rd (Array.replicate l.length false) && okChainL .any l.toArray last ch (lS (Array.replicate l.length false) rd) && decide (rd.length + ch.length = l.length)

theorem wpE_seqL {l : List Oper} {last : Nat} (hg : ∀ o ∈ l, o.guard.isNone = true) : ∀ (r : List Nat) (L : Array Bool), okChainL md l.toArray last r L = true → ∀ (a : Act) (w : World), wpSeq P Q S (pickL l r) a w → wpE P md l.toArray Q S last r.length L a w
  | [], L, hr, a, w, h => ⟨by simpa [okChainL] using hr, h⟩
  | i :: r, L, hr, a, w, h => by
    simp only [okChainL, Bool.and_eq_true, beq_iff_eq, decide_eq_true_eq] at hr
    obtain ⟨⟨⟨⟨hrk, hi⟩, hlast⟩, hrest⟩, hend⟩ := hr
    have hil : i < l.length := by simpa using hi
    rw [pickL_cons hil] at h
    refine ⟨fun h0 => (by rw [hrk] at h0; cases h0), fun j hj => ?_⟩
    rw [hrk] at hj
    have hj' : j = i := by simpa using hj
    subst hj'
    have ho' : l.toArray[j]? = some l[j] := by simp [hil]
    unfold wpOp
    simp only [ho']
    rw [if_pos (wanted_none (hg _ (List.getElem_mem hil)) _)]
    refine .inl (Oper.wp_mono (fun a' w' h' => ⟨fun hne => ?_, ?_⟩) h)
    · refine h'.1 ?_
      cases r with
      | nil => simp at hend; exact absurd hend hne
      | cons i2 r2 =>
        simp only [okChainL, Bool.and_eq_true, decide_eq_true_eq] at hrest
        have hi2 : i2 < l.length := by simpa using hrest.1.1.1.2
        rw [pickL_cons hi2]
        simp
    · exact wpE_seqL hg r _ hrest a' w' h'.2

theorem wpE_readsL {l : List Oper} {last : Nat} (hsel : Region.noSelect l.toArray = true) (hg : ∀ o ∈ l, o.guard.isNone = true) (hQ : ∀ c a d v w, Q (.panic c) (a.put d v) w → Q (.panic c) a w) {ch : List Nat} {w : World} (hS : S w) :
    ∀ (r : List Nat) (L : Array Bool), okReadsL md l.toArray last r L = true → okChainL md l.toArray last ch (lS L r) = true → ∀ (a : Act), wpReads P S (pickL l r) a (fun a' => wpSeq P Q S (pickL l ch) a' w) → wpE P md l.toArray Q S last (r.length + ch.length) L a w
  | [], L, _, hc, a, h => by
    rw [List.length_nil, Nat.zero_add]
    exact wpE_seqL hg ch _ hc a w h
  | i :: r, L, hr, hc, a, h => by
    simp only [okReadsL, Bool.and_eq_true, decide_eq_true_eq] at hr
    obtain ⟨⟨⟨⟨h1, h2⟩, h3⟩, hw⟩, h4⟩ := hr
    have hil : i < l.length := by simpa using h3
    rw [pickL_cons hil] at h
    have ho' : l.toArray[i]? = some l[i] := by simp [hil]
    obtain ⟨v, hy, hrest⟩ := h
    rw [show (i :: r).length + ch.length = (r.length + ch.length) + 1 by simp; omega]
    refine wpE_first ho' (Region.noSelect_spec hsel) (fun c a w h => hQ c a _ _ w h) (fun ol hol => ?_) _ _ a w (Region.free_spec ho' h1) (by simpa using h2) (.inl ⟨wanted_none (hg _ (List.getElem_mem hil)) _, hy⟩) hS ?_
    · unfold waits at hw
      rw [hol] at hw
      simp only [Option.map_some, Option.getD_some, Array.any_eq_true, Bool.and_eq_true, beq_iff_eq] at hw
      obtain ⟨j, hj, hb, he⟩ := hw
      exact ⟨_, Array.getElem_mem hj, hb, he⟩
    · exact wpE_readsL hsel hg hQ hS r _ h4 hc _ hrest

/-- THE LAW -/
theorem region_lexL {id : Nat} {l : List Oper} {a : Act} {w : World} (rd ch : List Nat) (last : Nat) (S : World → Prop) (hm : P.follows .mixedOrders = true) (hok : lexOkL l rd ch last = true) (hQ : ∀ c a d v w, Q (.panic c) (a.put d v) w → Q (.panic c) a w) (hS : S w.drew)
    (h : wpReads P S (pickL l rd) a (fun a' => wpSeq P Q S (pickL l ch) a' w.drew)) : (Code.region id l.toArray true).wp P Q a w := by
  simp only [lexOkL, Bool.and_eq_true, List.all_eq_true, decide_eq_true_eq] at hok
  obtain ⟨⟨⟨⟨h1, h2⟩, h3⟩, h4⟩, h5⟩ := hok
  refine wp_region_any hm ?_
  have key := wpE_readsL (P := P) (Q := Q) (md := .any) (S := S) h1 h2 hQ (w := w.drew) hS rd _ h3 h4 a h
  have := wpAny_of_E _ _ _ _ key
  rw [h5] at this
  simpa using this
theorem seq_op {o : Oper} {r : List Oper} {a : Act} {w : World} (h : o.wp P a w (fun a' w' => (r ≠ [] → S w') ∧ wpSeq P Q S r a' w') Q) : wpSeq P Q S (o :: r) a w := h
end

end Go.Proofs.Qxb6601706a
