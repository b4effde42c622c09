import Derived.Test.Qxb6601706aLex
namespace Go.Proofs.Qxb6601706a
open Go.RowKit
set_option linter.unusedVariables false
set_option linter.unusedSimpArgs false

/-! As region_lex, S being kept by every operation, and the order (reads, then a chain) said by number. -/
section
variable {P : Program} {Q : Exit → Act → World → Prop} {md : Region.Mode} {S : World → Prop}

def nth (l : List Oper) (n : Nat) : Option Oper :=
  match l, n with
  | [], _ => none
  | o :: _, 0 => some o
  | _ :: l, n + 1 => nth l n
theorem nth_eq : ∀ (l : List Oper) (n : Nat), nth l n = l[n]?
  | [], n => rfl
  | o :: l, 0 => rfl
  | o :: l, n + 1 => nth_eq l n
def pickL (l : List Oper) : List Nat → List Oper
  | [] => []
  | i :: r => match nth l i with
    | some o => o :: pickL l r
    | none => []

def okReads (md : Region.Mode) (ops : Array Oper) : List Nat → Array Bool → Bool
  | [], _ => true
  | i :: r, L => Region.free md ops L i && (Region.ready md ops L).contains i && decide (i < ops.size) && okReads md ops r (L.setIfInBounds i true)
def okChain (md : Region.Mode) (ops : Array Oper) : List Nat → Array Bool → Bool
  | [], L => Region.ready md ops L == []
  | i :: r, L => (Region.ready md ops L == [i]) && decide (i < ops.size) && okChain md ops r (L.setIfInBounds i true)
def lS (L : Array Bool) : List Nat → Array Bool
  | [] => L
  | i :: r => lS (L.setIfInBounds i true) r
def lexOkP (l : List Oper) (rd ch : List Nat) : Bool :=
  Region.noSelect l.toArray && l.all (fun o => o.guard.isNone) && okReads .any l.toArray rd (Array.replicate l.length false) && okChain .any l.toArray ch (lS (Array.replicate l.length false) rd) && decide (rd.length + ch.length = l.length)

def wpSeqS (P : Program) (Q : Exit → Act → World → Prop) (S : World → Prop) : List Oper → Act → World → Prop
  | [], a, w => Q .normal a w
  | o :: r, a, w => o.wp P a w (fun a' w' => S w' ∧ wpSeqS P Q S r a' w') Q

theorem pickL_cons {l : List Oper} {i : Nat} {r : List Nat} (h : i < l.length) : pickL l (i :: r) = l[i] :: pickL l r := by
  simp [pickL, nth_eq, h]

theorem wpE_seqS {l : List Oper} (hg : ∀ o ∈ l, o.guard.isNone = true) : ∀ (r : List Nat) (L : Array Bool), okChain md l.toArray r L = true → ∀ (a : Act) (w : World), wpSeqS P Q S (pickL l r) a w → wpE P md l.toArray Q S l.length r.length L a w
  | [], L, hr, a, w, h => ⟨by simpa [okChain] using hr, h⟩
  | i :: r, L, hr, a, w, h => by
    simp only [okChain, Bool.and_eq_true, beq_iff_eq, decide_eq_true_eq] at hr
    obtain ⟨⟨hrk, hi⟩, hrest⟩ := hr
    have hil : i < l.length := by simpa using hi
    rw [pickL_cons hil] at h
    refine ⟨fun h0 => (by rw [hrk] at h0; cases h0), fun j hj => ?_⟩
    rw [hrk] at hj
    have hj' : j = i := by simpa using hj
    subst hj'
    have ho' : l.toArray[j]? = some l[j] := by simp [hil]
    unfold wpOp
    simp only [ho']
    rw [if_pos (wanted_none (hg _ (List.getElem_mem hil)) _)]
    refine .inl (Oper.wp_mono (fun a' w' h' => ⟨fun _ => h'.1, ?_⟩) h)
    exact wpE_seqS hg r _ hrest a' w' h'.2

theorem wpE_readsS {l : List Oper} (hsel : Region.noSelect l.toArray = true) (hg : ∀ o ∈ l, o.guard.isNone = true) (hQ : ∀ c a d v w, Q (.panic c) (a.put d v) w → Q (.panic c) a w) {ch : List Nat} {w : World} (hS : S w) :
    ∀ (r : List Nat) (L : Array Bool), okReads md l.toArray r L = true → okChain md l.toArray ch (lS L r) = true → ∀ (a : Act), wpReads P S (pickL l r) a (fun a' => wpSeqS P Q S (pickL l ch) a' w) → wpE P md l.toArray Q S l.length (r.length + ch.length) L a w
  | [], L, _, hc, a, h => by
    rw [List.length_nil, Nat.zero_add]
    exact wpE_seqS hg ch _ hc a w h
  | i :: r, L, hr, hc, a, h => by
    simp only [okReads, Bool.and_eq_true, decide_eq_true_eq] at hr
    obtain ⟨⟨⟨h1, h2⟩, h3⟩, h4⟩ := hr
    have hil : i < l.length := by simpa using h3
    rw [pickL_cons hil] at h
    have ho' : l.toArray[i]? = some l[i] := by simp [hil]
    obtain ⟨v, hy, hrest⟩ := h
    rw [show (i :: r).length + ch.length = (r.length + ch.length) + 1 by simp; omega]
    refine wpE_first ho' (Region.noSelect_spec hsel) (fun c a w h => hQ c a _ _ w h) (fun ol hol => by simp at hol) _ _ a w (Region.free_spec ho' h1) (by simpa using h2) (.inl ⟨wanted_none (hg _ (List.getElem_mem hil)) _, hy⟩) hS ?_
    exact wpE_readsS hsel hg hQ hS r _ h4 hc _ hrest

/-- THE LAW -/
theorem region_lexS {id : Nat} {l : List Oper} {a : Act} {w : World} (rd ch : List Nat) (S : World → Prop) (hm : P.follows .mixedOrders = true) (hok : lexOkP l rd ch = true) (hQ : ∀ c a d v w, Q (.panic c) (a.put d v) w → Q (.panic c) a w) (hS : S w.drew)
    (h : wpReads P S (pickL l rd) a (fun a' => wpSeqS P Q S (pickL l ch) a' w.drew)) : (Code.region id l.toArray true).wp P Q a w := by
  simp only [lexOkP, Bool.and_eq_true, List.all_eq_true, decide_eq_true_eq] at hok
  obtain ⟨⟨⟨⟨h1, h2⟩, h3⟩, h4⟩, h5⟩ := hok
  refine wp_region_any hm ?_
  have key := wpE_readsS (P := P) (Q := Q) (md := .any) (S := S) h1 h2 hQ (w := w.drew) hS rd _ h3 h4 a h
  have := wpAny_of_E _ _ _ _ key
  rw [h5] at this
  simpa using this

theorem sS_value {o : Oper} {r : List Oper} {a : Act} {w : World} (v : Value) (w' : World) (hr : (execOp a.eval o).run P w = .ok (.value v) w') (hS : S w') (h : wpSeqS P Q S r (a.put o.dst v) w') : wpSeqS P Q S (o :: r) a w := by
  unfold wpSeqS Oper.wp
  rw [hr]
  exact ⟨hS, h⟩
theorem sS_skip {o : Oper} {r : List Oper} {a : Act} {w : World} (w' : World) (hr : (execOp a.eval o).run P w = .ok .skip w') (hS : S w') (h : wpSeqS P Q S r (a.put o.dst undef) w') : wpSeqS P Q S (o :: r) a w := by
  unfold wpSeqS Oper.wp
  rw [hr]
  exact ⟨hS, h⟩
theorem sS_call {o : Oper} {r : List Oper} {a : Act} {w : World} (f : FuncId) (args : Array Value) (R : Ending → World → Prop) (hr : (execOp a.eval o).run P w = .ok (.enter f args) w) (hc : Calls P f args w R)
    (h : ∀ e w', R e w' → ∃ u, e = .returned u ∧ S w' ∧ wpSeqS P Q S r (a.put o.dst u) w') : wpSeqS P Q S (o :: r) a w := by
  unfold wpSeqS Oper.wp
  rw [hr]
  refine hc.mono fun e w' hR => ?_
  obtain ⟨u, rfl, hS, hs⟩ := h e w' hR
  exact ⟨hS, hs⟩
theorem sS_op {o : Oper} {r : List Oper} {a : Act} {w : World} (h : o.wp P a w (fun a' w' => S w' ∧ wpSeqS P Q S r a' w') Q) : wpSeqS P Q S (o :: r) a w := h
theorem sS_nil {a : Act} {w : World} (h : Q .normal a w) : wpSeqS P Q S [] a w := h
end

end Go.Proofs.Qxb6601706a
