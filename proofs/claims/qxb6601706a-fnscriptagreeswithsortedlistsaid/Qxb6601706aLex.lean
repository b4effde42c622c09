import Derived.Test.Qxb6601706aBase
import Derived.OrdersHeld
namespace Go.Proofs.Qxb6601706a
open Go.RowKit
set_option linter.unusedVariables false
set_option linter.unusedSimpArgs false

/-! A statement that draws its order and ends in ONE STORE that waits for all the rest: reads first, in the order of the text, under a condition S on the world; then a chain (a build, a call, the store's address), S shown anew behind each; then the store, behind which S is asked no more. -/
section
variable {P : Program} {ops : Array Oper} {Q : Exit → Act → World → Prop} {md : Region.Mode} {S : World → Prop}

def wpE (P : Program) (md : Region.Mode) (ops : Array Oper) (Q : Exit → Act → World → Prop) (S : World → Prop) (last : Nat) : Nat → Array Bool → Act → World → Prop
  | 0, listed, a, w => Region.ready md ops listed = [] ∧ Q .normal a w
  | fuel + 1, listed, a, w =>
    (Region.ready md ops listed = [] → Q .normal a w) ∧
    ∀ i ∈ Region.ready md ops listed, wpOp P ops Q i (fun a' w' => (i ≠ last → S w') ∧ wpE P md ops Q S last fuel (listed.setIfInBounds i true) a' w') a w

theorem wpAny_of_E {last : Nat} : ∀ (fuel : Nat) (listed : Array Bool) (a : Act) (w : World), wpE P md ops Q S last fuel listed a w → wpAny P md ops Q fuel listed a w
  | 0, _, _, _, h => h
  | fuel + 1, _, _, _, h => ⟨h.1, fun i hi => wpOp_mono (fun a' w' h' => wpAny_of_E fuel _ a' w' h'.2) (h.2 i hi)⟩

theorem wpE_first {last i : Nat} {oi : Oper} {v : Value} (hi : ops[i]? = some oi) (hsel : ∀ (j : Nat) (o : Oper) cs b, ops[j]? = some o → o.op ≠ .select cs b)
    (hQ : ∀ c a w, Q (.panic c) (a.put oi.dst v) w → Q (.panic c) a w) (hlast : ∀ ol, ops[last]? = some ol → ∃ e ∈ ol.after, Region.binds md e = true ∧ e.on = i) :
    ∀ (fuel : Nat) (listed : Array Bool) (a : Act) (w : World),
      (∀ j oj, ops[j]? = some oj → j ≠ i → listed.getD j true = false → (∀ e ∈ oj.after, Region.binds md e = true → e.on ≠ i) → oi.apart ops oj = true) →
      i ∈ Region.ready md ops listed → YieldsIf P ops S oi v a → S w →
      wpE P md ops Q S last fuel (listed.setIfInBounds i true) (a.put oi.dst v) w → wpE P md ops Q S last (fuel + 1) listed a w := by
  intro fuel
  induction fuel with
  | zero =>
    intro listed a w _ hr hy hS H
    refine ⟨fun h => (by rw [h] at hr; cases hr), fun j hj => ?_⟩
    by_cases hji : j = i
    · subst hji; exact hy.wpOp hi hS ⟨fun _ => hS, H⟩
    · have := ready_mono hj hji
      rw [H.1] at this
      cases this
  | succ fuel ih =>
    intro listed a w hfree hr hy hS H
    refine ⟨fun h => (by rw [h] at hr; cases hr), fun j hj => ?_⟩
    by_cases hji : j = i
    · subst hji; exact hy.wpOp hi hS ⟨fun _ => hS, H⟩
    · have h1 := H.2 j (ready_mono hj hji)
      obtain ⟨hjun, oj, hoj, hall⟩ := mem_ready.1 hj
      have hnot : ∀ e ∈ oj.after, Region.binds md e = true → e.on ≠ i := fun e he hb heq => by
        have h1 := hall e he hb
        have h0 := (mem_ready.1 hr).1
        rw [heq] at h1
        rcases Nat.lt_or_ge i listed.size with h' | h'
        · simp [h'] at h0 h1; rw [h0] at h1; cases h1
        · simp [Array.getElem?_eq_none h'] at h1
      have hjl : j ≠ last := by
        rintro rfl
        obtain ⟨e, he, hb, ho⟩ := hlast oj hoj
        exact hnot e he hb ho
      have h2 := wpOp_putIf hoj (hfree j oj hoj hji hjun hnot) (fun cs b => hsel i oi cs b hi) (fun cs b => hsel j oj cs b hoj) hQ hy h1
      have hfree' : ∀ k ok, ops[k]? = some ok → k ≠ i → (listed.setIfInBounds j true).getD k true = false →
          (∀ e ∈ ok.after, Region.binds md e = true → e.on ≠ i) → oi.apart ops ok = true := fun k ok hk hki hun hno => by
        refine hfree k ok hk hki ?_ hno
        by_cases hjk : j = k
        · subst hjk; exact hjun
        · rw [getD_set_ne true hjk] at hun; exact hun
      refine wpOp_mono (fun a' w' h3 => ⟨fun _ => h3.2.1 hjl, ih (listed.setIfInBounds j true) a' w' hfree' (ready_mono hr (Ne.symm hji)) h3.1 (h3.2.1 hjl) ?_⟩) h2
      rw [Array.setIfInBounds_comm _ _ hji]
      exact h3.2.2

/-- the first k have come up -/
def lAt (n : Nat) : Nat → Array Bool
  | 0 => Array.replicate n false
  | k + 1 => (lAt n k).setIfInBounds k true

/-- the region's edges allow it: the first c are reads for which the last waits; behind them one alone may come up each time -/
def lexOk (l : List Oper) (c : Nat) : Bool :=
  Region.noSelect l.toArray && l.all (fun o => o.guard.isNone) &&
  (List.range c).all (fun k => Region.free .any l.toArray (lAt l.length k) k && (Region.ready .any l.toArray (lAt l.length k)).contains k && ((l[l.length - 1]?).map (fun o => o.after.any fun e => Region.binds .any e && e.on == k)).getD false) &&
  (List.range (l.length - c)).all (fun j => Region.ready .any l.toArray (lAt l.length (c + j)) == [c + j]) && (Region.ready .any l.toArray (lAt l.length l.length) == []) && decide (c ≤ l.length)

/-- the reads, in the order of the text -/
def wpReads (P : Program) (S : World → Prop) : List Oper → Act → (Act → Prop) → Prop
  | [], a, K => K a
  | o :: r, a, K => ∃ v, (∀ w, S w → (execOp a.eval o).run P w = .ok (.value v) w) ∧ wpReads P S r (a.put o.dst v) K

/-- the chain behind them -/
def wpSeq (P : Program) (Q : Exit → Act → World → Prop) (S : World → Prop) : List Oper → Act → World → Prop
  | [], a, w => Q .normal a w
  | o :: r, a, w => o.wp P a w (fun a' w' => (r ≠ [] → S w') ∧ wpSeq P Q S r a' w') Q

theorem wanted_none {o : Oper} (h : o.guard.isNone = true) (y : Nat → Option Bool) : Region.wanted o y = true := by
  unfold Region.wanted
  cases hg : o.guard with
  | none => rfl
  | some g => rw [hg] at h; cases h

theorem wpE_seq {l : List Oper} (hg : ∀ o ∈ l, o.guard.isNone = true) (hend : Region.ready md l.toArray (lAt l.length l.length) = []) : ∀ (r : List Oper) (k : Nat), k + r.length = l.length → (∀ j, r[j]? = l[k + j]?) →
    (∀ j, k ≤ j → j < l.length → Region.ready md l.toArray (lAt l.length j) = [j]) → ∀ (a : Act) (w : World), wpSeq P Q S r a w → wpE P md l.toArray Q S (l.length - 1) r.length (lAt l.length k) a w
  | [], k, hk, hr, hrd, a, w, h => by
    have : k = l.length := by simpa using hk
    subst this
    exact ⟨hend, h⟩
  | o :: r, k, hk, hr, hrd, a, w, h => by
    have hkl : k < l.length := by simp at hk; omega
    have ho : l[k]? = some o := by have := hr 0; simpa using this.symm
    have hrk := hrd k (Nat.le_refl _) hkl
    refine ⟨fun h0 => (by rw [hrk] at h0; cases h0), fun i hi => ?_⟩
    rw [hrk] at hi
    have hi' : i = k := by simpa using hi
    subst hi'
    have ho' : l.toArray[i]? = some o := by simpa using ho
    unfold wpOp
    simp only [ho']
    rw [if_pos (wanted_none (hg o (List.mem_of_getElem? ho)) _)]
    have hS' : i ≠ l.length - 1 → r ≠ [] := by
      rintro hne rfl
      simp at hk
      omega
    refine .inl (Oper.wp_mono (fun a' w' h' => ⟨fun hne => h'.1 (hS' hne), ?_⟩) h)
    exact wpE_seq hg hend r (i + 1) (by simp at hk; omega) (fun j => by have := hr (j + 1); simpa [Nat.add_assoc, Nat.add_comm 1 j] using this) (fun j hj hl => hrd j (by omega) hl) a' w' h'.2

theorem wpE_reads {l : List Oper} (hsel : Region.noSelect l.toArray = true) (hg : ∀ o ∈ l, o.guard.isNone = true) (hQ : ∀ c a d v w, Q (.panic c) (a.put d v) w → Q (.panic c) a w) {c : Nat} (hcl : c ≤ l.length)
    (hck : ∀ k, k < c → Region.free md l.toArray (lAt l.length k) k = true ∧ (Region.ready md l.toArray (lAt l.length k)).contains k = true ∧ ∀ ol, l[l.length - 1]? = some ol → ∃ e ∈ ol.after, Region.binds md e = true ∧ e.on = k) {w : World} (hS : S w) {K : Act → Prop}
    (hK : ∀ a, K a → wpE P md l.toArray Q S (l.length - 1) (l.length - c) (lAt l.length c) a w) : ∀ (r : List Oper) (k : Nat), k + r.length = c → (∀ j, j < r.length → r[j]? = l[k + j]?) → ∀ (a : Act), wpReads P S r a K → wpE P md l.toArray Q S (l.length - 1) (l.length - k) (lAt l.length k) a w
  | [], k, hk, hr, a, h => by
    have : k = c := by simpa using hk
    subst this
    exact hK a h
  | o :: r, k, hk, hr, a, h => by
    have hkc : k < c := by simp at hk; omega
    have ho : l[k]? = some o := by have := hr 0 (by simp); simpa using this.symm
    have ho' : l.toArray[k]? = some o := by simpa using ho
    obtain ⟨v, hy, hrest⟩ := h
    obtain ⟨h1, h2, h3⟩ := hck k hkc
    rw [show l.length - k = (l.length - (k + 1)) + 1 by omega]
    refine wpE_first ho' (Region.noSelect_spec hsel) (fun c a w h => hQ c a _ _ w h) (fun ol hol => h3 ol (by simpa using hol)) _ _ a w (Region.free_spec ho' h1) (by simpa using h2) (.inl ⟨wanted_none (hg o (List.mem_of_getElem? ho)) _, hy⟩) hS ?_
    exact wpE_reads hsel hg hQ hcl hck hS hK r (k + 1) (by simp at hk; omega) (fun j hj => by have := hr (j + 1) (by simp; omega); simpa [Nat.add_assoc, Nat.add_comm 1 j] using this) _ hrest

/-- THE LAW -/
theorem region_lex {id : Nat} {l : List Oper} {a : Act} {w : World} (c : Nat) (S : World → Prop) (hm : P.follows .mixedOrders = true) (hok : lexOk l c = true) (hQ : ∀ c a d v w, Q (.panic c) (a.put d v) w → Q (.panic c) a w) (hS : S w.drew)
    (h : wpReads P S (l.take c) a (fun a' => wpSeq P Q S (l.drop c) a' w.drew)) : (Code.region id l.toArray true).wp P Q a w := by
  simp only [lexOk, Bool.and_eq_true, List.all_eq_true, List.mem_range, beq_iff_eq, decide_eq_true_eq] at hok
  obtain ⟨⟨⟨⟨⟨h1, h2⟩, h3⟩, h4⟩, h5⟩, h6⟩ := hok
  refine wp_region_any hm ?_
  have key := wpE_reads (P := P) (Q := Q) (md := .any) (S := S) h1 h2 hQ h6 (fun k hk => ⟨(h3 k hk).1.1, (h3 k hk).1.2, fun ol hol => by
      have := (h3 k hk).2
      rw [hol] at this
      simp only [Option.map_some, Option.getD_some, Array.any_eq_true, Bool.and_eq_true, beq_iff_eq] at this
      obtain ⟨i, hi, hb, he⟩ := this
      exact ⟨_, Array.getElem_mem hi, hb, he⟩⟩) (w := w.drew) hS (K := fun a' => wpSeq P Q S (l.drop c) a' w.drew)
    (fun a' ha' => by
      have := wpE_seq (P := P) (Q := Q) (md := .any) (S := S) h2 h5 (l.drop c) c (by simp; omega) (fun j => by simp) (fun j hj hl => by have := h4 (j - c) (by omega); rwa [show c + (j - c) = j by omega] at this) a' w.drew ha'
      rwa [List.length_drop] at this) (l.take c) 0 (by simp; omega) (fun j hj => by simp at hj; rw [List.getElem?_take, if_pos (by omega)]; simp) a h
  have := wpAny_of_E _ _ _ _ key
  simpa [lAt] using this

theorem reads_cons {o : Oper} {r : List Oper} {a : Act} {K : Act → Prop} (v : Value) (hy : ∀ w, S w → (execOp a.eval o).run P w = .ok (.value v) w) (h : wpReads P S r (a.put o.dst v) K) : wpReads P S (o :: r) a K := ⟨v, hy, h⟩
theorem reads_nil {a : Act} {K : Act → Prop} (h : K a) : wpReads P S [] a K := h
theorem seq_value {o : Oper} {r : List Oper} {a : Act} {w : World} (v : Value) (w' : World) (hr : (execOp a.eval o).run P w = .ok (.value v) w') (hS : r ≠ [] → S w') (h : wpSeq P Q S r (a.put o.dst v) w') : wpSeq P Q S (o :: r) a w := by
  unfold wpSeq Oper.wp
  rw [hr]
  exact ⟨hS, h⟩
theorem seq_skip {o : Oper} {r : List Oper} {a : Act} {w : World} (w' : World) (hr : (execOp a.eval o).run P w = .ok .skip w') (hS : r ≠ [] → S w') (h : wpSeq P Q S r (a.put o.dst undef) w') : wpSeq P Q S (o :: r) a w := by
  unfold wpSeq Oper.wp
  rw [hr]
  exact ⟨hS, h⟩
theorem seq_call {o : Oper} {r : List Oper} {a : Act} {w : World} (f : FuncId) (args : Array Value) (R : Ending → World → Prop) (hr : (execOp a.eval o).run P w = .ok (.enter f args) w) (hc : Calls P f args w R)
    (h : ∀ e w', R e w' → ∃ u, e = .returned u ∧ S w' ∧ wpSeq P Q S r (a.put o.dst u) w') : wpSeq P Q S (o :: r) a w := by
  unfold wpSeq Oper.wp
  rw [hr]
  refine hc.mono fun e w' hR => ?_
  obtain ⟨u, rfl, hS, hs⟩ := h e w' hR
  exact ⟨fun _ => hS, hs⟩
theorem seq_nil {a : Act} {w : World} (h : Q .normal a w) : wpSeq P Q S [] a w := h
end

end Go.Proofs.Qxb6601706a
