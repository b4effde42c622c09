import Derived.Test.Qxb6601831aSt
namespace Go.Proofs.Qxb6601831a
open Go.RowKit
set_option linter.unusedVariables false
set_option linter.unusedSimpArgs false

/-- how many of the first i calls stated a node of parent y -/
def cntTo (i : Nat) (rep : Nat → Nat) (par : Nat → Option Nat) (y : Option Nat) : Nat := ((List.range i).filter (isKid rep par y)).length

theorem cntTo_succ (i : Nat) (rep : Nat → Nat) (par : Nat → Option Nat) (y : Option Nat) : cntTo (i + 1) rep par y = cntTo i rep par y + bif isKid rep par y i then 1 else 0 := by
  unfold cntTo
  rw [List.range_succ, List.filter_append, List.length_append, List.filter_cons]
  cases isKid rep par y i <;> simp

theorem cntTo_le (i : Nat) (rep : Nat → Nat) (par : Nat → Option Nat) (y : Option Nat) : cntTo i rep par y ≤ i := by
  unfold cntTo
  have := List.length_filter_le (isKid rep par y) (List.range i)
  rwa [List.length_range] at this

theorem kids_len (n : Nat) (rep : Nat → Nat) (par : Nat → Option Nat) (g : Nat → Nat) (nm : Nat → ByteArray) (y : Option Nat) : (kidsOf n rep par g nm y).length = cntTo n rep par y := by
  simp [kidsOf, cntTo]

theorem isKid_yes {rep : Nat → Nat} {par : Nat → Option Nat} {y : Option Nat} {j : Nat} (h1 : rep j = j) (h2 : par j = y) : isKid rep par y j = true := decide_eq_true ⟨h1, h2⟩
theorem isKid_no {rep : Nat → Nat} {par : Nat → Option Nat} {y : Option Nat} {j : Nat} (h : ¬ (rep j = j ∧ par j = y)) : isKid rep par y j = false := decide_eq_false h

def cntAt (i : Nat) (rep : Nat → Nat) (par : Nat → Option Nat) (x : Nat) : Value := .int .i64 (cntTo i rep par (some x))

/-- THE STATE OF THE SECOND PASS -/
structure Ph (w1 w : World) (B n i bg br bp bc : Nat) (nm : Nat → ByteArray) (K O : Nat → Int) (rep : Nat → Nat) (par : Nat → Option Nat) (g : Nat → Nat) (mp : Option Nat → Option Nat) : Prop where
  st : St w1 w B n n n n bg br bp nm K O rep par g mp
  cnt : w.rowIs bc 3 n (cntAt i rep par)
  pc : bp < bc

section
variable {w1 w : World} {B n i bg br bp bc : Nat} {nm : Nat → ByteArray} {K O : Nat → Int} {rep : Nat → Nat} {par : Nat → Option Nat} {g : Nat → Nat} {mp : Option Nat → Option Nat}

theorem Ph.drewN (h : Ph w1 w B n i bg br bp bc nm K O rep par g mp) (m : Nat) : Ph w1 (w.drewN m) B n i bg br bp bc nm K O rep par g mp := ⟨h.st.drewN m, h.cnt, h.pc⟩

theorem Ph.skip (h : Ph w1 w B n i bg br bp bc nm K O rep par g mp) (hno : ∀ x, ¬ (rep i = i ∧ par i = some x)) : Ph w1 w B n (i + 1) bg br bp bc nm K O rep par g mp :=
  ⟨h.st, h.cnt.congr (fun x _ => by unfold cntAt; rw [cntTo_succ, isKid_no (hno x)]; rfl), h.pc⟩

theorem Ph.bump (h : Ph w1 w B n i bg br bp bc nm K O rep par g mp) (x : Nat) (h1 : rep i = i) (h2 : par i = some x) : Ph w1 (w.setCell ⟨bc, x, none⟩ (.int .i64 ((cntTo i rep par (some x) : Int) + 1))) B n (i + 1) bg br bp bc nm K O rep par g mp := by
  have p0 := h.st.lo
  have p1 := h.st.gr
  have p2 := h.st.rp
  have p3 := h.pc
  refine ⟨⟨h.st.inv.setRow h.cnt (by decide) x _, h.st.got.setOther (by show bg ≠ bc; omega) _, h.st.repr.setOther (by show br ≠ bc; omega) _, h.st.parr.setOther (by show bp ≠ bc; omega) _, h.st.bel.setCell (by show B ≤ bc; omega) _, h.st.lo, h.st.gr, h.st.rp⟩, (h.cnt.set x _).congr (fun y _ => ?_), h.pc⟩
  unfold cntAt
  by_cases e : y = x
  · subst e
    rw [if_pos rfl, cntTo_succ, isKid_yes h1 h2]
    simp
  · rw [if_neg e, cntTo_succ, isKid_no (fun hh => e (by rw [h2] at hh; exact (Option.some.inj hh.2).symm))]
    rfl

/-- two nodes' pointers -/
theorem ptr_other {w : World} {a b : Nat} {f f' : Nat → Value} (ha : w.rowIs a 40 7 f) (hb : w.rowIs b 40 7 f') (hne : a ≠ b) : (binOp .eql 27 (.pointer (some ⟨a, 0, none⟩)) (.pointer (some ⟨b, 0, none⟩))).run Try.prog w = .ok (.bool false) w := by
  obtain ⟨c, hc, _⟩ := ha
  obtain ⟨d, hd, _⟩ := hb
  obtain ⟨j, hj⟩ : ∃ j, Try.prog.info? 40 = some j ∧ j.size ≠ 0 := by
    have h40 : (Try.prog.info? 40).map (fun i => i.size) = some 7 := by kernel_rfl
    cases hi : Try.prog.info? 40 with
    | none => rw [hi] at h40; cases h40
    | some j => rw [hi] at h40; simp at h40; exact ⟨j, rfl, by omega⟩
  exact run_eql_ptr_other w Try.underlying27 hj.1 hj.2 (by intro e; injection e with e; exact hne e) hc hd

theorem info40_some : ∃ j, Try.prog.info? 40 = some j := by
  have h40 : (Try.prog.info? 40).map (fun i => i.size) = some 7 := by kernel_rfl
  cases hi : Try.prog.info? 40 with
  | none => rw [hi] at h40; cases h40
  | some j => exact ⟨j, rfl⟩

theorem neq_same (w : World) (a : Addr) : (binOp .neq 27 (.pointer (some a)) (.pointer (some a))).run Try.prog w = .ok (.bool false) w := by
  obtain ⟨j, hj⟩ := info40_some
  have h : ∀ d : Nat, (Op.equalIn (d + 1) 27 (.pointer (some a)) (.pointer (some a))).run Try.prog w = .ok true w := fun d => by
    simp [Op.equalIn, run_underlying Try.underlying27, sizeOf, typeInfo, hj, run_sameAddr_same]
  simp only [binOp]
  simp [Op.equal, Op.maxDepth, h 9999]

theorem Ph.start (h : St w1 w B n n n n bg br bp nm K O rep par g mp) {w' : World} {base : Nat} (ho : w'.ownsRow base 3 1 (.slice (some ⟨w.heap.size, 0, none⟩) n n) n (madeCells (Value.int .i64 0).cells (n * 1)).toList) (hg : w.grownBy w' none) :
    Ph w1 w' B n 0 bg br bp w.heap.size nm K O rep par g mp := by
  have hbp : bp < w.heap.size := by obtain ⟨c, hc, _⟩ := h.parr; exact hc.lt
  have hlt : ∀ b, b < w.heap.size → w'.heap[b]? = w.heap[b]? := fun b hb => hg.block b hb (by simp)
  have p1 := h.gr
  have p2 := h.rp
  refine ⟨⟨h.inv.block (fun x hx => hlt _ (h.inv.node x hx).lt) (fun x r hx hr => hlt _ ((h.inv.node x hx).mlt hr)), h.got.block (hlt _ (by omega)), h.repr.block (hlt _ (by omega)), h.parr.block (hlt _ hbp), ?_, h.lo, h.gr, h.rp⟩, ?_, hbp⟩
  · have := h.lo
    exact h.bel.grown hg (by omega) (by simp)
  · have hr := rowIs_of_owns ho
    rw [Nat.mul_one] at hr
    refine hr.congr (fun x hx => ?_)
    rw [show (Value.int IntKind.i64 0).cells = #[.int .i64 0] from rfl, toList_madeCells_one]
    simp [List.getD, hx, cntAt, cntTo]
end

end Go.Proofs.Qxb6601831a
