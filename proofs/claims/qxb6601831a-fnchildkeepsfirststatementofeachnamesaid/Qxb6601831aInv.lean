import Derived.Test.Qxb6601831aChild
namespace Go.Proofs.Qxb6601831a
open Go.RowKit
set_option linter.unusedVariables false
set_option linter.unusedSimpArgs false

/-- the block of a node: the root's, or the one of the call that stated it -/
def blk (R : Nat) (g : Nat → Nat) : Option Nat → Nat
  | none => R
  | some j => g j

def valid (n : Nat) (rep : Nat → Nat) : Option Nat → Prop
  | none => True
  | some j => j < n ∧ rep j = j

def pOf (R : Nat) (g : Nat → Nat) (par : Nat → Option Nat) : Option Nat → Option Addr
  | none => none
  | some j => some ⟨blk R g (par j), 0, none⟩

def nOf (nm : Nat → ByteArray) : Option Nat → ByteArray
  | none => ByteArray.empty
  | some j => nm j

def oOf (O : Nat → Int) : Option Nat → Int
  | none => 0
  | some j => O j

def kOf (K : Nat → Int) : Option Nat → Int
  | none => 1
  | some j => K j

/-- a call that stated a node of parent x -/
def isKid (rep : Nat → Nat) (par : Nat → Option Nat) (x : Option Nat) (j : Nat) : Bool := decide (rep j = j ∧ par j = x)

def kidsOf (n : Nat) (rep : Nat → Nat) (par : Nat → Option Nat) (g : Nat → Nat) (nm : Nat → ByteArray) (x : Option Nat) : List (ByteArray × Nat) :=
  ((List.range n).filter (isKid rep par x)).map fun j => (nm j, g j)

theorem kidsOf_succ (n : Nat) (rep : Nat → Nat) (par : Nat → Option Nat) (g : Nat → Nat) (nm : Nat → ByteArray) (x : Option Nat) :
    kidsOf (n + 1) rep par g nm x = kidsOf n rep par g nm x ++ (bif isKid rep par x n then [(nm n, g n)] else []) := by
  unfold kidsOf
  rw [List.range_succ, List.filter_append, List.map_append]
  congr 1
  rw [List.filter_cons]
  cases isKid rep par x n <;> simp

theorem kidsOf_congr (n : Nat) {rep rep' : Nat → Nat} {par par' : Nat → Option Nat} {g g' : Nat → Nat} (nm : Nat → ByteArray) (x : Option Nat)
    (h : ∀ j, j < n → rep' j = rep j ∧ par' j = par j ∧ g' j = g j) : kidsOf n rep' par' g' nm x = kidsOf n rep par g nm x := by
  induction n with
  | zero => rfl
  | succ n ih =>
    rw [kidsOf_succ, kidsOf_succ, ih (fun j hj => h j (by omega))]
    obtain ⟨h1, h2, h3⟩ := h n (by omega)
    simp only [isKid, h1, h2, h3]

theorem look_some {n : Nat} {rep : Nat → Nat} {par : Nat → Option Nat} {g : Nat → Nat} {nm : Nat → ByteArray} {x : Option Nat} {name : ByteArray} {c : Nat} (h : lookIn (kidsOf n rep par g nm x) name = some c) :
    ∃ j, j < n ∧ rep j = j ∧ par j = x ∧ nm j = name ∧ g j = c := by
  unfold lookIn at h
  cases hf : List.find? (fun kv => kv.1 == name) (kidsOf n rep par g nm x) with
  | none => rw [hf] at h; simp at h
  | some kv =>
    rw [hf] at h
    simp only [Option.map_some, Option.some.injEq] at h
    have h1 := List.find?_some hf
    have h2 := List.mem_of_find?_eq_some hf
    unfold kidsOf at h2
    obtain ⟨j, hj, rfl⟩ := List.mem_map.1 h2
    obtain ⟨hj1, hj2⟩ := List.mem_filter.1 hj
    have hj3 : rep j = j ∧ par j = x := of_decide_eq_true hj2
    rw [ba_beq] at h1
    exact ⟨j, List.mem_range.1 hj1, hj3.1, hj3.2, of_decide_eq_true h1, h⟩

theorem look_none {n : Nat} {rep : Nat → Nat} {par : Nat → Option Nat} {g : Nat → Nat} {nm : Nat → ByteArray} {x : Option Nat} {name : ByteArray} (h : lookIn (kidsOf n rep par g nm x) name = none) :
    ∀ j, j < n → rep j = j → par j = x → nm j ≠ name := by
  intro j hj h1 h2 h3
  unfold lookIn at h
  rw [Option.map_eq_none_iff, List.find?_eq_none] at h
  have hm : (nm j, g j) ∈ kidsOf n rep par g nm x := by
    unfold kidsOf
    exact List.mem_map.2 ⟨j, List.mem_filter.2 ⟨List.mem_range.2 hj, decide_eq_true ⟨h1, h2⟩⟩, rfl⟩
  have := h _ hm
  rw [ba_beq] at this
  exact this (decide_eq_true h3)

/-- THE STATE BEHIND n CALLS -/
structure Inv (w : World) (B R n : Nat) (nm : Nat → ByteArray) (K O : Nat → Int) (rep : Nat → Nat) (par : Nat → Option Nat) (g : Nat → Nat) (mp : Option Nat → Option Nat) : Prop where
  rle : ∀ j, j < n → rep j ≤ j
  rrep : ∀ j, j < n → rep (rep j) = rep j
  rpar : ∀ j, j < n → par (rep j) = par j
  rnm : ∀ j, j < n → nm (rep j) = nm j
  rg : ∀ j, j < n → g (rep j) = g j
  pv : ∀ j x, j < n → par j = some x → x < j ∧ rep x = x
  uniq : ∀ j k, j < n → k < n → rep j = j → rep k = k → par j = par k → nm j = nm k → j = k
  inj : ∀ x y, valid n rep x → valid n rep y → blk R g x = blk R g y → x = y
  node : ∀ x, valid n rep x → NodeIs w (blk R g x) (pOf R g par x) (nOf nm x) (oOf O x) (kOf K x) (mp x) (kidsOf n rep par g nm x)
  sep : ∀ x y r, valid n rep x → valid n rep y → mp x = some r → mp y = some r → x = y
  base : ∀ x, valid n rep x → B ≤ blk R g x
  mbase : ∀ x r, valid n rep x → mp x = some r → B ≤ r

section
variable {w : World} {B R n : Nat} {nm : Nat → ByteArray} {K O : Nat → Int} {rep : Nat → Nat} {par : Nat → Option Nat} {g : Nat → Nat} {mp : Option Nat → Option Nat}

theorem Inv.look (h : Inv w B R n nm K O rep par g mp) (j : Nat) (hj : j < n) (hr : rep j = j) : lookIn (kidsOf n rep par g nm (par j)) (nm j) = some (g j) := by
  cases hl : lookIn (kidsOf n rep par g nm (par j)) (nm j) with
  | none => exact absurd rfl (look_none hl j hj hr rfl)
  | some c =>
    obtain ⟨i, h1, h2, h3, h4, h5⟩ := look_some hl
    rw [h.uniq i j h1 hj h2 hr h3 h4] at h5
    rw [h5]

/-- memory elsewhere turns -/
theorem Inv.block {w' : World} (h : Inv w B R n nm K O rep par g mp) (hk : ∀ x, valid n rep x → w'.heap[blk R g x]? = w.heap[blk R g x]?) (hm : ∀ x r, valid n rep x → mp x = some r → w'.heap[r]? = w.heap[r]?) : Inv w' B R n nm K O rep par g mp :=
  ⟨h.rle, h.rrep, h.rpar, h.rnm, h.rg, h.pv, h.uniq, h.inj, fun x hx => (h.node x hx).block (hk x hx) (fun r hr => hm x r hx hr), h.sep, h.base, h.mbase⟩

/-- a row of another element type is no node and no table -/
theorem Inv.rowNe (h : Inv w B R n nm K O rep par g mp) {b m : Nat} {t : TypeId} {f : Nat → Value} (hb : w.rowIs b t m f) (ht : t ≠ 40) : (∀ x, valid n rep x → blk R g x ≠ b) ∧ (∀ x r, valid n rep x → mp x = some r → r ≠ b) := by
  obtain ⟨c, hc, _⟩ := hb
  constructor
  · intro x hx e
    obtain ⟨c', hc', _⟩ := (h.node x hx).row
    rw [e, hc] at hc'
    injection hc' with hc'
    injection hc' with _ hc'
    exact ht hc'
  · intro x r hx hr e
    have := (h.node x hx).table
    rw [hr] at this
    obtain ⟨es, clock, hm, _⟩ := this
    rw [e, hc] at hm
    cases hm

/-- a store into a row of another element type -/
theorem Inv.setRow (h : Inv w B R n nm K O rep par g mp) {b m : Nat} {t : TypeId} {f : Nat → Value} (hb : w.rowIs b t m f) (ht : t ≠ 40) (i : Nat) (v : Value) : Inv (w.setCell ⟨b, i, none⟩ v) B R n nm K O rep par g mp := by
  obtain ⟨h1, h2⟩ := h.rowNe hb ht
  exact h.block (fun x hx => Go.Deep.blk_setCell_other w ⟨b, i, none⟩ v _ (h1 x hx)) (fun x r hx hr => Go.Deep.blk_setCell_other w ⟨b, i, none⟩ v _ (h2 x r hx hr))

theorem Inv.drew (h : Inv w B R n nm K O rep par g mp) : Inv w.drew B R n nm K O rep par g mp := h.block (fun _ _ => rfl) (fun _ _ _ _ => rfl)

end

/-- a function turned at one place -/
def upd {α : Type} (f : Nat → α) (i : Nat) (a : α) : Nat → α := fun j => if j = i then a else f j
theorem upd_same {α : Type} (f : Nat → α) (i : Nat) (a : α) : upd f i a i = a := by simp [upd]
theorem upd_other {α : Type} (f : Nat → α) (i : Nat) (a : α) (j : Nat) (h : j ≠ i) : upd f i a j = f j := by simp [upd, h]

/-- A CALL THAT FINDS A NODE -/
theorem Inv.old {w : World} {B R n : Nat} {nm : Nat → ByteArray} {K O : Nat → Int} {rep : Nat → Nat} {par : Nat → Option Nat} {g : Nat → Nat} {mp : Option Nat → Option Nat} (h : Inv w B R n nm K O rep par g mp)
    (x : Option Nat) (hx : valid n rep x) (c : Nat) (hc : lookIn (kidsOf n rep par g nm x) (nm n) = some c) :
    ∃ r, Inv w B R (n + 1) nm K O (upd rep n r) (upd par n x) (upd g n c) mp := by
  obtain ⟨r, hr1, hr2, hr3, hr4, hr5⟩ := look_some hc
  have hrn : r ≠ n := by omega
  have er : ∀ j, j < n → upd rep n r j = rep j := fun j hj => upd_other _ _ _ _ (by omega)
  have ep : ∀ j, j < n → upd par n x j = par j := fun j hj => upd_other _ _ _ _ (by omega)
  have eg : ∀ j, j < n → upd g n c j = g j := fun j hj => upd_other _ _ _ _ (by omega)
  have sr : upd rep n r n = r := upd_same _ _ _
  have sp : upd par n x n = x := upd_same _ _ _
  have sg : upd g n c n = c := upd_same _ _ _
  have hval : ∀ y, valid (n + 1) (upd rep n r) y → valid n rep y := by
    intro y hy
    cases y with
    | none => trivial
    | some j =>
      obtain ⟨h1, h2⟩ := hy
      by_cases e : j = n
      · subst e; rw [sr] at h2; exact absurd h2 hrn
      · exact ⟨by omega, by rw [← er j (by omega)]; exact h2⟩
  have hblk : ∀ y, valid n rep y → blk R (upd g n c) y = blk R g y := by
    intro y hy
    cases y with
    | none => rfl
    | some j => exact eg j hy.1
  have hpar : ∀ j z, j < n → par j = some z → z < n := fun j z hj hz => by have := (h.pv j z hj hz).1; omega
  have hpvalid : ∀ j, j < n → valid n rep (par j) := by
    intro j hj
    cases hp : par j with
    | none => trivial
    | some z => exact ⟨hpar j z hj hp, (h.pv j z hj hp).2⟩
  have hkids : ∀ y, kidsOf (n + 1) (upd rep n r) (upd par n x) (upd g n c) nm y = kidsOf n rep par g nm y := by
    intro y
    rw [kidsOf_succ, kidsOf_congr n nm y (fun j hj => ⟨er j hj, ep j hj, eg j hj⟩)]
    have : isKid (upd rep n r) (upd par n x) y n = false := by
      unfold isKid; rw [sr]; exact decide_eq_false (fun hh => hrn hh.1)
    rw [this]; simp
  refine ⟨r, ⟨?_, ?_, ?_, ?_, ?_, ?_, ?_, ?_, ?_, ?_, ?_, ?_⟩⟩
  · intro j hj
    by_cases e : j = n
    · subst e; rw [sr]; omega
    · rw [er j (by omega)]; exact h.rle j (by omega)
  · intro j hj
    by_cases e : j = n
    · subst e; rw [sr, er r hr1]; exact hr2
    · have := h.rle j (by omega)
      rw [er j (by omega), er _ (by omega)]; exact h.rrep j (by omega)
  · intro j hj
    by_cases e : j = n
    · subst e; rw [sr, sp, ep r hr1]; exact hr3
    · have := h.rle j (by omega)
      rw [er j (by omega), ep _ (by omega), ep _ (by omega)]; exact h.rpar j (by omega)
  · intro j hj
    by_cases e : j = n
    · subst e; rw [sr]; exact hr4
    · rw [er j (by omega)]; exact h.rnm j (by omega)
  · intro j hj
    by_cases e : j = n
    · subst e; rw [sr, sg, eg r hr1]; exact hr5
    · have := h.rle j (by omega)
      rw [er j (by omega), eg _ (by omega), eg _ (by omega)]; exact h.rg j (by omega)
  · intro j z hj hz
    by_cases e : j = n
    · subst e
      rw [sp] at hz
      subst hz
      exact ⟨hx.1, by rw [er z hx.1]; exact hx.2⟩
    · rw [ep j (by omega)] at hz
      obtain ⟨h1, h2⟩ := h.pv j z (by omega) hz
      exact ⟨h1, by rw [er z (by omega)]; exact h2⟩
  · intro j k hj hk h1 h2 h3 h4
    have hjn : j ≠ n := fun e => by subst e; rw [sr] at h1; exact hrn h1
    have hkn : k ≠ n := fun e => by subst e; rw [sr] at h2; exact hrn h2
    rw [er j (by omega)] at h1
    rw [er k (by omega)] at h2
    rw [ep j (by omega), ep k (by omega)] at h3
    exact h.uniq j k (by omega) (by omega) h1 h2 h3 h4
  · intro y z hy hz e
    have hy' := hval y hy
    have hz' := hval z hz
    rw [hblk y hy', hblk z hz'] at e
    exact h.inj y z hy' hz' e
  · intro y hy
    have hy' := hval y hy
    rw [hblk y hy', hkids y]
    have hp : pOf R (upd g n c) (upd par n x) y = pOf R g par y := by
      cases y with
      | none => rfl
      | some j =>
        show some (⟨blk R (upd g n c) (upd par n x j), 0, none⟩ : Addr) = some ⟨blk R g (par j), 0, none⟩
        rw [ep j hy'.1, hblk _ (hpvalid j hy'.1)]
    rw [hp]
    exact h.node y hy'
  · intro y z q hy hz e1 e2
    exact h.sep y z q (hval y hy) (hval z hz) e1 e2
  · intro y hy
    rw [hblk y (hval y hy)]; exact h.base y (hval y hy)
  · intro y q hy e
    exact h.mbase y q (hval y hy) e

end Go.Proofs.Qxb6601831a
