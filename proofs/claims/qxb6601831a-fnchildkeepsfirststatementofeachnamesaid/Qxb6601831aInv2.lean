import Derived.Test.Qxb6601831aInv
namespace Go.Proofs.Qxb6601831a
open Go.RowKit
set_option linter.unusedVariables false
set_option linter.unusedSimpArgs false

/-- the tables' blocks behind a new node: the new node n has none, the table of x lies at r -/
def mpNew (mp : Option Nat → Option Nat) (n : Nat) (x : Option Nat) (r : Nat) (y : Option Nat) : Option Nat :=
  if y = some n then none else if y = x then some r else mp y

/-- A CALL THAT MAKES A NODE -/
theorem Inv.new {w w' : World} {B R n : Nat} {nm : Nat → ByteArray} {K O : Nat → Int} {rep : Nat → Nat} {par : Nat → Option Nat} {g : Nat → Nat} {mp : Option Nat → Option Nat} (h : Inv w B R n nm K O rep par g mp)
    (x : Option Nat) (hx : valid n rep x) (c r : Nat) (hc : lookIn (kidsOf n rep par g nm x) (nm n) = none)
    (hcs : w.heap.size ≤ c) (hN : NodeIs w' c (some ⟨blk R g x, 0, none⟩) (nm n) (O n) (K n) none [])
    (hX : NodeIs w' (blk R g x) (pOf R g par x) (nOf nm x) (oOf O x) (kOf K x) (some r) (kidsOf n rep par g nm x ++ [(nm n, c)]))
    (hr : mp x = some r ∨ w.heap.size ≤ r) (hfr : ∀ i, i < w.heap.size → i ≠ blk R g x → mp x ≠ some i → w'.heap[i]? = w.heap[i]?) :
    Inv w' B R (n + 1) nm K O (upd rep n n) (upd par n x) (upd g n c) (mpNew mp n x r) := by
  have er : ∀ j, j < n → upd rep n n j = rep j := fun j hj => upd_other _ _ _ _ (by omega)
  have ep : ∀ j, j < n → upd par n x j = par j := fun j hj => upd_other _ _ _ _ (by omega)
  have eg : ∀ j, j < n → upd g n c j = g j := fun j hj => upd_other _ _ _ _ (by omega)
  have sr : upd rep n n n = n := upd_same _ _ _
  have sp : upd par n x n = x := upd_same _ _ _
  have sg : upd g n c n = c := upd_same _ _ _
  have hlook := look_none hc
  have hval : ∀ y, valid (n + 1) (upd rep n n) y → y = some n ∨ valid n rep y := by
    intro y hy
    cases y with
    | none => exact .inr trivial
    | some j =>
      obtain ⟨h1, h2⟩ := hy
      by_cases e : j = n
      · subst e; exact .inl rfl
      · exact .inr ⟨by omega, by rw [← er j (by omega)]; exact h2⟩
  have hne : ∀ y, valid n rep y → y ≠ some n := by
    intro y hy e
    subst e
    exact absurd hy.1 (by omega)
  have hblk : ∀ y, valid n rep y → blk R (upd g n c) y = blk R g y := by
    intro y hy
    cases y with
    | none => rfl
    | some j => exact eg j hy.1
  have hblkn : blk R (upd g n c) (some n) = c := sg
  have hlt : ∀ y, valid n rep y → blk R g y < w.heap.size := fun y hy => (h.node y hy).lt
  have hmlt : ∀ y q, valid n rep y → mp y = some q → q < w.heap.size := fun y q hy e => (h.node y hy).mlt e
  have hBs : B ≤ w.heap.size := Nat.le_of_lt (Nat.lt_of_le_of_lt (h.base none trivial) (hlt none trivial))
  have hpar : ∀ j z, j < n → par j = some z → z < n := fun j z hj hz => by have := (h.pv j z hj hz).1; omega
  have hpvalid : ∀ j, j < n → valid n rep (par j) := by
    intro j hj
    cases hp : par j with
    | none => trivial
    | some z => exact ⟨hpar j z hj hp, (h.pv j z hj hp).2⟩
  have hkids : ∀ y, kidsOf (n + 1) (upd rep n n) (upd par n x) (upd g n c) nm y = kidsOf n rep par g nm y ++ (if y = x then [(nm n, c)] else []) := by
    intro y
    rw [kidsOf_succ, kidsOf_congr n nm y (fun j hj => ⟨er j hj, ep j hj, eg j hj⟩)]
    congr 1
    by_cases e : y = x
    · subst e
      have : isKid (upd rep n n) (upd par n y) y n = true := by
        unfold isKid; rw [sr, sp]; simp
      rw [this, sg]; simp
    · have : isKid (upd rep n n) (upd par n x) y n = false := by
        unfold isKid; rw [sr, sp]; exact decide_eq_false (fun hh => e hh.2.symm)
      rw [this]; simp [e]
  have hnk : kidsOf n rep par g nm (some n) = [] := by
    unfold kidsOf
    rw [List.map_eq_nil_iff, List.filter_eq_nil_iff]
    intro j hj hh
    have hj' := List.mem_range.1 hj
    have := of_decide_eq_true hh
    have := (h.pv j n hj' this.2).1
    omega
  have hxn : x ≠ some n := hne x hx
  have mpn : mpNew mp n x r (some n) = none := by simp [mpNew]
  have mpx : mpNew mp n x r x = some r := by simp [mpNew, hxn]
  have mpo : ∀ y, y ≠ some n → y ≠ x → mpNew mp n x r y = mp y := fun y h1 h2 => by simp [mpNew, h1, h2]
  have hpOf : ∀ y, valid n rep y → pOf R (upd g n c) (upd par n x) y = pOf R g par y := by
    intro y hy
    cases y with
    | none => rfl
    | some j =>
      show some (⟨blk R (upd g n c) (upd par n x j), 0, none⟩ : Addr) = some ⟨blk R g (par j), 0, none⟩
      rw [ep j hy.1, hblk _ (hpvalid j hy.1)]
  refine ⟨?_, ?_, ?_, ?_, ?_, ?_, ?_, ?_, ?_, ?_, ?_, ?_⟩
  · intro j hj
    by_cases e : j = n
    · subst e; rw [sr]; omega
    · rw [er j (by omega)]; exact h.rle j (by omega)
  · intro j hj
    by_cases e : j = n
    · subst e; rw [sr, sr]
    · have := h.rle j (by omega)
      rw [er j (by omega), er _ (by omega)]; exact h.rrep j (by omega)
  · intro j hj
    by_cases e : j = n
    · subst e; rw [sr]
    · have := h.rle j (by omega)
      rw [er j (by omega), ep _ (by omega), ep _ (by omega)]; exact h.rpar j (by omega)
  · intro j hj
    by_cases e : j = n
    · subst e; rw [sr]
    · rw [er j (by omega)]; exact h.rnm j (by omega)
  · intro j hj
    by_cases e : j = n
    · subst e; rw [sr]
    · have := h.rle j (by omega)
      rw [er j (by omega), eg _ (by omega), eg _ (by omega)]; exact h.rg j (by omega)
  · intro j z hj hz
    by_cases e : j = n
    · subst e
      rw [sp] at hz
      subst hz
      exact ⟨hx.1, by rw [er z hx.1]; exact hx.2⟩
    · rw [ep j (by omega)] at hz
      obtain ⟨h1, h2⟩ := h.pv j z (by omega) hz
      exact ⟨h1, by rw [er z (by omega)]; exact h2⟩
  · intro j k hj hk h1 h2 h3 h4
    by_cases ej : j = n
    · by_cases ek : k = n
      · rw [ej, ek]
      · subst ej
        rw [sp, ep k (by omega)] at h3
        rw [er k (by omega)] at h2
        exact absurd h4.symm (hlook k (by omega) h2 h3.symm)
    · by_cases ek : k = n
      · subst ek
        rw [sp, ep j (by omega)] at h3
        rw [er j (by omega)] at h1
        exact absurd h4 (hlook j (by omega) h1 h3)
      · rw [er j (by omega)] at h1
        rw [er k (by omega)] at h2
        rw [ep j (by omega), ep k (by omega)] at h3
        exact h.uniq j k (by omega) (by omega) h1 h2 h3 h4
  · intro y z hy hz e
    rcases hval y hy with rfl | hy' <;> rcases hval z hz with rfl | hz'
    · rfl
    · rw [hblkn, hblk z hz'] at e
      have := hlt z hz'
      omega
    · rw [hblkn, hblk y hy'] at e
      have := hlt y hy'
      omega
    · rw [hblk y hy', hblk z hz'] at e
      exact h.inj y z hy' hz' e
  · intro y hy
    rcases hval y hy with rfl | hy'
    · rw [hblkn, mpn, hkids, if_neg (fun e => hxn e.symm), hnk]
      have : pOf R (upd g n c) (upd par n x) (some n) = some ⟨blk R g x, 0, none⟩ := by
        show some (⟨blk R (upd g n c) (upd par n x n), 0, none⟩ : Addr) = _
        rw [sp, hblk x hx]
      rw [this]
      exact hN
    · rw [hblk y hy', hpOf y hy', hkids]
      by_cases e : y = x
      · subst e
        rw [if_pos rfl, mpx]
        exact hX
      · rw [if_neg e, List.append_nil, mpo y (hne y hy') e]
        refine (h.node y hy').block (hfr _ (hlt y hy') (fun e' => e (h.inj y x hy' hx e')) (fun e' => ?_)) (fun q hq => hfr q (hmlt y q hy' hq) ?_ (fun e' => e (h.sep y x q hy' hx hq e')))
        · exact (h.node x hx).ne (h.node y hy') e' rfl
        · exact (h.node y hy').ne (h.node x hx) hq
  · intro y z q hy hz e1 e2
    rcases hval y hy with rfl | hy'
    · rw [mpn] at e1; cases e1
    · rcases hval z hz with rfl | hz'
      · rw [mpn] at e2; cases e2
      · by_cases ey : y = x
        · by_cases ez : z = x
          · rw [ey, ez]
          · subst ey
            rw [mpx] at e1
            rw [mpo z (hne z hz') ez] at e2
            injection e1 with e1
            subst e1
            rcases hr with hr | hr
            · exact h.sep y z r hx hz' hr e2
            · have := hmlt z r hz' e2; omega
        · by_cases ez : z = x
          · subst ez
            rw [mpx] at e2
            rw [mpo y (hne y hy') ey] at e1
            injection e2 with e2
            subst e2
            rcases hr with hr | hr
            · exact h.sep y z r hy' hx e1 hr
            · have := hmlt y r hy' e1; omega
          · rw [mpo y (hne y hy') ey] at e1
            rw [mpo z (hne z hz') ez] at e2
            exact h.sep y z q hy' hz' e1 e2
  · intro y hy
    rcases hval y hy with rfl | hy'
    · rw [hblkn]; omega
    · rw [hblk y hy']; exact h.base y hy'
  · intro y q hy e
    rcases hval y hy with rfl | hy'
    · rw [mpn] at e; cases e
    · by_cases ey : y = x
      · subst ey
        rw [mpx] at e
        injection e with e
        subst e
        rcases hr with hr | hr
        · exact h.mbase y r hx hr
        · omega
      · rw [mpo y (hne y hy') ey] at e
        exact h.mbase y q hy' e

/-- what the search over the earlier calls comes to -/
theorem Inv.found {w : World} {B R n : Nat} {nm : Nat → ByteArray} {K O : Nat → Int} {rep : Nat → Nat} {par : Nat → Option Nat} {g : Nat → Nat} {mp : Option Nat → Option Nat} (h : Inv w B R (n + 1) nm K O rep par g mp)
    (j : Nat) (hj : j < n) (h1 : rep j = j) (h2 : par j = par n) (h3 : nm j = nm n) : rep n = j := by
  have hr := h.rle n (by omega)
  have e1 := h.rrep n (by omega)
  have e2 := h.rpar n (by omega)
  have e3 := h.rnm n (by omega)
  exact (h.uniq j (rep n) (by omega) (by omega) h1 e1 (by rw [e2, h2]) (by rw [e3, h3])).symm

theorem Inv.missed {w : World} {B R n : Nat} {nm : Nat → ByteArray} {K O : Nat → Int} {rep : Nat → Nat} {par : Nat → Option Nat} {g : Nat → Nat} {mp : Option Nat → Option Nat} (h : Inv w B R (n + 1) nm K O rep par g mp)
    (hm : ∀ j, j < n → ¬ (rep j = j ∧ par j = par n ∧ nm j = nm n)) : rep n = n := by
  have hr := h.rle n (by omega)
  have e1 := h.rrep n (by omega)
  have e2 := h.rpar n (by omega)
  have e3 := h.rnm n (by omega)
  by_cases e : rep n = n
  · exact e
  · exact absurd ⟨e1, e2, e3⟩ (hm (rep n) (by omega))

/-- the number by which the law keeps a parent -/
def parI : Option Nat → Int
  | none => -1
  | some j => j

theorem parI_eq (x y : Option Nat) : (parI x == parI y) = decide (x = y) := by
  rw [Bool.eq_iff_iff]
  cases x <;> cases y <;> simp [parI] <;> omega

theorem Inv.start {w : World} (B : Nat) (nm : Nat → ByteArray) (K O : Nat → Int) (hw : w.rowIs B 40 7 (nodeCells none ByteArray.empty 0 1 none)) :
    Inv w B B 0 nm K O (fun _ => 0) (fun _ => none) (fun _ => 0) (fun _ => none) := by
  have hv : ∀ y, valid 0 (fun _ => 0) y → y = none := by
    intro y hy
    cases y with
    | none => rfl
    | some j => exact absurd hy.1 (by omega)
  refine ⟨by intro j hj; omega, by intro j hj; omega, by intro j hj; omega, by intro j hj; omega, by intro j hj; omega, by intro j x hj; omega, by intro j k hj; omega, ?_, ?_, ?_, ?_, ?_⟩
  · intro x y hx hy _; rw [hv x hx, hv y hy]
  · intro x hx; rw [hv x hx]; exact ⟨hw, rfl⟩
  · intro x y r hx hy _ _; rw [hv x hx, hv y hy]
  · intro x hx; rw [hv x hx]; exact Nat.le_refl _
  · intro x r hx e; cases e

end Go.Proofs.Qxb6601831a
