import Derived.Test.Qxb6601831aInv2
import Derived.Deep.LoopGhost
import Derived.Deep.DeepCutAuto
import Derived.Deep.RegionHeld3
import Derived.Deep.CutBlock
namespace Go.Proofs.Qxb6601831a
open Go.RowKit
set_option linter.unusedVariables false
set_option linter.unusedSimpArgs false

/-- behind k rounds the first k cells of block g hold f -/
def Upto (w : World) (g : Nat) (t : TypeId) (n k : Nat) (f : Nat → Value) : Prop := ∃ c, w.rowIs g t n c ∧ ∀ i, i < k → c i = f i

section
variable {w : World} {g : Nat} {t : TypeId} {n k : Nat} {f : Nat → Value}
theorem Upto.set (h : Upto w g t n k f) : Upto (w.setCell ⟨g, k, none⟩ (f k)) g t n (k + 1) f := by
  obtain ⟨c, hc, hk⟩ := h
  refine ⟨_, hc.set k (f k), fun i hi => ?_⟩
  by_cases e : i = k
  · subst e; simp
  · simp [e]; exact hk i (by omega)
theorem Upto.setOther (h : Upto w g t n k f) {a : Addr} (ha : g ≠ a.block) (v : Value) : Upto (w.setCell a v) g t n k f := by
  obtain ⟨c, hc, hk⟩ := h
  exact ⟨c, hc.setOther ha v, hk⟩
theorem Upto.spot (h : Upto w g t n k f) (hk : k < n) : (∃ old, w.cell? ⟨g, k, none⟩ = some old) ∧ w.frozen? ⟨g, k, none⟩ = false ∧ g < w.heap.size := by
  obtain ⟨c, hc, _⟩ := h
  exact ⟨⟨_, hc.cell hk⟩, hc.frozen k, hc.lt⟩
theorem Upto.at (h : Upto w g t n k f) (i : Nat) (hi : i < k) (hk : k ≤ n) : w.cell? ⟨g, i, none⟩ = some (f i) := by
  obtain ⟨c, hc, hh⟩ := h
  rw [hc.cell (by omega), hh i hi]
theorem Upto.ofOwns {base : Nat} {xs : List Value} (f : Nat → Value) (h : w.ownsRow base t 1 (.slice (some ⟨g, 0, none⟩) n n) n xs) : Upto w g t n 0 f := by
  have := rowIs_of_owns h
  rw [Nat.mul_one] at this
  exact ⟨_, this, by simp⟩
theorem Upto.block {w' : World} (h : Upto w g t n k f) (e : w'.heap[g]? = w.heap[g]?) : Upto w' g t n k f := by
  obtain ⟨c, hc, hk⟩ := h
  exact ⟨c, hc.of_block e, hk⟩
theorem Upto.congr {f' : Nat → Value} (h : Upto w g t n k f) (e : ∀ i, i < k → f i = f' i) : Upto w g t n k f' := by
  obtain ⟨c, hc, hk⟩ := h
  exact ⟨c, hc, fun i hi => by rw [hk i hi, e i hi]⟩
end

theorem NodeIs.drew {w : World} {b : Nat} {p : Option Addr} {nm : ByteArray} {off kd : Int} {mp : Option Nat} {kids : List (ByteArray × Nat)} (h : NodeIs w b p nm off kd mp kids) : NodeIs w.drew b p nm off kd mp kids := h.block rfl (fun _ _ => rfl)
theorem NodeIs.drewN {w : World} {b : Nat} {p : Option Addr} {nm : ByteArray} {off kd : Int} {mp : Option Nat} {kids : List (ByteArray × Nat)} (h : NodeIs w b p nm off kd mp kids) (m : Nat) : NodeIs (w.drewN m) b p nm off kd mp kids := h.block rfl (fun _ _ => rfl)

theorem str_eq (a b : ByteArray) : (a.toList == b.toList) = decide (a = b) := by
  rw [Bool.eq_iff_iff]
  simp only [beq_iff_eq, decide_eq_true_eq]
  constructor
  · intro h
    rw [ByteArray.toList_eq, ByteArray.toList_eq] at h
    exact Go.WideShapes.bytes_inj h
  · rintro rfl; rfl

theorem Try.info27 : (Try.prog.info? 27).map (fun i => (i.zero, i.size, i.bytes)) = some (some (.pointer none), 1, 8) := by kernel_rfl
theorem Try.info3 : (Try.prog.info? 3).map (fun i => (i.zero, i.size, i.bytes)) = some (some (.int .i64 0), 1, 8) := by kernel_rfl

def ptrAt (g : Nat → Nat) (j : Nat) : Value := .pointer (some ⟨g j, 0, none⟩)
def intAt (rep : Nat → Nat) (j : Nat) : Value := .int .i64 (rep j)
def parAt (par : Nat → Option Nat) (j : Nat) : Value := .int .i64 (parI (par j))

/-- THE STATE BEHIND k CALLS, WITH THE LAW's OWN ROWS: the nodes of kn calls are there, kg places of 'got', kr of 'rep' and 'par' are laid -/
structure St (w1 w : World) (B n kn kg kr bg br bp : Nat) (nm : Nat → ByteArray) (K O : Nat → Int) (rep : Nat → Nat) (par : Nat → Option Nat) (g : Nat → Nat) (mp : Option Nat → Option Nat) : Prop where
  inv : Inv w B B kn nm K O rep par g mp
  got : Upto w bg 27 n kg (ptrAt g)
  repr : Upto w br 3 n kr (intAt rep)
  parr : Upto w bp 3 n kr (parAt par)
  bel : Below B w1 w
  lo : B ≤ bg
  gr : bg < br
  rp : br < bp

section
variable {w1 w : World} {B n kn kg kr bg br bp : Nat} {nm : Nat → ByteArray} {K O : Nat → Int} {rep : Nat → Nat} {par : Nat → Option Nat} {g : Nat → Nat} {mp : Option Nat → Option Nat}

theorem St.drew (h : St w1 w B n kn kg kr bg br bp nm K O rep par g mp) : St w1 w.drew B n kn kg kr bg br bp nm K O rep par g mp :=
  ⟨h.inv.drew, h.got, h.repr, h.parr, h.bel.drew, h.lo, h.gr, h.rp⟩

theorem St.drewN (h : St w1 w B n kn kg kr bg br bp nm K O rep par g mp) (m : Nat) : St w1 (w.drewN m) B n kn kg kr bg br bp nm K O rep par g mp :=
  ⟨h.inv.block (fun _ _ => rfl) (fun _ _ _ _ => rfl), h.got, h.repr, h.parr, below_drewN h.bel m, h.lo, h.gr, h.rp⟩

/-- the node of a call is stored -/
theorem St.setGot (h : St w1 w B n kn kg kr bg br bp nm K O rep par g mp) : St w1 (w.setCell ⟨bg, kg, none⟩ (ptrAt g kg)) B n kn (kg + 1) kr bg br bp nm K O rep par g mp := by
  have hg := h.got
  obtain ⟨c, hc, _⟩ := hg
  have h1 := h.gr
  have h2 := h.rp
  exact ⟨h.inv.setRow hc (by decide) kg _, h.got.set, h.repr.setOther (by show br ≠ bg; omega) _, h.parr.setOther (by show bp ≠ bg; omega) _, h.bel.setCell h.lo _, h.lo, h.gr, h.rp⟩

/-- its representative and its parent are stored -/
theorem St.setRep (h : St w1 w B n kn kg kr bg br bp nm K O rep par g mp) : St w1 ((w.setCell ⟨br, kr, none⟩ (intAt rep kr)).setCell ⟨bp, kr, none⟩ (parAt par kr)) B n kn kg (kr + 1) bg br bp nm K O rep par g mp := by
  have h0 := h.lo
  have h1 := h.gr
  have h2 := h.rp
  have hrr := h.repr
  obtain ⟨c, hc, _⟩ := hrr
  have hpp := h.parr
  obtain ⟨d, hd, _⟩ := hpp
  refine ⟨(h.inv.setRow hc (by decide) kr _).setRow (hd.setOther (by show bp ≠ br; omega) _) (by decide) kr _, (h.got.setOther (by show bg ≠ br; omega) _).setOther (by show bg ≠ bp; omega) _, h.repr.set.setOther (by show br ≠ bp; omega) _, (h.parr.setOther (by show bp ≠ br; omega) _).set, (h.bel.setCell (by show B ≤ br; omega) _).setCell (by show B ≤ bp; omega) _, h.lo, h.gr, h.rp⟩

theorem upto_upd {t : TypeId} {b : Nat} {α : Type} {F : (Nat → α) → Nat → Value} (hF : ∀ (f f' : Nat → α) j, f j = f' j → F f j = F f' j) {f : Nat → α} (h : Upto w b t n kg (F f)) (a : α) : Upto w b t n kg (F (upd f kg a)) :=
  h.congr (fun i hi => hF _ _ i (by rw [upd_other _ _ _ _ (by omega)]))

theorem ptrAt_c (f f' : Nat → Nat) (j : Nat) (h : f j = f' j) : ptrAt f j = ptrAt f' j := by unfold ptrAt; rw [h]
theorem intAt_c (f f' : Nat → Nat) (j : Nat) (h : f j = f' j) : intAt f j = intAt f' j := by unfold intAt; rw [h]
theorem parAt_c (f f' : Nat → Option Nat) (j : Nat) (h : f j = f' j) : parAt f j = parAt f' j := by unfold parAt; rw [h]

/-- BEHIND THE CALL OF A NAME THAT IS THERE -/
theorem St.old {k : Nat} (h : St w1 w B n k k k bg br bp nm K O rep par g mp) (x : Option Nat) (hx : valid k rep x) (c : Nat) (hc : lookIn (kidsOf k rep par g nm x) (nm k) = some c) :
    ∃ rep' par' g', g' k = c ∧ par' k = x ∧ St w1 w B n (k + 1) k k bg br bp nm K O rep' par' g' mp := by
  obtain ⟨r, hI⟩ := h.inv.old x hx c hc
  exact ⟨_, _, _, upd_same _ _ _, upd_same _ _ _, ⟨hI, upto_upd ptrAt_c h.got c, upto_upd intAt_c h.repr r, upto_upd parAt_c h.parr x, h.bel, h.lo, h.gr, h.rp⟩⟩

/-- BEHIND THE CALL OF A NEW NAME -/
theorem St.new {k : Nat} (h : St w1 w B n k k k bg br bp nm K O rep par g mp) (x : Option Nat) (hx : valid k rep x) (hc : lookIn (kidsOf k rep par g nm x) (nm k) = none) {e : Ending} {w' : World}
    (hs : NewSays w (blk B g x) (pOf B g par x) (nOf nm x) (oOf O x) (kOf K x) (mp x) (kidsOf k rep par g nm x) (nm k) (K k) (O k) e w') :
    ∃ c rep' par' g' mp', e = .returned (.pointer (some ⟨c, 0, none⟩)) ∧ g' k = c ∧ par' k = x ∧ St w1 w' B n (k + 1) k k bg br bp nm K O rep' par' g' mp' := by
  obtain ⟨c, r, rfl, hcs, hN, hX, hr, hos, htp, hou, hsz, hfr⟩ := hs
  have hI := h.inv.new x hx c r hc hcs hN hX hr hfr
  have hbl : ∀ b t f, t ≠ 40 → w.rowIs b t n f → w'.heap[b]? = w.heap[b]? := by
    intro b t f ht hb
    obtain ⟨h1, h2⟩ := h.inv.rowNe hb ht
    exact hfr b hb.lt (fun e => h1 x hx e.symm) (fun e => h2 x b hx e rfl)
  have hgot := h.got
  have hrep := h.repr
  have hpar := h.parr
  obtain ⟨cg, hcg, _⟩ := hgot
  obtain ⟨cr, hcr, _⟩ := hrep
  obtain ⟨cp, hcp, _⟩ := hpar
  refine ⟨c, _, _, _, _, rfl, upd_same _ _ _, upd_same _ _ _, ⟨hI, upto_upd ptrAt_c (h.got.block (hbl _ _ _ (by decide) hcg)) c, upto_upd intAt_c (h.repr.block (hbl _ _ _ (by decide) hcr)) _, upto_upd parAt_c (h.parr.block (hbl _ _ _ (by decide) hcp)) x, ?_, h.lo, h.gr, h.rp⟩⟩
  refine h.bel.trans ⟨hos, htp, hou, hsz, fun i hi => ?_⟩
  have hb := h.inv.base x hx
  have hB : B < w.heap.size := h.inv.base none trivial |> fun hh => Nat.lt_of_le_of_lt hh (h.inv.node none trivial).lt
  refine hfr i (by omega) (by omega) (fun e => ?_)
  have := h.inv.mbase x i hx e
  omega

theorem St.start {w2 w3 w4 w5 : World} {xs ys zs : List Value} (nm : Nat → ByteArray) (K O : Nat → Int) (hrow2 : w2.rowIs w1.heap.size 40 7 (nodeCells none ByteArray.empty 0 1 none)) (hbel2 : Below w1.heap.size w1 w2)
    (h3 : w3.ownsRow 0 27 1 (.slice (some ⟨w2.heap.size, 0, none⟩) n n) n xs) (g3 : w2.grownBy w3 none) (h4 : w4.ownsRow 0 3 1 (.slice (some ⟨w3.heap.size, 0, none⟩) n n) n ys) (g4 : w3.grownBy w4 none)
    (h5 : w5.ownsRow 0 3 1 (.slice (some ⟨w4.heap.size, 0, none⟩) n n) n zs) (g5 : w4.grownBy w5 none) :
    St w1 w5 w1.heap.size n 0 0 0 w2.heap.size w3.heap.size w4.heap.size nm K O (fun _ => 0) (fun _ => none) (fun _ => 0) (fun _ => none) := by
  have l3 := (h3.lt w2.heap.size rfl).2
  have l4 := (h4.lt w3.heap.size rfl).2
  have l2 := hrow2.lt
  have hrow5 : w5.rowIs w1.heap.size 40 7 (nodeCells none ByteArray.empty 0 1 none) := ((hrow2.of_block (g3.block _ (by omega) (by simp))).of_block (g4.block _ (by omega) (by simp))).of_block (g5.block _ (by omega) (by simp))
  refine ⟨Inv.start _ nm K O hrow5, ((Upto.ofOwns _ h3).block (g4.block _ (by omega) (by simp))).block (g5.block _ (by omega) (by simp)), (Upto.ofOwns _ h4).block (g5.block _ (by omega) (by simp)), Upto.ofOwns _ h5, ?_, by omega, by omega, by omega⟩
  exact ((hbel2.grown g3 (by omega) (by simp)).grown g4 (by omega) (by simp)).grown g5 (by omega) (by simp)
end

def TrueSays (w : World) (e : Ending) (w' : World) : Prop := e = .returned (.bool true) ∧ Below w.heap.size w w'

end Go.Proofs.Qxb6601831a
