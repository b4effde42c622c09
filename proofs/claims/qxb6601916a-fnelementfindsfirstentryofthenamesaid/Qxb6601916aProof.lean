import Derived.Test.Qxb6601916aLaw
import Derived.ProofKit
import Derived.ShutString
import Derived.ChangeOld
import Derived.Below
import Derived.Deep.SlicePairs
namespace Go.Proofs.Qxb6601916a
open Go.ChangeShapes Go.WideShapes Go.ChangeAt Go.RowKit
open Go.ChangeMaps (open_string shut_string)
set_option linter.unusedVariables false
set_option linter.unusedSimpArgs false

theorem own : ownKnob Try.prog.godebug = none := by kernel_rfl
theorem laidOut : laidOutB Try.prog = true := by kernel_rfl
theorem Try.cells33 : Try.prog.cellsOf 33 = 2 := by kernel_rfl
theorem Try.cells9 : Try.prog.cellsOf 9 = 1 := by kernel_rfl
theorem Try.cells30 : Try.prog.cellsOf 30 = 1 := by kernel_rfl

theorem add_at (b off i : Nat) : (Addr.add ⟨b, off, none⟩ i) = ⟨b, off + i, none⟩ := by cases i <;> simp [Addr.add]

/-- A slice of entries that came in. -/
theorem open_ents {H : Type} {enc : TypeId × Value → H} {W : World} {a : Option Addr} {len cap : Nat} {d : DataW H} {p : List MemPlace}
    (h : DataW.Trod enc Try.prog W 0 (fun _ => true) true 22 (Value.slice a len cap) d p) : ∃ nm pt, Ents W a len cap nm pt ∧ Held W len pt := by
  obtain ⟨fuel, hf⟩ := h
  rcases Go.Deep.open_slice_pairs Try.underlying22 Try.underlying33 Try.cells33 rfl rfl Try.cells9 Try.cells30 hf with ⟨hcs, _⟩ | ⟨x, l, c, m, k, V0, V1, D0, D1, P0, P1, hcs, _, hl, hm, hmm, _, hx⟩
  · simp [Value.cells] at hcs
    obtain ⟨rfl, rfl, rfl⟩ := hcs
    exact ⟨fun _ => ByteArray.empty, fun _ => none, ⟨Nat.le_refl _, Nat.zero_le _, fun _ => rfl, by simp, by simp⟩, by intro i p hi; simp at hi⟩
  · simp [Value.cells] at hcs
    obtain ⟨rfl, rfl, rfl⟩ := hcs
    simp only [if_true] at hmm
    have hs : ∀ i, i < len → ∃ s : ByteArray, V0 i = .string s ∧ s.size ≤ maxLen := by
      intro i hi
      obtain ⟨s, h1, _, h2⟩ := DataW.trod_string Try.underlying9 (hx i (by omega)).2.2.1
      exact ⟨s, by simpa using h1, h2⟩
    have hp : ∀ i, i < len → ∃ q : Option Addr, V1 i = .pointer q ∧ ∀ a, q = some a → ∃ s : ByteArray, W.cell? a = some (.string s) ∧ s.size ≤ maxLen := by
      intro i hi
      rcases DataW.trod_pointer Try.underlying30 (hx i (by omega)).2.2.2 with ⟨h1, _⟩ | ⟨a, cs', y, n, _, h1, _, h2, h3⟩
      · exact ⟨none, by simpa using h1, by simp⟩
      · refine ⟨some a, by simpa using h1, fun a' ha => ?_⟩
        injection ha with ha
        subst ha
        rw [Try.cells9] at h2
        obtain ⟨s, h4, _, h5⟩ := DataW.trod_string Try.underlying9 h3
        subst h4
        obtain ⟨_, _, hc⟩ := World.cells?_some h2
        have := hc 0 (by omega)
        refine ⟨s, ?_, h5⟩
        simpa [Addr.add] using this
    obtain ⟨nm, hnm⟩ := Go.Deep.choose_lt hs
    obtain ⟨pt, hpt⟩ := Go.Deep.choose_lt hp
    refine ⟨nm, pt, ⟨hl, hm, by simp, fun i hi => (hnm i hi).2, fun i hi => ?_⟩, fun i p hi h => (hpt i hi).2 p h⟩
    obtain ⟨h1, h2, _⟩ := hx i (by omega)
    obtain ⟨b, off, spot⟩ := x
    have hspot : spot = none := by
      have h0 := World.cell?_spot (hx 0 (by omega)).1
      simpa [Addr.add] using h0
    subst hspot
    rw [add_at] at h1 h2
    rw [(hnm i hi).1] at h1
    rw [(hpt i hi).1] at h2
    exact ⟨b, off, rfl, World.block_lt_of_cell? W ⟨b, off + i * 2, none⟩ h1, h1, by rw [Nat.add_assoc]; exact h2⟩

/-! ### THE ROW's STEP -/
set_option maxRecDepth 100000 in
theorem lifted (os : Os) (started : os.Started) (H : Type) (enc : TypeId × Value → H) :
    ReturnsInHanded {} Try.checked os 3 .any (Rows.fnElementFindsFirstEntryOfTheNameSpec.pre6 enc Try.prog Try.f3 Rows.fnElementFindsFirstEntryOfTheNameRow.domain false) (Rows.fnElementFindsFirstEntryOfTheNameSpec.post enc Try.prog Try.f3 false true false false) := by
  refine returnsInHanded_of_change (C := Try.checked) own started (by kernel_rfl) Try.func3
    (ChangeSpec.witness6 (enc := enc) (C := Try.checked) false ⟨#[], #[.slice none 0 0, .string ByteArray.empty], []⟩ 8 (by kernel_rfl) (by kernel_rfl) (by kernel_rfl) (by kernel_rfl)) ?_
  intro W base args ds gs before hval0 hW hcnd _
  have hval : ∀ (j : Nat) t v, Try.f3.params[j]? = some t → args[j]? = some v → Value.okWide Try.prog W .any base t v := hval0
  have hW' := hW
  obtain ⟨p, q, hA0, hV, rfl, hfz, hnd⟩ := hW
  have hA : DataW.TrodAll enc Try.prog W 0 (fun _ => true) true Try.f3.params.toList args.toList ds p := hA0
  rw [Try.params3] at hA hval
  obtain ⟨v0, vs0, d0, ds0, p0, q0, hargs, rfl, rfl, h0, r0⟩ := trodAll_cons hA
  obtain ⟨v1, vs1, d1, ds1, p1, q1, rfl, rfl, rfl, h1, r1⟩ := trodAll_cons r0
  obtain ⟨rfl, rfl, rfl⟩ := trodAll_nil r1
  obtain rfl : args = #[v0, v1] := by cases args; simp_all
  obtain ⟨rfl, rfl⟩ := trodVars_none hV
  obtain ⟨a0, len0, cap0, rfl⟩ := okWide_slice Try.underlying22 (hval 0 22 v0 rfl rfl)
  have k0 := h0
  have lt0 : ∀ x ∈ p0, x.block < W.heap.size := by obtain ⟨m, hm⟩ := k0; exact DataW.trod_lt m _ _ _ hm
  obtain ⟨nm, pt, w0, w0h⟩ := open_ents h0
  obtain ⟨s1, rfl, rfl, rfl, hs1⟩ := open_string Try.underlying9 (hval 1 9 v1 rfl rfl) h1
  clear hA0 hval0
  refine (law3 a0 len0 cap0 nm pt s1 W w0 w0h hs1).mono fun e W' ⟨he, bel⟩ => ?_
  subst he
  exact ⟨_, rfl, _, _, _, [], _, [], hW', trodAll_mk1 (shut_bool Try.underlying4 _), (trodAll_mk2 (Below.trod laidOut (by kernel_rfl) (of_decide_eq_true (by kernel_rfl)) k0 bel lt0) (shut_string Try.underlying9 hs1)), rfl, bel.frame _, fun h => by cases h⟩

theorem over : Rows.fnElementFindsFirstEntryOfTheNameRow.holds Try.pinned (OpenSpec.ofChange Rows.fnElementFindsFirstEntryOfTheNameSpec) :=
  OpenClaim.holds_of_wide 3 Try.f3 rfl rfl rfl rfl rfl rfl rfl ⟨rfl, rfl, rfl, rfl, rfl⟩ rfl rfl rfl rfl rfl (by kernel_rfl) Try.func3 (by kernel_rfl)
    (of_decide_eq_true (by kernel_rfl)) (by unfold Func.isWrapper; first | (rw [if_pos (by decide +kernel)]; kernel_rfl) | (rw [if_neg (by decide +kernel)]; exact ⟨rfl, rfl⟩))
    (fun os started H enc _ => lifted os started H enc)

/-- THE STATEMENT -/
theorem fnElement_proved : Rows.FnElementFindsFirstEntryOfTheNameSaid := over
end Go.Proofs.Qxb6601916a
