import Derived.Test.Qxb6601706aLaw7
import Derived.Test.Qxb6601706aOpen
namespace Go.Proofs.Qxb6601706a
open Go.ChangeShapes Go.WideShapes Go.ChangeAt Go.RowKit
set_option linter.unusedVariables false
set_option linter.unusedSimpArgs false

theorem Try.cells4 : Try.prog.cellsOf 4 = 1 := by kernel_rfl

section
variable {H : Type} {enc : TypeId × Value → H} {W : World}
theorem open_cells {α : Type} [Inhabited α] {f : α → Value} {t e : TypeId} (ht : Try.prog.underlying t = some (.slice e)) (hc : Try.prog.cellsOf e = 1) (each : ∀ (n : Nat) (v : Value) (x : DataW H × List MemPlace), DataW.trod enc Try.prog W 0 (fun _ => true) true n e [v] = some x → ∃ b : α, v = f b)
    {fuel : Nat} {cs : List Value} {x : DataW H × List MemPlace} (h : DataW.trod enc Try.prog W 0 (fun _ => true) true fuel t cs = some x) :
    ∃ va vl vc, ∃ bs : List α, cs = [.slice va vl vc] ∧ vl = bs.length ∧ vl ≤ maxLen ∧ (va = none → vl = 0) ∧ Cells f bs va W := by
  rcases Go.Deep.open_slice1 ht hc h with ⟨hcs, _⟩ | ⟨a, len, cap, m, n, V, D, Pl, hcs, _, hl, hm, hmm, _, hx⟩
  · exact ⟨none, 0, 0, [], hcs, rfl, by omega, fun _ => rfl, fun j b hb => by simp at hb⟩
  · simp only [if_true] at hmm
    obtain rfl := hmm.symm
    have hb : ∀ i, i < cap → ∃ b : α, V i = f b := fun i hi => each _ _ _ (hx i hi).2
    obtain ⟨B, hB⟩ := Go.Deep.choose_lt hb
    obtain ⟨g, o, spot⟩ := a
    have hspot : 0 < len → spot = none := by
      intro h0
      have h1 := World.cell?_spot (hx 0 (by omega)).1
      simpa [Addr.add] using h1
    refine ⟨some ⟨g, o, spot⟩, len, cap, (List.range len).map B, hcs, by simp, Nat.le_trans hl hm, by simp, ?_⟩
    intro j b hj
    rw [List.getElem?_map] at hj
    by_cases hjl : j < len
    · rw [List.getElem?_range hjl] at hj
      simp at hj
      have hs := hspot (by omega)
      subst hs
      refine ⟨g, o, rfl, ?_⟩
      have h1 := (hx j (by omega)).1
      rw [add_at, hB j (by omega), hj] at h1
      exact h1
    · rw [List.getElem?_eq_none (by simp; omega)] at hj
      simp at hj
theorem open_strs {fuel : Nat} {cs : List Value} {x : DataW H × List MemPlace} (h : DataW.trod enc Try.prog W 0 (fun _ => true) true fuel 62 cs = some x) :
    ∃ va vl vc, ∃ bs : List ByteArray, cs = [.slice va vl vc] ∧ vl = bs.length ∧ vl ≤ maxLen ∧ (va = none → vl = 0) ∧ Cells Value.string bs va W :=
  open_cells Try.underlying62 Try.cells9 (fun n v x hv => by
    obtain ⟨s, hs, _⟩ := DataW.trod_string Try.underlying9 hv
    exact ⟨s, by simpa using hs⟩) h
theorem open_bls {fuel : Nat} {cs : List Value} {x : DataW H × List MemPlace} (h : DataW.trod enc Try.prog W 0 (fun _ => true) true fuel 63 cs = some x) :
    ∃ va vl vc, ∃ bs : List Bool, cs = [.slice va vl vc] ∧ vl = bs.length ∧ vl ≤ maxLen ∧ (va = none → vl = 0) ∧ Cells Value.bool bs va W :=
  open_cells Try.underlying63 Try.cells4 (fun n v x hv => by
    obtain ⟨s, hs, _⟩ := DataW.trod_bool Try.underlying4 hv
    exact ⟨s, by simpa using hs⟩) h
end

/-! ### THE ROW's STEP -/
set_option maxRecDepth 100000 in
theorem lifted7 (os : Os) (started : os.Started) (H : Type) (enc : TypeId × Value → H) :
    ReturnsInHanded {} Try.checked os 7 .any (Rows.fnScriptAgreesWithSortedListSpec.pre6 enc Try.prog Try.f7 Rows.fnScriptAgreesWithSortedListRow.domain false) (Rows.fnScriptAgreesWithSortedListSpec.post enc Try.prog Try.f7 false true false false) := by
  refine returnsInHanded_of_change (C := Try.checked) own started (by kernel_rfl) Try.func7
    (ChangeSpec.witness6 (enc := enc) (C := Try.checked) false ⟨#[], #[.slice none 0 0, .slice none 0 0], []⟩ 8 (by kernel_rfl) (by kernel_rfl) (by kernel_rfl) (by kernel_rfl)) ?_
  intro W base args ds gs before hval0 hW hcnd _
  have hval : ∀ (j : Nat) t v, Try.f7.params[j]? = some t → args[j]? = some v → Value.okWide Try.prog W .any base t v := hval0
  have hW' := hW
  obtain ⟨p, q, hA0, hV, rfl, hfz, hnd⟩ := hW
  have hA : DataW.TrodAll enc Try.prog W 0 (fun _ => true) true Try.f7.params.toList args.toList ds p := hA0
  rw [Try.params7] at hA hval
  obtain ⟨v0, vs0, d0, ds0, p0, q0, hargs, rfl, rfl, h0, r0⟩ := trodAll_cons hA
  obtain ⟨v1, vs1, d1, ds1, p1, q1, rfl, rfl, rfl, h1, r1⟩ := trodAll_cons r0
  obtain ⟨rfl, rfl, rfl⟩ := trodAll_nil r1
  obtain rfl : args = #[v0, v1] := by cases args; simp_all
  obtain ⟨rfl, rfl⟩ := trodVars_none hV
  have lt0 : ∀ x ∈ p0, x.block < W.heap.size := by obtain ⟨m, hm⟩ := h0; exact DataW.trod_lt m _ _ _ hm
  have lt1 : ∀ x ∈ p1, x.block < W.heap.size := by obtain ⟨m, hm⟩ := h1; exact DataW.trod_lt m _ _ _ hm
  have k0 := h0
  have k1 := h1
  obtain ⟨a0, l0, c0, rfl⟩ := okWide_slice Try.underlying62 (hval 0 62 v0 rfl rfl)
  obtain ⟨a1, l1, c1, rfl⟩ := okWide_slice Try.underlying63 (hval 1 63 v1 rfl rfl)
  obtain ⟨f0, hf0⟩ := h0
  obtain ⟨va, vl, vc, bs, e0, g1, g2, g3, g4⟩ := open_strs hf0
  simp [Value.cells] at e0
  obtain ⟨rfl, rfl, rfl⟩ := e0
  obtain ⟨f1, hf1⟩ := h1
  obtain ⟨va', vl', vc', bs', e1, i1, i2, i3, i4⟩ := open_bls hf1
  simp [Value.cells] at e1
  obtain ⟨rfl, rfl, rfl⟩ := e1
  clear hA0 hval0
  refine (law7 W a0 l0 c0 a1 l1 c1 bs bs' g1 i1 g2 i2 g3 i3 g4 i4).mono fun e W' ⟨he, hgr⟩ => ?_
  have bel : Below W.heap.size W W' := (Below.refl _ _).grown hgr (Nat.le_refl _) (by simp)
  subst he
  have b0 := Below.trod laidOut (by kernel_rfl) (of_decide_eq_true (by kernel_rfl)) k0 bel lt0
  have b1 := Below.trod laidOut (by kernel_rfl) (of_decide_eq_true (by kernel_rfl)) k1 bel lt1
  exact ⟨_, rfl, _, _, _, [], _, [], hW', trodAll_mk1 (shut_bool Try.underlying4 _), trodAll_mk2 b0 b1, rfl, bel.frame _, fun h => by cases h⟩

theorem over7 : Rows.fnScriptAgreesWithSortedListRow.holds Try.pinned (OpenSpec.ofChange Rows.fnScriptAgreesWithSortedListSpec) :=
  OpenClaim.holds_of_wide 7 Try.f7 rfl rfl rfl rfl rfl rfl rfl ⟨rfl, rfl, rfl, rfl, rfl⟩ rfl rfl rfl rfl rfl (by kernel_rfl) Try.func7 (by kernel_rfl)
    (of_decide_eq_true (by kernel_rfl)) (by unfold Func.isWrapper; first | (rw [if_pos (by decide +kernel)]; kernel_rfl) | (rw [if_neg (by decide +kernel)]; exact ⟨rfl, rfl⟩))
    (fun os started H enc _ => lifted7 os started H enc)

/-- THE STATEMENT -/
theorem fnScript_proved : Rows.FnScriptAgreesWithSortedListSaid := over7
end Go.Proofs.Qxb6601706a
