import Derived.Test.Qxb6601831aBase
import Derived.ProofKit
import Derived.ShutString
import Derived.ChangeOld
import Derived.Below
import Derived.Deep.Slices
namespace Go.Proofs.Qxb6601831a
open Go.ChangeShapes Go.WideShapes Go.ChangeAt Go.RowKit
set_option linter.unusedVariables false
set_option linter.unusedSimpArgs false

theorem own : ownKnob Try.prog.godebug = none := by kernel_rfl
theorem laidOut : laidOutB Try.prog = true := by kernel_rfl
theorem Try.cells25 : Try.prog.cellsOf 25 = 4 := by kernel_rfl
theorem Try.cells9 : Try.prog.cellsOf 9 = 1 := by kernel_rfl
theorem Try.cells3 : Try.prog.cellsOf 3 = 1 := by kernel_rfl

theorem add_at (b off i : Nat) : (Addr.add ⟨b, off, none⟩ i) = ⟨b, off + i, none⟩ := by cases i <;> simp [Addr.add]

theorem four {α : Type} {l : List α} (h : l.length = 4) : ∃ a b c d, l = [a, b, c, d] := by
  match l, h with
  | [a, b, c, d], _ => exact ⟨a, b, c, d, rfl⟩

/-- A script that came in. -/
theorem open_scr {H : Type} {enc : TypeId × Value → H} {W : World} {a : Option Addr} {len cap : Nat} {d : DataW H} {p : List MemPlace}
    (h : DataW.Trod enc Try.prog W 0 (fun _ => true) true 22 (Value.slice a len cap) d p) : ∃ P nm K O, Scr W a len cap P nm K O := by
  obtain ⟨fuel, hf⟩ := h
  rcases Go.Deep.open_slice Try.underlying22 hf with ⟨hcs, _⟩ | ⟨x, l, c, m, k, D, Pl, hcs, _, hl, hm, hmm, _, hx⟩
  · simp [Value.cells] at hcs
    obtain ⟨rfl, rfl, rfl⟩ := hcs
    exact ⟨fun _ => 0, fun _ => ByteArray.empty, fun _ => 0, fun _ => 0, ⟨Nat.le_refl _, Nat.zero_le _, fun _ => rfl, by simp, by simp⟩⟩
  · simp [Value.cells] at hcs
    obtain ⟨rfl, rfl, rfl⟩ := hcs
    simp only [if_true] at hmm
    have each : ∀ i, i < len → ∃ q : Int × ByteArray × Int × Int, W.cell? (x.add (i * 4)) = some (.int .i64 q.1) ∧ W.cell? (x.add (i * 4 + 1)) = some (.string q.2.1) ∧ W.cell? (x.add (i * 4 + 2)) = some (.int .i64 q.2.2.1) ∧ W.cell? (x.add (i * 4 + 3)) = some (.int .i64 q.2.2.2) ∧ q.2.1.size ≤ maxLen := by
      intro i hi
      obtain ⟨cs', h1, h2⟩ := hx i (by omega)
      rw [Try.cells25] at h1
      obtain ⟨_, hlen, hcell⟩ := World.cells?_some h1
      obtain ⟨xs, k', hk, hxy, _, hxl, hfl⟩ := DataW.trod_struct Try.underlying25 h2
      obtain ⟨v0, v1, v2, v3, rfl⟩ := four hlen
      obtain ⟨y0, y1, y2, y3, rfl⟩ := four hxl
      have g0 := hfl 0 _ rfl
      have g1 := hfl 1 _ rfl
      have g2 := hfl 2 _ rfl
      have g3 := hfl 3 _ rfl
      simp [Try.cells9, Try.cells3] at g0 g1 g2 g3
      obtain ⟨p0, e0, _, _⟩ := DataW.trod_int Try.underlying3 g0
      obtain ⟨s1, e1, _, hs1⟩ := DataW.trod_string Try.underlying9 g1
      obtain ⟨p2, e2, _, _⟩ := DataW.trod_int Try.underlying3 g2
      obtain ⟨p3, e3, _, _⟩ := DataW.trod_int Try.underlying3 g3
      simp at e0 e1 e2 e3
      subst e0 e1 e2 e3
      have c0 := hcell 0 (by omega)
      have c1 := hcell 1 (by omega)
      have c2 := hcell 2 (by omega)
      have c3 := hcell 3 (by omega)
      rw [Go.Deep.add_add] at c0 c1 c2 c3
      exact ⟨(p0, s1, p2, p3), by simpa using c0, by simpa using c1, by simpa using c2, by simpa using c3, hs1⟩
    obtain ⟨q, hq⟩ := Go.Deep.choose_lt each
    refine ⟨fun i => (q i).1, fun i => (q i).2.1, fun i => (q i).2.2.1, fun i => (q i).2.2.2, ⟨hl, hm, by simp, fun i hi => (hq i hi).2.2.2.2, fun i hi => ?_⟩⟩
    obtain ⟨h1, h2, h3, h4, _⟩ := hq i hi
    obtain ⟨b, off, spot⟩ := x
    have hspot : spot = none := by
      have h0 := World.cell?_spot (hq 0 (by omega)).1
      simpa [Addr.add] using h0
    subst hspot
    rw [add_at] at h1 h2 h3 h4
    exact ⟨b, off, rfl, World.block_lt_of_cell? W ⟨b, off + i * 4, none⟩ h1, h1, by rw [Nat.add_assoc]; exact h2, by rw [Nat.add_assoc]; exact h3, by rw [Nat.add_assoc]; exact h4⟩

end Go.Proofs.Qxb6601831a
