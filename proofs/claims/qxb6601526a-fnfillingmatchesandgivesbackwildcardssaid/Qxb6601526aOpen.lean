import Derived.Test.Qxb6601526aLaw3
import Derived.ProofKit
import Derived.ShutString
import Derived.ChangeOld
import Derived.Below
import Derived.SliceStrings
namespace Go.Proofs.Qxb6601526a
open Go.ChangeShapes Go.WideShapes Go.ChangeAt Go.RowKit

theorem own : ownKnob Try.prog.godebug = none := by kernel_rfl
theorem laidOut : laidOutB Try.prog = true := by kernel_rfl

/-- A slice of strings that came in, as a 'Row'. -/
theorem open_row {H : Type} {enc : TypeId × Value → H} {W : World} {a : Option Addr} {len cap : Nat} {d : DataW H} {p : List MemPlace}
    (h : DataW.Trod enc Try.prog W 0 (fun _ => true) true 22 (Value.slice a len cap) d p) : ∃ ss : List ByteArray, ss.length = len ∧ Row W a cap ss := by
  obtain ⟨fuel, hf⟩ := h
  rcases open_strings Try.underlying22 Try.underlying9 (by kernel_rfl) hf with ⟨hcs, _⟩ | ⟨x, l, c, zs, hcs, _, hl, hm, hz, _, hcell, hwz⟩
  · simp [Value.cells] at hcs
    obtain ⟨rfl, rfl, rfl⟩ := hcs
    exact ⟨[], rfl, row_nil _⟩
  · simp [Value.cells] at hcs
    obtain ⟨rfl, rfl, rfl⟩ := hcs
    simp only [if_true] at hz
    refine ⟨zs.take len, by simp; omega, by simp; omega, hm, by simp, fun s hs => hwz s (List.mem_of_mem_take hs), ?_⟩
    by_cases h0 : len = 0
    · left; simp [h0]
    · right
      obtain ⟨b, off, spot⟩ := x
      have hc := hcell 0 (by omega)
      have hspot : spot = none := by simpa [Addr.add] using World.cell?_spot hc
      subst hspot
      refine ⟨b, off, rfl, ?_, fun i hi => ?_⟩
      · simpa [Addr.add] using World.block_lt_of_cell? W _ hc
      · have hi' : i < len := by simp at hi; omega
        have := hcell i (by omega)
        rw [show (Addr.add ⟨b, off, none⟩ i) = ⟨b, off + i, none⟩ from by cases i <;> simp [Addr.add]] at this
        rw [this]
        simp [List.getD, hi']

end Go.Proofs.Qxb6601526a
