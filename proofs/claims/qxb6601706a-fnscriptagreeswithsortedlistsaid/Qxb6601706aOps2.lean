import Derived.Test.Qxb6601706aOps
import Derived.Test.Qxb6601706aStc
namespace Go.Proofs.Qxb6601706a
open Go.RowKit
set_option linter.unusedVariables false
set_option linter.unusedSimpArgs false

theorem owns_cell_frozen {w : World} {e size g n cap : Nat} {xs : List Value} (h : w.ownsRow 0 e size (.slice (some ⟨g, 0, none⟩) n cap) n xs) (j : Nat) (hj : j < n * size) : (∃ v, w.cell? ⟨g, j, none⟩ = some v) ∧ w.frozen? ⟨g, j, none⟩ = false := by
  constructor
  · have h1 := h.cellAt j hj
    have : j < xs.length := by rw [h.1]; exact hj
    rw [List.getElem?_eq_getElem this] at h1
    exact ⟨_, h1⟩
  · rcases h.2 with ⟨h1, _⟩ | ⟨g', cap', cur, hv, _, hg, _⟩
    · simp at h1
    · simp only [Value.slice.injEq, Option.some.injEq, Addr.mk.injEq, and_true, true_and] at hv
      obtain ⟨rfl, rfl⟩ := hv
      simp [World.frozen?, hg]

theorem st52 {w : World} {g n cap : Nat} {xs : List Value} (h : w.ownsRow 0 52 4 (.slice (some ⟨g, 0, none⟩) n cap) n xs) (i : Nat) (hi : i < n) (e : Ent) :
    (Instr.storeAt 52 (.pointer (some ⟨g, i * 4, none⟩)) (.agg #[.string e.key, .slice e.va e.vl e.vc, .int .u64 e.rev, .int .u64 e.lease])).run Try.prog w = .ok () ((((w.setCell ⟨g, i * 4, none⟩ (.string e.key)).setCell ⟨g, i * 4 + 1, none⟩ (.slice e.va e.vl e.vc)).setCell ⟨g, i * 4 + 2, none⟩ (.int .u64 e.rev)).setCell ⟨g, i * 4 + 3, none⟩ (.int .u64 e.lease)) := by
  have hl : i * 4 + 4 ≤ n * 4 := by omega
  obtain ⟨a1, b1⟩ := h.stored (i * 4) (.string e.key)
  obtain ⟨a2, b2⟩ := a1.stored (i * 4 + 1) (.slice e.va e.vl e.vc)
  obtain ⟨a3, b3⟩ := a2.stored (i * 4 + 2) (.int .u64 e.rev)
  obtain ⟨⟨v0, c0⟩, f0⟩ := owns_cell_frozen h (i * 4) (by omega)
  obtain ⟨⟨v1, c1⟩, f1⟩ := owns_cell_frozen a1 (i * 4 + 1) (by omega)
  obtain ⟨⟨v2, c2⟩, f2⟩ := owns_cell_frozen a2 (i * 4 + 2) (by omega)
  obtain ⟨⟨v3, c3⟩, f3⟩ := owns_cell_frozen a3 (i * 4 + 3) (by omega)
  clear a1 a2 a3 b1 b2 b3 h hl hi
  go_simp
theorem ix35 {g n cap i : Nat} (w : World) (hi : i < n) (hn : n ≤ 1000) : (Instr.indexAt 35 (.slice (some ⟨g, 0, none⟩) n cap) (.int .i64 i)).run Try.prog w = .ok (.pointer (some ⟨g, i * 4, none⟩)) w := by
  go_simp
theorem ix36 {g n cap i : Nat} (w : World) (hi : i < n) (hn : n ≤ 1000) : (Instr.indexAt 36 (.slice (some ⟨g, 0, none⟩) n cap) (.int .i64 i)).run Try.prog w = .ok (.pointer (some ⟨g, i, none⟩)) w := by
  go_simp
theorem fld52_0 (b j : Nat) (w : World) : (Instr.fieldAt 52 (.pointer (some ⟨b, j, none⟩)) 0).run Try.prog w = .ok (.pointer (some ⟨b, j, none⟩)) w := by go_simp
theorem fld50_0 (b j : Nat) (w : World) : (Instr.fieldAt 50 (.pointer (some ⟨b, j, none⟩)) 0).run Try.prog w = .ok (.pointer (some ⟨b, j, none⟩)) w := by go_simp
theorem ld9 {b j : Nat} {w : World} {v : Value} (h : w.cell? ⟨b, j, none⟩ = some v) : (Instr.loadAt 9 (.pointer (some ⟨b, j, none⟩))).run Try.prog w = .ok v w := by go_simp

end Go.Proofs.Qxb6601706a
