import Derived.Test.Qxb6601706aSame
namespace Go.Proofs.Qxb6601706a
open Go.RowKit
set_option linter.unusedVariables false
set_option linter.unusedSimpArgs false

theorem fld29_0 (b o : Nat) (w : World) : (Instr.fieldAt 29 (.pointer (some ⟨b, o, none⟩)) 0).run Try.prog w = .ok (.pointer (some ⟨b, o, none⟩)) w := by go_simp
theorem fld29_1 (b o : Nat) (w : World) : (Instr.fieldAt 29 (.pointer (some ⟨b, o, none⟩)) 1).run Try.prog w = .ok (.pointer (some ⟨b, o + 1, none⟩)) w := by go_simp
theorem fld57_0 (b o : Nat) (w : World) : (Instr.fieldAt 57 (.pointer (some ⟨b, o, none⟩)) 0).run Try.prog w = .ok (.pointer (some ⟨b, o, none⟩)) w := by go_simp
theorem fld57_1 (b o : Nat) (w : World) : (Instr.fieldAt 57 (.pointer (some ⟨b, o, none⟩)) 1).run Try.prog w = .ok (.pointer (some ⟨b, o + 1, none⟩)) w := by go_simp
theorem fld57_2 (b o : Nat) (w : World) : (Instr.fieldAt 57 (.pointer (some ⟨b, o, none⟩)) 2).run Try.prog w = .ok (.pointer (some ⟨b, o + 2, none⟩)) w := by go_simp
theorem fld57_3 (b o : Nat) (w : World) : (Instr.fieldAt 57 (.pointer (some ⟨b, o, none⟩)) 3).run Try.prog w = .ok (.pointer (some ⟨b, o + 3, none⟩)) w := by go_simp
theorem ld26 {b j : Nat} {w : World} {v : Value} (h : w.cell? ⟨b, j, none⟩ = some v) : (Instr.loadAt 26 (.pointer (some ⟨b, j, none⟩))).run Try.prog w = .ok v w := by go_simp
theorem ld27 {b j : Nat} {w : World} {v : Value} (h : w.cell? ⟨b, j, none⟩ = some v) : (Instr.loadAt 27 (.pointer (some ⟨b, j, none⟩))).run Try.prog w = .ok v w := by go_simp
theorem ld22 {b j : Nat} {w : World} {v : Value} (h : w.cell? ⟨b, j, none⟩ = some v) : (Instr.loadAt 22 (.pointer (some ⟨b, j, none⟩))).run Try.prog w = .ok v w := by go_simp
theorem ld45 {b j : Nat} {w : World} {v : Value} (h : w.cell? ⟨b, j, none⟩ = some v) : (Instr.loadAt 45 (.pointer (some ⟨b, j, none⟩))).run Try.prog w = .ok v w := by go_simp
theorem ld46 {b j : Nat} {w : World} {v : Value} (h : w.cell? ⟨b, j, none⟩ = some v) : (Instr.loadAt 46 (.pointer (some ⟨b, j, none⟩))).run Try.prog w = .ok v w := by go_simp
theorem st57 {w : World} {g n cap : Nat} {xs : List Value} (h : w.ownsRow 0 57 4 (.slice (some ⟨g, 0, none⟩) n cap) n xs) (i : Nat) (hi : i < n) (e : Ent) :
    (Instr.storeAt 57 (.pointer (some ⟨g, i * 4, none⟩)) (.agg #[.string e.key, .slice e.va e.vl e.vc, .int .u64 e.rev, .int .u64 e.lease])).run Try.prog w = .ok () ((((w.setCell ⟨g, i * 4, none⟩ (.string e.key)).setCell ⟨g, i * 4 + 1, none⟩ (.slice e.va e.vl e.vc)).setCell ⟨g, i * 4 + 2, none⟩ (.int .u64 e.rev)).setCell ⟨g, i * 4 + 3, none⟩ (.int .u64 e.lease)) := by
  have hl : i * 4 + 4 ≤ n * 4 := by omega
  obtain ⟨a1, b1⟩ := h.stored (i * 4) (.string e.key)
  obtain ⟨a2, b2⟩ := a1.stored (i * 4 + 1) (.slice e.va e.vl e.vc)
  obtain ⟨a3, b3⟩ := a2.stored (i * 4 + 2) (.int .u64 e.rev)
  obtain ⟨⟨v0, c0⟩, f0⟩ := owns_cell_frozen h (i * 4) (by omega)
  obtain ⟨⟨v1, c1⟩, f1⟩ := owns_cell_frozen a1 (i * 4 + 1) (by omega)
  obtain ⟨⟨v2, c2⟩, f2⟩ := owns_cell_frozen a2 (i * 4 + 2) (by omega)
  obtain ⟨⟨v3, c3⟩, f3⟩ := owns_cell_frozen a3 (i * 4 + 3) (by omega)
  clear a1 a2 a3 b1 b2 b3 h hl hi
  go_simp
theorem st22 {w : World} {g i : Nat} {u : Value} (q : Option Addr) (h : w.cell? ⟨g, i, none⟩ = some u) (hf : w.frozen? ⟨g, i, none⟩ = false) : (Instr.storeAt 22 (.pointer (some ⟨g, i, none⟩)) (.pointer q)).run Try.prog w = .ok () (w.setCell ⟨g, i, none⟩ (.pointer q)) := by go_simp
theorem ix27 {g o n cap i : Nat} (w : World) (hi : i < n) (hn : n ≤ 1000) : (Instr.indexAt 27 (.slice (some ⟨g, o, none⟩) n cap) (.int .i64 i)).run Try.prog w = .ok (.pointer (some ⟨g, o + i, none⟩)) w := by
  go_simp
theorem ix27_0 {g n cap i : Nat} (w : World) (hi : i < n) (hn : n ≤ 1000) : (Instr.indexAt 27 (.slice (some ⟨g, 0, none⟩) n cap) (.int .i64 i)).run Try.prog w = .ok (.pointer (some ⟨g, i, none⟩)) w := by
  go_simp
theorem two_cells {w : World} {b t : Nat} {x y : Value} (h : w.heap[b]? = some (.cells #[x, y] t (0, 0))) :
    w.cell? ⟨b, 0, none⟩ = some x ∧ w.cell? ⟨b, 1, none⟩ = some y ∧ w.frozen? ⟨b, 0, none⟩ = false ∧ w.frozen? ⟨b, 1, none⟩ = false := by
  refine ⟨by simp [World.cell?, h], by simp [World.cell?, h], by simp [World.frozen?, h], by simp [World.frozen?, h]⟩
theorem at57_cells {w : World} {eb : Nat} {e : Ent} (h : w.heap[eb]? = some (.cells #[.string e.key, .slice e.va e.vl e.vc, .int .u64 e.rev, .int .u64 e.lease] 57)) :
    w.cell? ⟨eb, 0, none⟩ = some (.string e.key) ∧ w.cell? ⟨eb, 0 + 1, none⟩ = some (.slice e.va e.vl e.vc) ∧ w.cell? ⟨eb, 0 + 2, none⟩ = some (.int .u64 e.rev) ∧ w.cell? ⟨eb, 0 + 3, none⟩ = some (.int .u64 e.lease) := by
  refine ⟨?_, ?_, ?_, ?_⟩ <;> simp [World.cell?, h]
end Go.Proofs.Qxb6601706a
