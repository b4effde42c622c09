import Derived.Test.Qxb6601706aLex
import Derived.Test.Qxb6601706aKey
namespace Go.Proofs.Qxb6601706a
open Go.RowKit
set_option linter.unusedVariables false
set_option linter.unusedSimpArgs false

section
variable {P : Program} {o : Oper} {a : Act} {w w' : World} {v : Value}
theorem rd_field {s : TypeId} {x : Operand} {f : Nat} {u : Value} (h : (Instr.fieldAt s u f).run P w = .ok v w') (ho : o.op = .fieldAddr s x f) (hx : a.eval x = u) : (execOp a.eval o).run P w = .ok (.value v) w' := by simp [execOp, ho, hx, h]
theorem rd_load {t : TypeId} {x : Operand} {u : Value} (h : (Instr.loadAt t u).run P w = .ok v w') (ho : o.op = .load t x) (hx : a.eval x = u) : (execOp a.eval o).run P w = .ok (.value v) w' := by simp [execOp, ho, hx, h]
theorem rd_index {t : TypeId} {x y : Operand} {u z : Value} (h : (Instr.indexAt t u z).run P w = .ok v w') (ho : o.op = .indexAddr t x y) (hx : a.eval x = u) (hy : a.eval y = z) : (execOp a.eval o).run P w = .ok (.value v) w' := by simp [execOp, ho, hx, hy, h]
theorem rd_build {t : TypeId} {n : Nat} {x : Operand} {u : Value} (h : (Instr.buildSlice t n #[(0, u)]).run P w = .ok v w') (ho : o.op = .buildSlice t n #[(0, x)]) (hx : a.eval x = u) : (execOp a.eval o).run P w = .ok (.value v) w' := by simp [execOp, ho, hx, h]
theorem rd_len {t : TypeId} {x : Operand} {u : Value} (h : (Builtin.len_ #[t] o.type #[u]).run P w = .ok v w') (ho : o.op = .call { callee := .builtin .len, args := #[x], argTypes := #[t] }) (hx : a.eval x = u) : (execOp a.eval o).run P w = .ok (.value v) w' := by
  simp [execOp, ho, hx, resolve, invoke, builtin, h]
theorem rd_store {t : TypeId} {x y : Operand} {u z : Value} (h : (Instr.storeAt t u z).run P w = .ok () w') (ho : o.op = .store t x y) (hx : a.eval x = u) (hy : a.eval y = z) : (execOp a.eval o).run P w = .ok .skip w' := by simp [execOp, ho, hx, hy, h]
end

theorem fld71_0 (b : Nat) (w : World) : (Instr.fieldAt 71 (.pointer (some ⟨b, 0, none⟩)) 0).run Try.prog w = .ok (.pointer (some ⟨b, 0, none⟩)) w := by go_simp
theorem fld71_1 (b : Nat) (w : World) : (Instr.fieldAt 71 (.pointer (some ⟨b, 0, none⟩)) 1).run Try.prog w = .ok (.pointer (some ⟨b, 1, none⟩)) w := by go_simp
theorem ld35 {b j : Nat} {w : World} {v : Value} (h : w.cell? ⟨b, j, none⟩ = some v) : (Instr.loadAt 35 (.pointer (some ⟨b, j, none⟩))).run Try.prog w = .ok v w := by go_simp
theorem ld36 {b j : Nat} {w : World} {v : Value} (h : w.cell? ⟨b, j, none⟩ = some v) : (Instr.loadAt 36 (.pointer (some ⟨b, j, none⟩))).run Try.prog w = .ok v w := by go_simp
theorem ld32 {b j : Nat} {w : World} {v : Value} (h : w.cell? ⟨b, j, none⟩ = some v) : (Instr.loadAt 32 (.pointer (some ⟨b, j, none⟩))).run Try.prog w = .ok v w := by go_simp
theorem ld52 {b j : Nat} {w : World} {v0 v1 v2 v3 : Value} (h0 : w.cell? ⟨b, j, none⟩ = some v0) (h1 : w.cell? ⟨b, j + 1, none⟩ = some v1) (h2 : w.cell? ⟨b, j + 2, none⟩ = some v2) (h3 : w.cell? ⟨b, j + 3, none⟩ = some v3) :
    (Instr.loadAt 52 (.pointer (some ⟨b, j, none⟩))).run Try.prog w = .ok (.agg #[v0, v1, v2, v3]) w := by go_simp
theorem st35 {b j : Nat} {w : World} {u : Value} (x : Option Addr) (n c : Nat) (h : w.cell? ⟨b, j, none⟩ = some u) (hf : w.frozen? ⟨b, j, none⟩ = false) : (Instr.storeAt 35 (.pointer (some ⟨b, j, none⟩)) (.slice x n c)).run Try.prog w = .ok () (w.setCell ⟨b, j, none⟩ (.slice x n c)) := by go_simp
theorem st36 {b j : Nat} {w : World} {u : Value} (x : Option Addr) (n c : Nat) (h : w.cell? ⟨b, j, none⟩ = some u) (hf : w.frozen? ⟨b, j, none⟩ = false) : (Instr.storeAt 36 (.pointer (some ⟨b, j, none⟩)) (.slice x n c)).run Try.prog w = .ok () (w.setCell ⟨b, j, none⟩ (.slice x n c)) := by go_simp
theorem len35 (x : Option Addr) (n c : Nat) (ty : TypeId) (w : World) : (Builtin.len_ #[35] ty #[.slice x n c]).run Try.prog w = .ok (.int .i64 n) w := by go_simp
theorem len36 (x : Option Addr) (n c : Nat) (ty : TypeId) (w : World) : (Builtin.len_ #[36] ty #[.slice x n c]).run Try.prog w = .ok (.int .i64 n) w := by go_simp
theorem bs35 (v0 v1 v2 v3 : Value) (w : World) (h0 : v0.oneCell' = true) (h1 : v1.oneCell' = true) (h2 : v2.oneCell' = true) (h3 : v3.oneCell' = true) : (Instr.buildSlice 35 1 #[(0, .agg #[v0, v1, v2, v3])]).run Try.prog w = .ok (.slice (some ⟨w.heap.size, 0, none⟩) 1 1) (w.alloc (.cells #[v0, v1, v2, v3] 52)) := by go_simp
theorem bs36 (v0 : Option Addr) (w : World) : (Instr.buildSlice 36 1 #[(0, .pointer v0)]).run Try.prog w = .ok (.slice (some ⟨w.heap.size, 0, none⟩) 1 1) (w.alloc (.cells #[.pointer v0] 32)) := by go_simp

end Go.Proofs.Qxb6601706a
