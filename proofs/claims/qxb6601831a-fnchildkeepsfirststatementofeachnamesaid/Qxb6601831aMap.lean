import Derived.Test.Qxb6601831aBase
import Derived.Maps.Own
namespace Go.Proofs.Qxb6601831a
open Go.RowKit
set_option linter.unusedVariables false
set_option linter.unusedSimpArgs false

theorem ba_beq (a b : ByteArray) : (a == b) = decide (a = b) := by
  rw [Bool.eq_iff_iff, MapKept.bytes_beq]; simp

/-- the block that a table's entries lead to at a name -/
def lookIn (kvs : List (ByteArray × Nat)) (name : ByteArray) : Option Nat := (kvs.find? (fun kv => kv.1 == name)).map (·.2)

def entryOf (kv : ByteArray × Nat) : Value × Value := (.string kv.1, .pointer (some ⟨kv.2, 0, none⟩))

/-- block r is a table with just these entries -/
def MapIs (w : World) (r : Nat) (kvs : List (ByteArray × Nat)) : Prop :=
  ∃ es clock, w.heap[r]? = some (.map es clock) ∧ es.toList.map (fun e => (e.key, e.val)) = kvs.map entryOf

theorem findNow_kvs (name : ByteArray) : ∀ (es : List MapEntry) (kvs : List (ByteArray × Nat)) (i : Nat), es.map (fun e => (e.key, e.val)) = kvs.map entryOf →
    ∃ j, Instr.findNow .string (.string name) es i = some ((lookIn kvs name).map fun c => (j, .pointer (some ⟨c, 0, none⟩)))
  | [], [], i, _ => ⟨0, rfl⟩
  | [], _ :: _, i, h => by simp at h
  | _ :: _, [], i, h => by simp at h
  | e :: es, kv :: kvs, i, h => by
    simp only [List.map_cons, List.cons.injEq, entryOf, Prod.mk.injEq] at h
    obtain ⟨⟨hk, hv⟩, ht⟩ := h
    rw [Instr.findNow, hk]
    simp only [Instr.sameNow]
    by_cases hn : kv.1 = name
    · have h1 : (name == kv.1) = true := by rw [ba_beq]; simp [hn]
      have h2 : (kv.1 == name) = true := by rw [ba_beq]; simp [hn]
      refine ⟨i, ?_⟩
      rw [h1]
      simp [lookIn, List.find?_cons, h2, hv]
    · have h1 : (name == kv.1) = false := by rw [ba_beq]; simp; exact fun e => hn e.symm
      have h2 : (kv.1 == name) = false := by rw [ba_beq]; simp [hn]
      obtain ⟨j, hj⟩ := findNow_kvs name es kvs (i + 1) ht
      refine ⟨j, ?_⟩
      rw [h1]
      simp only [hj]
      simp [lookIn, List.find?_cons, h2]

theorem zero27 (w : World) : (zeroValue 27).run Try.prog w = .ok (.pointer none) w := by kernel_rfl

theorem run_look {w : World} {r : Nat} {kvs : List (ByteArray × Nat)} (name : ByteArray) (h : MapIs w r kvs) :
    (Instr.lookup 38 (.map (some r)) (.string name) true).run Try.prog w = .ok (.tuple #[.pointer ((lookIn kvs name).map fun c => ⟨c, 0, none⟩), .bool (lookIn kvs name).isSome]) w := by
  obtain ⟨es, clock, hb, he⟩ := h
  obtain ⟨j, hj⟩ := findNow_kvs name es.toList kvs 0 he
  have h1 := MapKept.run_findKey (P := Try.prog) (w := w) Try.underlying9 hj
  have hk : MapKept.IsKey .string (.string name) := by trivial
  cases hl : lookIn kvs name with
  | none =>
    rw [hl] at h1
    simp [Instr.lookup, run_underlying Try.underlying38, MapKept.run_getObj_map hb, MapKept.run_checkKey Try.underlying9 hk, h1, zero27, Result.andThen]
  | some c =>
    rw [hl] at h1
    simp [Instr.lookup, run_underlying Try.underlying38, MapKept.run_getObj_map hb, MapKept.run_checkKey Try.underlying9 hk, h1, zero27, Result.andThen]

theorem run_look_nil (w : World) (name : ByteArray) :
    (Instr.lookup 38 (.map none) (.string name) true).run Try.prog w = .ok (.tuple #[.pointer none, .bool false]) w := by
  have hk : MapKept.IsKey .string (.string name) := by trivial
  have h1 := MapKept.run_findKey (P := Try.prog) (w := w) (kt := 9) (k := .string name) (l := []) (a := none) Try.underlying9 rfl
  simp [Instr.lookup, run_underlying Try.underlying38, MapKept.run_checkKey Try.underlying9 hk, h1, zero27, Result.andThen]

theorem MapIs.len {w : World} {r : Nat} {kvs : List (ByteArray × Nat)} (h : MapIs w r kvs) : ∃ es clock, w.heap[r]? = some (.map es clock) ∧ es.size = kvs.length := by
  obtain ⟨es, clock, hb, he⟩ := h
  refine ⟨es, clock, hb, ?_⟩
  have := congrArg List.length he
  simpa using this

theorem MapIs.block {w w' : World} {r : Nat} {kvs : List (ByteArray × Nat)} (h : MapIs w r kvs) (e : w'.heap[r]? = w.heap[r]?) : MapIs w' r kvs := by
  obtain ⟨es, clock, hb, he⟩ := h
  exact ⟨es, clock, e.trans hb, he⟩

theorem MapIs.lt {w : World} {r : Nat} {kvs : List (ByteArray × Nat)} (h : MapIs w r kvs) : r < w.heap.size := by
  obtain ⟨es, clock, hb, he⟩ := h
  exact (Array.getElem?_eq_some_iff.1 hb).1

theorem MapIs.made (w : World) : MapIs (w.alloc (.map #[] 0)) w.heap.size [] := ⟨#[], 0, (MapKept.heap_alloc w _).1, rfl⟩

theorem MapIs.update {w : World} {r : Nat} {kvs : List (ByteArray × Nat)} (name : ByteArray) (c : Nat) (h : MapIs w r kvs) (hn : lookIn kvs name = none) :
    ∃ w', (Instr.mapUpdate 38 (.map (some r)) (.string name) (.pointer (some ⟨c, 0, none⟩))).run Try.prog w = .ok () w' ∧ MapIs w' r (kvs ++ [(name, c)]) ∧ w.grownBy w' (some r) := by
  obtain ⟨es, clock, hb, he⟩ := h
  obtain ⟨j, hj⟩ := findNow_kvs name es.toList kvs 0 he
  rw [hn] at hj
  have h1 := MapKept.run_findKey (P := Try.prog) (w := w) Try.underlying9 hj
  have hk : MapKept.IsKey .string (.string name) := by trivial
  have hlt := (Array.getElem?_eq_some_iff.1 hb).1
  refine ⟨{ w with heap := w.heap.setIfInBounds r (.map (es.push { key := .string name, val := .pointer (some ⟨c, 0, none⟩), born := clock }) (clock + 1)) }, ?_, ⟨es.push { key := .string name, val := .pointer (some ⟨c, 0, none⟩), born := clock }, clock + 1, by simp [hlt], ?_⟩, ⟨rfl, rfl, rfl, by simp, fun k hk1 hk2 => ?_⟩⟩
  · have h2 := MapKept.run_setObj_map (P := Try.prog) (w := w) (.map (es.push { key := .string name, val := .pointer (some ⟨c, 0, none⟩), born := clock }) (clock + 1)) hb
    simp [Instr.mapUpdate, run_underlying Try.underlying38, MapKept.run_getObj_map hb, MapKept.run_checkKey Try.underlying9 hk, h1, h2, Result.andThen]
  · simp [he, entryOf]
  · have : k ≠ r := fun e => hk2 (by rw [e])
    simp [Array.getElem?_setIfInBounds]
    intro h; exact absurd h.symm this

/-- a store of a new entry, at the operation -/
theorem wpList_upd (w : World) {ops : Array Oper} {rest : List Oper} {o : Oper} {a : Act} {Q : Exit → Act → World → Prop}
    (hg : o.guard = none) (m x v : Operand) (hop : o.op = Op.mapUpdate 38 m x v) (r : Nat) (kvs : List (ByteArray × Nat)) (name : ByteArray) (c : Nat)
    (hm : a.eval m = .map (some r)) (hx : a.eval x = .string name) (hv : a.eval v = .pointer (some ⟨c, 0, none⟩)) (h : MapIs w r kvs) (hn : lookIn kvs name = none)
    (hK : ∀ w', MapIs w' r (kvs ++ [(name, c)]) → w.grownBy w' (some r) → wpList Try.prog ops Q rest (a.put o.dst undef) w') :
    wpList Try.prog ops Q (o :: rest) a w := by
  refine wpList_plain hg fun K' hK' => ?_
  obtain ⟨w', hrun, r1, r2⟩ := h.update name c hn
  unfold Oper.wp
  simp [execOp, hop, hm, hx, hv, hrun, Result.andThen]
  exact hK' _ _ (hK w' r1 r2)

end Go.Proofs.Qxb6601831a
