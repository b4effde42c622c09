import Derived.Test.Qxb6601706aRows
import Derived.WalkKit
import Derived.ProofKit
import Derived.WalkSpells
import Derived.WalkLawsBesides
import Derived.Deep.OwnRows
import Derived.Deep.AppendLies
import Derived.Deep.QuietTactic
import Derived.Deep.LoopGhost
import Derived.Deep.RegionLaw
import Derived.BigQuiet
import Derived.RegionTactic
import Derived.BigRegion
import Derived.LaidEqlPtr
import Derived.Lib.Overlaps
import Derived.Lib.SliceRun
import Derived.Lib.AppendZerosOnto
import Derived.Laws.Externs
namespace Go.Proofs.Qxb6601706a
open Go.RowKit
set_option linter.unusedVariables false
set_option linter.unusedSimpArgs false

/-- copy of rows, whatever the size of an element -/
theorem run_copy_rowS (P : Program) (w : World) (dT sT ty elem : TypeId) (size : Nat) (g o dLen dCap : Nat) (a : Addr) (sLen sCap : Nat) (cur : Array Value) (t : TypeId) (cs : List Value)
    (hu : P.underlying dT = some (.slice elem)) (hs : (P.info? elem).map (·.size) = some size)
    (hg : w.heap[g]? = some (.cells cur t (0, 0))) (hn : cs.length = Nat.min sLen dLen * size)
    (hsrc : ∀ j v, cs[j]? = some v → w.cell? (a.add j) = some v) (hfit : o + cs.length ≤ cur.size) (h1 : ∀ v ∈ cs, v.oneCell' = true) :
    (Builtin.copy_ #[dT, sT] ty #[.slice (some ⟨g, o, none⟩) dLen dCap, .slice (some a) sLen sCap]).run P w =
      .ok (goInt (Nat.min sLen dLen)) (w.setRow g (cur.toList.take o ++ cs ++ cur.toList.drop (o + cs.length)).toArray) := by
  have hl := run_loadCells_list (P := P) w a cs hsrc
  have hst := run_storeCells_at P g o t cs 0 cur w hg (by simpa using hfit) h1
  cases hq : P.info? elem with
  | none => simp [hq] at hs
  | some i =>
    have hi : i.size = size := by simpa [hq] using hs
    simp [Builtin.copy_, run_underlying hu, Builtin.lenOf, Builtin.firstCells, sizeOf, typeInfo, hq, hi, ← hn, hl, hst]

theorem zeroCells_oneCell (z : Array Value) (hz : ∀ u ∈ z.toList, u.oneCell' = true) (n : Nat) : ∀ u ∈ (Builtin.zeroCells z n).toList, u.oneCell' = true := by
  intro u hu
  simp only [Builtin.zeroCells, Array.toList_map, List.mem_map] at hu
  obtain ⟨i, hi, rfl⟩ := hu
  have hlt : i < n * z.size := by simpa using hi
  have hpos : 0 < z.size := by
    rcases Nat.eq_zero_or_pos z.size with h | h
    · rw [h] at hlt; omega
    · exact h
  have hm : i % z.size < z.size := Nat.mod_lt _ hpos
  rw [getElem!_pos z _ hm]
  exact hz _ (by simp)

/-- clear of a row's run, whatever the size of an element -/
theorem run_clear_rowS (P : Program) (w : World) (t e ty : TypeId) (i0 : TypeInfo) (z : Value) (ht : P.underlying t = some (.slice e)) (hi : P.info? e = some i0) (hz : i0.zero = some z) (h1 : ∀ u ∈ z.cells.toList, u.oneCell' = true)
    (g o n c : Nat) (hn : 0 < n) (cur : Array Value) (te : TypeId) (hg : w.heap[g]? = some (.cells cur te (0, 0))) (hfit : o + n * z.cells.size ≤ cur.size) :
    (Builtin.clear_ #[t] ty #[.slice (some ⟨g, o, none⟩) n c]).run P w = .ok (.tuple #[]) (w.setRow g (cur.toList.take o ++ (Builtin.zeroCells z.cells n).toList ++ cur.toList.drop (o + n * z.cells.size)).toArray) := by
  have hl : (Builtin.zeroCells z.cells n).toList.length = n * z.cells.size := by rw [Array.length_toList, size_zeroCells]
  have hst := run_storeCells_at P g o te (Builtin.zeroCells z.cells n).toList 0 cur w hg (by rw [hl]; simpa using hfit) (zeroCells_oneCell _ h1 n)
  rw [hl] at hst
  simp only [Nat.add_zero] at hst
  obtain ⟨m, rfl⟩ : ∃ m, n = m + 1 := ⟨n - 1, by omega⟩
  simp [Builtin.clear_, run_underlying ht, zeroValue, typeInfo, hi, hz, hst]

theorem wp_copy_runI {P : Program} (w : World) {o : Oper} {a : Act} {K : Act → World → Prop} {Q : Exit → Act → World → Prop} (d s : Operand) (t t' : TypeId)
    (ho : o.op = .call { callee := .builtin .copy, args := #[d, s], argTypes := #[t, t'] }) (v u : Value) (hd : a.eval d = v) (hs : a.eval s = u) {v' : Value} {w' : World}
    (hr : (Builtin.copy_ #[t, t'] o.type #[v, u]).run P w = .ok v' w') (h : K (a.put o.dst v') w') : o.wp P a w K Q := by
  unfold Oper.wp execOp
  simp only [ho, resolve, invoke, builtin, Sem.run_bind, Sem.run_pure, Result.andThen_ok, List.map_toArray, List.map_cons, List.map_nil, hd, hs, hr]
  exact h

theorem wpList_copy_runI {P : Program} (w : World) {ops : Array Oper} {rest : List Oper} {o : Oper} {a : Act} {Q : Exit → Act → World → Prop} (hgd : o.guard = none) (d s : Operand) (t t' : TypeId)
    (ho : o.op = .call { callee := .builtin .copy, args := #[d, s], argTypes := #[t, t'] }) (v u : Value) (hd : a.eval d = v) (hs : a.eval s = u) {v' : Value} {w' : World}
    (hr : (Builtin.copy_ #[t, t'] o.type #[v, u]).run P w = .ok v' w') (h : wpList P ops Q rest (a.put o.dst v') w') : wpList P ops Q (o :: rest) a w :=
  wpList_plain hgd fun _ hK => wp_copy_runI w d s t t' ho v u hd hs hr (hK _ _ h)

theorem step_copy_runI {P : Program} {ops : Array Oper} {o : Oper} {a : Act} {w : World} {K : Act → World → Prop} {Q : Exit → Act → World → Prop} {E : Prop}
    (hg : o.guard = none) (d x : Operand) (dT sT : TypeId) (hop : o.op = Op.call { callee := Callee.builtin Builtin.copy, args := #[d, x], argTypes := #[dT, sT] })
    (v u : Value) (hd : a.eval d = v) (hx : a.eval x = u) {v' : Value} {w' : World} (hr : (Builtin.copy_ #[dT, sT] o.type #[v, u]).run P w = .ok v' w') (hK : K (a.put o.dst v') w') :
    if Region.wanted o (yielded ops a.tmps) = true then Oper.wp P o a w K Q else E := by
  have hw : Region.wanted o (yielded ops a.tmps) = true := by simp [Region.wanted, hg]
  rw [if_pos hw]
  unfold Oper.wp
  simp [execOp, hop, resolve, invoke, builtin, hd, hx, hr, Result.andThen]
  exact hK

theorem step_append_runI {P : Program} {ops : Array Oper} {o : Oper} {a : Act} {w : World} {K : Act → World → Prop} {Q : Exit → Act → World → Prop} {E : Prop}
    (hg : o.guard = none) (d x : Operand) (dT sT : TypeId) (hop : o.op = Op.call { callee := Callee.builtin Builtin.append, args := #[d, x], argTypes := #[dT, sT] })
    (v u : Value) (hd : a.eval d = v) (hx : a.eval x = u) {v' : Value} {w' : World} (hr : (Builtin.append_ #[dT, sT] o.type #[v, u]).run P w = .ok v' w') (hK : K (a.put o.dst v') w') :
    if Region.wanted o (yielded ops a.tmps) = true then Oper.wp P o a w K Q else E := by
  have hw : Region.wanted o (yielded ops a.tmps) = true := by simp [Region.wanted, hg]
  rw [if_pos hw]
  unfold Oper.wp
  simp [execOp, hop, resolve, invoke, builtin, hd, hx, hr, Result.andThen]
  exact hK

theorem wpList_append_runI {P : Program} (w : World) {ops : Array Oper} {rest : List Oper} {o : Oper} {a : Act} {Q : Exit → Act → World → Prop} (hgd : o.guard = none) (d s : Operand) (t t' : TypeId)
    (ho : o.op = .call { callee := .builtin .append, args := #[d, s], argTypes := #[t, t'] }) (v u : Value) (hd : a.eval d = v) (hs : a.eval s = u) {v' : Value} {w' : World}
    (hr : (Builtin.append_ #[t, t'] o.type #[v, u]).run P w = .ok v' w') (h : wpList P ops Q rest (a.put o.dst v') w') : wpList P ops Q (o :: rest) a w :=
  wpList_plain hgd fun _ hK => by
    unfold Oper.wp execOp
    simp only [ho, resolve, invoke, builtin, Sem.run_bind, Sem.run_pure, Result.andThen_ok, List.map_toArray, List.map_cons, List.map_nil, hd, hs, hr]
    exact hK _ _ h

theorem wpList_clear_runI {P : Program} (w : World) {ops : Array Oper} {rest : List Oper} {o : Oper} {a : Act} {Q : Exit → Act → World → Prop} (hgd : o.guard = none) (d : Operand) (t : TypeId)
    (ho : o.op = .call { callee := .builtin .clear, args := #[d], argTypes := #[t] }) (v : Value) (hd : a.eval d = v) {v' : Value} {w' : World}
    (hr : (Builtin.clear_ #[t] o.type #[v]).run P w = .ok v' w') (h : wpList P ops Q rest (a.put o.dst v') w') : wpList P ops Q (o :: rest) a w :=
  wpList_plain hgd fun _ hK => by
    unfold Oper.wp execOp
    simp only [ho, resolve, invoke, builtin, Sem.run_bind, Sem.run_pure, Result.andThen_ok, List.map_toArray, List.map_cons, List.map_nil, hd, hr]
    exact hK _ _ h

/-- what an Insert, a Delete or an append hands back -/
def RowSays (e size : Nat) (w : World) (v : Value) (n : Nat) (xs : List Value) (en : Ending) (w' : World) : Prop :=
  ∃ g cap, en = .returned (.slice (some ⟨g, 0, none⟩) n cap) ∧ w'.ownsRow 0 e size (.slice (some ⟨g, 0, none⟩) n cap) n xs ∧ w.grownBy w' v.ownBlock ∧ (v.ownBlock = some g ∨ w.heap.size ≤ g)

theorem cells_at {w : World} {g : Nat} {cur : Array Value} {e : TypeId} (h : w.heap[g]? = some (.cells cur e (0, 0))) (o : Nat) (cs : List Value) (hcs : ∀ j v, cs[j]? = some v → cur.toList[o + j]? = some v) :
    ∀ j v, cs[j]? = some v → w.cell? ((⟨g, o, none⟩ : Addr).add j) = some v := by
  intro j v hv
  rw [Addr.add_lit, cell_of_row w g _ cur e (0, 0) h]
  have := hcs j v hv
  simpa using this

theorem len_take_drop (l : List Value) (o : Nat) (cs : List Value) (h : o + cs.length ≤ l.length) : (l.take o ++ cs ++ l.drop (o + cs.length)).length = l.length := by
  simp only [List.length_append, List.length_take, List.length_drop]; omega

theorem grownBy_refl (w : World) (r : Option Nat) : w.grownBy w r := ⟨rfl, rfl, rfl, Nat.le_refl _, fun _ _ _ => rfl⟩
theorem grownBy_trans {a b c : World} {r : Option Nat} (h : a.grownBy b r) (k : b.grownBy c r) : a.grownBy c r :=
  ⟨k.os.trans h.os, k.tape.trans h.tape, k.output.trans h.output, Nat.le_trans h.size k.size, fun i hi hr => (k.block i (Nat.lt_of_lt_of_le hi h.size) hr).trans (h.block i hi hr)⟩
theorem grownBy_setRow (w : World) (g : Nat) (c : Array Value) : w.grownBy (w.setRow g c) (some g) :=
  ⟨rfl, rfl, rfl, by simp, fun k _ hk => setRow_other w g k _ (fun e => hk (by simp [e]))⟩
theorem grownBy_drew {a b : World} {r : Option Nat} (h : a.grownBy b r) : a.grownBy b.drew r := ⟨h.os, h.tape, h.output, h.size, h.block⟩

theorem Try.info52 : (Try.prog.info? 52).map (fun i => (i.zero, i.size, i.bytes)) = some (some (.agg #[.string ByteArray.empty, .slice none 0 0, .int .u64 0, .int .u64 0]), 4, 56) := by kernel_rfl
theorem Try.info32 : (Try.prog.info? 32).map (fun i => (i.zero, i.size, i.bytes)) = some (some (.pointer none), 1, 8) := by kernel_rfl
theorem Try.info57 : (Try.prog.info? 57).map (fun i => (i.zero, i.size, i.bytes)) = some (some (.agg #[.string ByteArray.empty, .slice none 0 0, .int .u64 0, .int .u64 0]), 4, 56) := by kernel_rfl

end Go.Proofs.Qxb6601706a
