import Derived.Test.Qxb6601831aNode
namespace Go.Proofs.Qxb6601831a
open Go.RowKit
set_option linter.unusedVariables false
set_option linter.unusedSimpArgs false

set_option maxHeartbeats 400000 in
/-- (*node).child of a name that is there -/
theorem child16_old {w : World} {b : Nat} {p : Option Addr} {nm : ByteArray} {off kd : Int} {mp : Option Nat} {kids : List (ByteArray × Nat)} (h : NodeIs w b p nm off kd mp kids) (name : ByteArray) (k o : Int) (c : Nat) (hc : lookIn kids name = some c) :
    Calls Try.prog 16 #[.pointer (some ⟨b, 0, none⟩), .string name, .int .i64 k, .int .i64 o] w fun e w' => Says w (.pointer (some ⟨c, 0, none⟩)) e w' := by
  have hc5 := h.c5
  have hl := h.look name
  rw [hc] at hl
  simp only [Option.map_some, Option.isSome_some] at hl
  clear h hc
  go_enter Try.func16, Try.ntmps16
  go_wp2
  go_ret
  exact ⟨rfl, rfl⟩

/-- what child leaves of a new name: the new node's block c, the table's block r, all else as it was -/
def NewSays (w : World) (b : Nat) (p : Option Addr) (nm : ByteArray) (off kd : Int) (mp : Option Nat) (kids : List (ByteArray × Nat)) (name : ByteArray) (k o : Int) (e : Ending) (w' : World) : Prop :=
  ∃ c r, e = .returned (.pointer (some ⟨c, 0, none⟩)) ∧ w.heap.size ≤ c ∧ NodeIs w' c (some ⟨b, 0, none⟩) name o k none [] ∧ NodeIs w' b p nm off kd (some r) (kids ++ [(name, c)]) ∧ (mp = some r ∨ w.heap.size ≤ r) ∧
    w'.os = w.os ∧ w'.tape = w.tape ∧ w'.output = w.output ∧ w.heap.size ≤ w'.heap.size ∧ ∀ i, i < w.heap.size → i ≠ b → mp ≠ some i → w'.heap[i]? = w.heap[i]?

theorem node_alloc (w : World) (p : Option Addr) (nm : ByteArray) (off kd : Int) : (w.alloc (.cells #[.pointer p, .string nm, .int .i64 0, .int .i64 off, .int .i64 kd, .map none, .slice none 0 0] 40)).rowIs w.heap.size 40 7 (nodeCells p nm off kd none) := by
  refine ⟨_, Go.Deep.blk_alloc_new w _, rfl, fun i hi => ?_⟩
  match i, hi with
  | 0, _ => rfl
  | 1, _ => rfl
  | 2, _ => rfl
  | 3, _ => rfl
  | 4, _ => rfl
  | 5, _ => rfl
  | 6, _ => rfl

theorem nodeCells_set (p : Option Addr) (nm : ByteArray) (off kd : Int) (mp : Option Nat) (r : Nat) (i : Nat) : (if i = 5 then Value.map (some r) else nodeCells p nm off kd mp i) = nodeCells p nm off kd (some r) i := by
  match i with
  | 0 => rfl
  | 1 => rfl
  | 2 => rfl
  | 3 => rfl
  | 4 => rfl
  | 5 => rfl
  | _ + 6 => rfl

theorem map_new (w0 : World) (o : Obj) (s : Nat) (h : w0.heap.size = s) : MapIs ((w0.alloc o).alloc (.map #[] 0)) (s + 1) [] := by
  subst h
  refine ⟨#[], 0, ?_, rfl⟩
  rw [← Go.Deep.nblk_alloc w0 o]
  exact Go.Deep.blk_alloc_new _ _

theorem new_some {w w2 : World} {b r : Nat} {p : Option Addr} {nm : ByteArray} {off kd : Int} {kids : List (ByteArray × Nat)} (h : NodeIs w b p nm off kd (some r) kids) (name : ByteArray) (k o : Int)
    (hm : MapIs w2 r (kids ++ [(name, w.heap.size)])) (hg : (w.alloc (.cells #[.pointer (some ⟨b, 0, none⟩), .string name, .int .i64 0, .int .i64 o, .int .i64 k, .map none, .slice none 0 0] 40)).grownBy w2 (some r)) :
    NewSays w b p nm off kd (some r) kids name k o (.returned (.pointer (some ⟨w.heap.size, 0, none⟩))) w2 := by
  have hrb : r ≠ b := h.ne h rfl
  have hrlt : r < w.heap.size := h.mlt rfl
  have hblt := h.lt
  have hN := node_alloc w (some ⟨b, 0, none⟩) name o k
  have hsz : (w.alloc (.cells #[.pointer (some ⟨b, 0, none⟩), .string name, .int .i64 0, .int .i64 o, .int .i64 k, .map none, .slice none 0 0] 40)).heap.size = w.heap.size + 1 := Go.Deep.nblk_alloc w _
  refine ⟨w.heap.size, r, rfl, Nat.le_refl _, ⟨hN.of_block (hg.block _ (by omega) (by simp; omega)), rfl⟩, ⟨(h.row.alloc _).of_block (hg.block _ (by omega) (by simp; omega)), hm⟩, .inl rfl, hg.os, hg.tape, hg.output, ?_, fun i hi hib him => ?_⟩
  · have := hg.size; omega
  · rw [hg.block i (by omega) (by simp; intro e; exact him (by rw [e])), Go.Deep.blk_alloc_lt _ _ _ hi]

theorem new_none {w w2 : World} {b : Nat} {p : Option Addr} {nm : ByteArray} {off kd : Int} (h : NodeIs w b p nm off kd none []) (name : ByteArray) (k o : Int)
    (hm : MapIs w2 (w.heap.size + 1) ([] ++ [(name, w.heap.size)])) (hg : (((w.setCell ⟨b, 5, none⟩ (.map (some (w.heap.size + 1)))).alloc (.cells #[.pointer (some ⟨b, 0, none⟩), .string name, .int .i64 0, .int .i64 o, .int .i64 k, .map none, .slice none 0 0] 40)).alloc (.map #[] 0)).grownBy w2 (some (w.heap.size + 1))) :
    NewSays w b p nm off kd none [] name k o (.returned (.pointer (some ⟨w.heap.size, 0, none⟩))) w2 := by
  have hblt := h.lt
  have hs0 : (w.setCell ⟨b, 5, none⟩ (.map (some (w.heap.size + 1)))).heap.size = w.heap.size := Go.Deep.nblk_setCell w _ _
  have hN := node_alloc (w.setCell ⟨b, 5, none⟩ (.map (some (w.heap.size + 1)))) (some ⟨b, 0, none⟩) name o k
  rw [hs0] at hN
  have hB : (w.setCell ⟨b, 5, none⟩ (.map (some (w.heap.size + 1)))).rowIs b 40 7 (nodeCells p nm off kd (some (w.heap.size + 1))) := (h.row.set 5 _).congr (fun i _ => nodeCells_set p nm off kd none _ i)
  have hother : ∀ i, i ≠ b → (w.setCell ⟨b, 5, none⟩ (.map (some (w.heap.size + 1)))).heap[i]? = w.heap[i]? := fun i hi => Go.Deep.blk_setCell_other w ⟨b, 5, none⟩ _ i hi
  have hos : (w.setCell ⟨b, 5, none⟩ (.map (some (w.heap.size + 1)))).os = w.os := rfl
  have htp : (w.setCell ⟨b, 5, none⟩ (.map (some (w.heap.size + 1)))).tape = w.tape := rfl
  have hou : (w.setCell ⟨b, 5, none⟩ (.map (some (w.heap.size + 1)))).output = w.output := rfl
  generalize w.setCell ⟨b, 5, none⟩ (.map (some (w.heap.size + 1))) = w0 at *
  have hsz : ((w0.alloc (.cells #[.pointer (some ⟨b, 0, none⟩), .string name, .int .i64 0, .int .i64 o, .int .i64 k, .map none, .slice none 0 0] 40)).alloc (.map #[] 0)).heap.size = w.heap.size + 2 := by
    rw [Go.Deep.nblk_alloc, Go.Deep.nblk_alloc, hs0]
  refine ⟨w.heap.size, w.heap.size + 1, rfl, Nat.le_refl _, ⟨(hN.alloc _).of_block (hg.block _ (by omega) (by simp)), rfl⟩, ⟨((hB.alloc _).alloc _).of_block (hg.block _ (by omega) (by simp; omega)), hm⟩, .inr (Nat.le_succ _), hg.os.trans hos, hg.tape.trans htp, hg.output.trans hou, ?_, fun i hi hib him => ?_⟩
  · have := hg.size; omega
  · rw [hg.block i (by omega) (by simp; omega), Go.Deep.blk_alloc_lt _ _ _ (by rw [Go.Deep.nblk_alloc]; omega), Go.Deep.blk_alloc_lt _ _ _ (by omega), hother i hib]

set_option maxHeartbeats 1000000 in
/-- .. of a new name -/
theorem child16_new {w : World} {b : Nat} {p : Option Addr} {nm : ByteArray} {off kd : Int} {mp : Option Nat} {kids : List (ByteArray × Nat)} (h : NodeIs w b p nm off kd mp kids) (name : ByteArray) (k o : Int) (hc : lookIn kids name = none) :
    Calls Try.prog 16 #[.pointer (some ⟨b, 0, none⟩), .string name, .int .i64 k, .int .i64 o] w fun e w' => NewSays w b p nm off kd mp kids name k o e w' := by
  have hc5 := h.c5
  have hfz := h.row.frozen 5
  have hblt := h.lt
  have hl := h.look name
  rw [hc] at hl
  simp only [Option.map_none, Option.isSome_none] at hl
  have H : Hid (NodeIs w b p nm off kd mp kids) := h
  have HN : Hid (lookIn kids name = none) := hc
  have heq : ∀ (w : World) (r : Option Nat), (binOp .eql 38 (.map r) (.map none)).run Try.prog w = .ok (.bool r.isNone) w := fun w r => run_eql_map_nil w _ _ _ r Try.underlying38
  clear h hc
  cases mp with
  | none =>
    have hmm := @run_makeMap Try.prog
    have hk : kids = [] := H.out.table
    subst hk
    go_enter Try.func16, Try.ntmps16
    go_wp2_with (at_mapUpdate; refine wpList_upd _ rfl _ _ _ rfl (w.heap.size + 1) [] name w.heap.size rfl rfl rfl ?hm HN.out ?_)
    case hm => exact map_new _ _ _ (Go.Deep.nblk_setCell w _ _)
    intro w2 hm2 hg2
    have HF : Hid (NewSays w b p nm off kd none [] name k o (.returned (.pointer (some ⟨w.heap.size, 0, none⟩))) w2) := new_none H.out name k o hm2 hg2
    clear hm2 hg2
    go_wp2
    go_ret
    exact HF.out
  | some r =>
    have hmap : MapIs w r kids := H.out.table
    have HM : Hid (MapIs w r kids) := hmap
    clear hmap
    go_enter Try.func16, Try.ntmps16
    go_wp2_with (at_mapUpdate; refine wpList_upd _ rfl _ _ _ rfl r kids name w.heap.size rfl rfl rfl ?hm HN.out ?_)
    case hm => exact HM.out.block (Go.Deep.blk_alloc_lt _ _ _ HM.out.lt)
    intro w2 hm2 hg2
    have HF : Hid (NewSays w b p nm off kd (some r) kids name k o (.returned (.pointer (some ⟨w.heap.size, 0, none⟩))) w2) := new_some H.out name k o hm2 hg2
    clear hm2 hg2
    go_wp2
    go_ret
    exact HF.out

set_option maxHeartbeats 400000 in
/-- ZZChild -/
theorem zz7_old {w : World} {b : Nat} {p : Option Addr} {nm : ByteArray} {off kd : Int} {mp : Option Nat} {kids : List (ByteArray × Nat)} (h : NodeIs w b p nm off kd mp kids) (name : ByteArray) (k o : Int) (c : Nat) (hc : lookIn kids name = some c) :
    Calls Try.prog 7 #[.pointer (some ⟨b, 0, none⟩), .string name, .int .i64 k, .int .i64 o] w fun e w' => Says w (.pointer (some ⟨c, 0, none⟩)) e w' := by
  go_enter Try.func7, Try.ntmps7
  go_wp2_with fail
  refine (child16_old h name k o c hc).mono ?_
  rintro e w' ⟨rfl, rfl⟩
  go_wp2_with fail
  go_ret
  exact ⟨rfl, rfl⟩

set_option maxHeartbeats 400000 in
theorem zz7_new {w : World} {b : Nat} {p : Option Addr} {nm : ByteArray} {off kd : Int} {mp : Option Nat} {kids : List (ByteArray × Nat)} (h : NodeIs w b p nm off kd mp kids) (name : ByteArray) (k o : Int) (hc : lookIn kids name = none) :
    Calls Try.prog 7 #[.pointer (some ⟨b, 0, none⟩), .string name, .int .i64 k, .int .i64 o] w fun e w' => NewSays w b p nm off kd mp kids name k o e w' := by
  go_enter Try.func7, Try.ntmps7
  go_wp2_with fail
  refine (child16_new h name k o hc).mono ?_
  rintro e w' ⟨c, r, rfl, hrest⟩
  have HR : Hid _ := hrest
  clear hrest
  go_wp2_with fail
  go_ret
  exact ⟨c, r, rfl, HR.out⟩

end Go.Proofs.Qxb6601831a
