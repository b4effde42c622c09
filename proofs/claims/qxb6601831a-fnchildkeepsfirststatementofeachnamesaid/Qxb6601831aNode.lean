import Derived.Test.Qxb6601831aMap
namespace Go.Proofs.Qxb6601831a
open Go.RowKit
set_option linter.unusedVariables false
set_option linter.unusedSimpArgs false

/-- the seven cells of a node -/
def nodeCells (p : Option Addr) (nm : ByteArray) (off kd : Int) (mp : Option Nat) : Nat → Value
  | 0 => .pointer p
  | 1 => .string nm
  | 2 => .int .i64 0
  | 3 => .int .i64 off
  | 4 => .int .i64 kd
  | 5 => .map mp
  | _ => .slice none 0 0

/-- the table of a node: nil and empty, or a block of its own -/
def Table (w : World) (mp : Option Nat) (kids : List (ByteArray × Nat)) : Prop :=
  match mp with
  | none => kids = []
  | some r => MapIs w r kids

structure NodeIs (w : World) (b : Nat) (p : Option Addr) (nm : ByteArray) (off kd : Int) (mp : Option Nat) (kids : List (ByteArray × Nat)) : Prop where
  row : w.rowIs b 40 7 (nodeCells p nm off kd mp)
  table : Table w mp kids

section
variable {w : World} {b : Nat} {p : Option Addr} {nm : ByteArray} {off kd : Int} {mp : Option Nat} {kids : List (ByteArray × Nat)}
theorem NodeIs.c0 (h : NodeIs w b p nm off kd mp kids) : w.cell? ⟨b, 0, none⟩ = some (.pointer p) := h.row.cell (by omega)
theorem NodeIs.c1 (h : NodeIs w b p nm off kd mp kids) : w.cell? ⟨b, 1, none⟩ = some (.string nm) := h.row.cell (by omega)
theorem NodeIs.c2 (h : NodeIs w b p nm off kd mp kids) : w.cell? ⟨b, 2, none⟩ = some (.int .i64 0) := h.row.cell (by omega)
theorem NodeIs.c3 (h : NodeIs w b p nm off kd mp kids) : w.cell? ⟨b, 3, none⟩ = some (.int .i64 off) := h.row.cell (by omega)
theorem NodeIs.c4 (h : NodeIs w b p nm off kd mp kids) : w.cell? ⟨b, 4, none⟩ = some (.int .i64 kd) := h.row.cell (by omega)
theorem NodeIs.c5 (h : NodeIs w b p nm off kd mp kids) : w.cell? ⟨b, 5, none⟩ = some (.map mp) := h.row.cell (by omega)
theorem NodeIs.c6 (h : NodeIs w b p nm off kd mp kids) : w.cell? ⟨b, 6, none⟩ = some (.slice none 0 0) := h.row.cell (by omega)
theorem NodeIs.block {w' : World} (h : NodeIs w b p nm off kd mp kids) (e : w'.heap[b]? = w.heap[b]?) (em : ∀ r, mp = some r → w'.heap[r]? = w.heap[r]?) : NodeIs w' b p nm off kd mp kids := by
  refine ⟨h.row.of_block e, ?_⟩
  have ht := h.table
  cases mp with
  | none => exact ht
  | some r => exact MapIs.block ht (em r rfl)
theorem NodeIs.lt (h : NodeIs w b p nm off kd mp kids) : b < w.heap.size := h.row.lt
theorem NodeIs.mlt (h : NodeIs w b p nm off kd mp kids) {r : Nat} (e : mp = some r) : r < w.heap.size := by
  have ht := h.table
  subst e
  exact MapIs.lt ht
theorem NodeIs.ne (h : NodeIs w b p nm off kd mp kids) {b' : Nat} {p' : Option Addr} {nm' : ByteArray} {off' kd' : Int} {mp' : Option Nat} {kids' : List (ByteArray × Nat)} (h' : NodeIs w b' p' nm' off' kd' mp' kids') {r : Nat} (e : mp = some r) : r ≠ b' := by
  have ht := h.table
  subst e
  obtain ⟨es, clock, hb, _⟩ := ht
  obtain ⟨c, hc, _⟩ := h'.row
  rintro rfl
  rw [hb] at hc
  cases hc
theorem NodeIs.look (h : NodeIs w b p nm off kd mp kids) (name : ByteArray) :
    (Instr.lookup 38 (.map mp) (.string name) true).run Try.prog w = .ok (.tuple #[.pointer ((lookIn kids name).map fun c => ⟨c, 0, none⟩), .bool (lookIn kids name).isSome]) w := by
  have ht := h.table
  cases mp with
  | none =>
    have hk : kids = [] := ht
    subst hk
    exact run_look_nil w name
  | some r => exact run_look name ht
end

def Says (w : World) (v : Value) (e : Ending) (w' : World) : Prop := e = .returned v ∧ w' = w

set_option maxHeartbeats 400000 in
theorem name8 {w : World} {b : Nat} {p : Option Addr} {nm : ByteArray} {off kd : Int} {mp : Option Nat} {kids : List (ByteArray × Nat)} (h : NodeIs w b p nm off kd mp kids) :
    Calls Try.prog 8 #[.pointer (some ⟨b, 0, none⟩)] w fun e w' => Says w (.string nm) e w' := by
  have hc := h.c1
  clear h
  go_enter Try.func8, Try.ntmps8
  go_wp2
  go_ret
  exact ⟨rfl, rfl⟩

set_option maxHeartbeats 400000 in
theorem kind9 {w : World} {b : Nat} {p : Option Addr} {nm : ByteArray} {off kd : Int} {mp : Option Nat} {kids : List (ByteArray × Nat)} (h : NodeIs w b p nm off kd mp kids) :
    Calls Try.prog 9 #[.pointer (some ⟨b, 0, none⟩)] w fun e w' => Says w (.int .i64 kd) e w' := by
  have hc := h.c4
  clear h
  go_enter Try.func9, Try.ntmps9
  go_wp2
  go_ret
  exact ⟨rfl, rfl⟩

set_option maxHeartbeats 400000 in
theorem offset10 {w : World} {b : Nat} {p : Option Addr} {nm : ByteArray} {off kd : Int} {mp : Option Nat} {kids : List (ByteArray × Nat)} (h : NodeIs w b p nm off kd mp kids) :
    Calls Try.prog 10 #[.pointer (some ⟨b, 0, none⟩)] w fun e w' => Says w (.int .i64 off) e w' := by
  have hc := h.c3
  clear h
  go_enter Try.func10, Try.ntmps10
  go_wp2
  go_ret
  exact ⟨rfl, rfl⟩

set_option maxHeartbeats 400000 in
theorem index11 {w : World} {b : Nat} {p : Option Addr} {nm : ByteArray} {off kd : Int} {mp : Option Nat} {kids : List (ByteArray × Nat)} (h : NodeIs w b p nm off kd mp kids) :
    Calls Try.prog 11 #[.pointer (some ⟨b, 0, none⟩)] w fun e w' => Says w (.int .i64 0) e w' := by
  have hc := h.c2
  clear h
  go_enter Try.func11, Try.ntmps11
  go_wp2
  go_ret
  exact ⟨rfl, rfl⟩

set_option maxHeartbeats 400000 in
theorem elems12 {w : World} {b : Nat} {p : Option Addr} {nm : ByteArray} {off kd : Int} {mp : Option Nat} {kids : List (ByteArray × Nat)} (h : NodeIs w b p nm off kd mp kids) :
    Calls Try.prog 12 #[.pointer (some ⟨b, 0, none⟩)] w fun e w' => Says w (.int .i64 0) e w' := by
  have hc := h.c6
  clear h
  go_enter Try.func12, Try.ntmps12
  go_wp2
  go_ret
  exact ⟨rfl, rfl⟩

set_option maxHeartbeats 400000 in
theorem parent13 {w : World} {b : Nat} {p : Option Addr} {nm : ByteArray} {off kd : Int} {mp : Option Nat} {kids : List (ByteArray × Nat)} (h : NodeIs w b p nm off kd mp kids) :
    Calls Try.prog 13 #[.pointer (some ⟨b, 0, none⟩)] w fun e w' => Says w (.pointer p) e w' := by
  have hc := h.c0
  clear h
  go_enter Try.func13, Try.ntmps13
  go_wp2
  go_ret
  exact ⟨rfl, rfl⟩

set_option maxHeartbeats 400000 in
theorem at14 {w : World} {b : Nat} {p : Option Addr} {nm : ByteArray} {off kd : Int} {mp : Option Nat} {kids : List (ByteArray × Nat)} (h : NodeIs w b p nm off kd mp kids) (name : ByteArray) :
    Calls Try.prog 14 #[.pointer (some ⟨b, 0, none⟩), .string name] w fun e w' => Says w (.tuple #[.pointer ((lookIn kids name).map fun c => ⟨c, 0, none⟩), .bool (lookIn kids name).isSome]) e w' := by
  have hc := h.c5
  have hl := h.look name
  clear h
  generalize ((lookIn kids name).map fun c => (⟨c, 0, none⟩ : Addr)) = q at hl ⊢
  generalize (lookIn kids name).isSome = ok at hl ⊢
  go_enter Try.func14, Try.ntmps14
  go_wp2
  go_ret2
  exact ⟨rfl, rfl⟩

set_option maxHeartbeats 400000 in
theorem count15 {w : World} {b : Nat} {p : Option Addr} {nm : ByteArray} {off kd : Int} {mp : Option Nat} {kids : List (ByteArray × Nat)} (h : NodeIs w b p nm off kd mp kids) :
    Calls Try.prog 15 #[.pointer (some ⟨b, 0, none⟩)] w fun e w' => Says w (.int .i64 kids.length) e w' := by
  have hc := h.c5
  have ht := h.table
  clear h
  cases mp with
  | none =>
    have hk : kids = [] := ht
    subst hk
    go_enter Try.func15, Try.ntmps15
    go_wp2
    go_ret
    exact ⟨rfl, rfl⟩
  | some r =>
    obtain ⟨es, clock, hb, hsz⟩ := MapIs.len ht
    have HS : Hid (es.size = kids.length) := hsz
    have hlen : ∀ ty, (Builtin.len_ #[38] ty #[.map (some r)]).run Try.prog w = .ok (.int .i64 es.size) w := by
      intro ty
      simp [Builtin.len_, run_underlying Try.underlying38, MapKept.run_getObj_map hb, goInt]
    clear ht hsz
    go_enter Try.func15, Try.ntmps15
    go_wp2
    go_ret
    exact ⟨by rw [← HS.out]; rfl, rfl⟩

set_option maxHeartbeats 400000 in
/-- ZZRoot -/
theorem root6 (w : World) : Calls Try.prog 6 #[] w fun e w' => e = .returned (.pointer (some ⟨w.heap.size, 0, none⟩)) ∧ w' = w.alloc (.cells #[.pointer none, .string ByteArray.empty, .int .i64 0, .int .i64 0, .int .i64 1, .map none, .slice none 0 0] 40) := by
  go_enter Try.func6, Try.ntmps6
  go_wp2
  go_ret
  exact ⟨rfl, rfl⟩

end Go.Proofs.Qxb6601831a
