import Derived.Test.Qxb6601916aBase
namespace Go.Proofs.Qxb6601916a
open Go.RowKit
set_option linter.unusedVariables false
set_option linter.unusedSimpArgs false

def SumSays (w : World) (n : Nat) (e : Ending) (w' : World) : Prop := ∃ m : Int, e = .returned (.int .i64 m) ∧ w' = w ∧ 0 ≤ m ∧ m ≤ 1048577 ∧ (m ≤ 1048576 → 24 * n ≤ 1048576)

set_option maxHeartbeats 1000000 in
/-- zzEntryBytesB1 -/
theorem sum6_any (a : Option Addr) (n cap : Nat) (nm : Nat → ByteArray) (pt : Nat → Option Addr) (w : World) (hr : Ents w a n cap nm pt) (hh : Held w n pt) :
    Calls Try.prog 6 #[.slice a n cap] w fun e w' => SumSays w n e w' := by
  have hl := hr.lenLe
  have hm := hr.capLe
  unfold maxLen at hm
  have hcs := hr.cells
  have hz := sizes hr
  have hd := helds hh
  clear hr hh
  go_enter Try.func6, Try.ntmps6
  go_wp2
  · go_ret
    exact ⟨_, rfl, rfl, by omega, by omega, by omega⟩
  · go_loop [3, 4] (fun z i => ∃ (k : Nat) (m : Int), k ≤ n ∧ i = .int .i64 k ∧ z = .int .i64 m ∧ 24 * n ≤ m ∧ m ≤ 2097152 ∧ Hid (m ≤ 1048576 ∨ (k = 0 ∧ m = 24 * n))) (fun _ i => n - (intOf i).toNat)
    case atStart => exact ⟨0, 24 * n, Nat.zero_le _, rfl, rfl, by omega, by omega, .inr ⟨rfl, rfl⟩⟩
    case round =>
      obtain ⟨k, m, hk, rfl, rfl, h0, h1, HD⟩ := hrel
      by_cases hlt : k < n
      · obtain ⟨b, off, rfl, hbw, hc1, hc2⟩ := hcs k hlt
        have hsz := hz k hlt
        have hdk := hd k
        clear hcs hz hd
        generalize nm k = s at hc1 hsz
        generalize pt k = p at hc2 hdk
        cases p with
        | none =>
          clear hdk
          go_wp2
          · go_ret
            exact ⟨_, rfl, rfl, by omega, by omega, by omega⟩
          · go_ret
            exact ⟨_, rfl, rfl, by omega, by omega, by omega⟩
          · go_round
            case rel => exact ⟨k + 1, m + s.size, by omega, by go_num, by go_num, by omega, by omega, .inl (by omega)⟩
            case measure => simp [intOf]; omega
        | some p =>
          obtain ⟨v, hv, hvs⟩ := hdk p hlt rfl
          clear hdk
          go_wp2
          · go_ret
            exact ⟨_, rfl, rfl, by omega, by omega, by omega⟩
          · go_ret
            exact ⟨_, rfl, rfl, by omega, by omega, by omega⟩
          · go_ret
            exact ⟨_, rfl, rfl, by omega, by omega, by omega⟩
          · go_round
            case rel => exact ⟨k + 1, m + s.size + v.size, by omega, by go_num, by go_num, by omega, by omega, .inl (by omega)⟩
            case measure => simp [intOf]; omega
      · clear hcs hz hd
        have h2 : m ≤ 1048577 := by
          rcases HD.out with h | h
          · omega
          · omega
        go_wp2
        go_ret
        exact ⟨_, rfl, rfl, by omega, h2, by omega⟩

/-- what the cells of the copy hold behind k rounds -/
def ent (k : Nat) (nm : Nat → ByteArray) (pt : Nat → Option Addr) (i : Nat) : Value :=
  if i / 2 < k then (if i % 2 = 0 then .string (nm (i / 2)) else .pointer (pt (i / 2))) else (if i % 2 = 0 then .string ByteArray.empty else .pointer none)

theorem rowIs_of_owns {w : World} {base e size g n : Nat} {xs : List Value} (h : w.ownsRow base e size (.slice (some ⟨g, 0, none⟩) n n) n xs) : w.rowIs g e (n * size) (fun i => xs.getD i default) := by
  obtain ⟨hl, h⟩ := h
  rcases h with ⟨h, _⟩ | ⟨g', cap, cur, hv, _, hh, _, _, hsz, hx⟩
  · simp at h
  · simp at hv
    obtain ⟨rfl, rfl⟩ := hv
    refine ⟨cur, hh, hsz, fun i hi => ?_⟩
    have hx' : cur.toList = xs := by rw [← hx, List.take_of_length_le (by simp; omega)]
    subst hx'
    simp [List.getD, hsz, hi]

theorem made_ent (n : Nat) (nm : Nat → ByteArray) (pt : Nat → Option Addr) (i : Nat) (h : i < n * 2) : (madeCells (Value.agg #[.string ByteArray.empty, .pointer none]).cells (n * 2)).toList.getD i default = ent 0 nm pt i := by
  have hz : (Value.agg #[.string ByteArray.empty, .pointer none]).cells = #[.string ByteArray.empty, .pointer none] := by rfl
  rw [hz]
  rw [List.getD_eq_getElem?_getD]
  simp only [madeCells, Array.getElem?_toList, Array.getElem?_map, Array.getElem?_range, h, if_true, Option.map_some, Option.getD_some, ent, Nat.not_lt_zero, if_false]
  have : i % 2 = 0 ∨ i % 2 = 1 := by omega
  rcases this with h | h <;> simp [h]

theorem ent_step (k n : Nat) (hk : k < n) (nm : Nat → ByteArray) (pt : Nat → Option Addr) (i : Nat) :
    (if i = k * 2 then Value.string (nm k) else ent k nm pt i) = ent (k + 1) nm (fun j => if j = k then none else pt j) i := by
  unfold ent
  dsimp only
  repeat' split
  all_goals first | rfl | omega | (have e : i / 2 = k := by omega
                                   simp [e]
                                   done)

theorem ent_step2 (k n : Nat) (hk : k < n) (nm : Nat → ByteArray) (pt : Nat → Option Addr) (q : Addr) (i : Nat) :
    (if i = k * 2 + 1 then Value.pointer (some q) else if i = k * 2 then Value.string (nm k) else ent k nm pt i) = ent (k + 1) nm (fun j => if j = k then some q else pt j) i := by
  unfold ent
  dsimp only
  repeat' split
  all_goals first | rfl | omega | (have e : i / 2 = k := by omega
                                   simp [e]
                                   done)

theorem Ents.ofRow {w : World} {g n : Nat} {nm : Nat → ByteArray} {pt : Nat → Option Addr} (h : w.rowIs g 33 (n * 2) (ent n nm pt)) (hn : n ≤ maxLen) (hsm : ∀ i, i < n → (nm i).size ≤ maxLen) : Ents w (some ⟨g, 0, none⟩) n n nm pt := by
  refine ⟨Nat.le_refl _, hn, by simp, hsm, fun i hi => ⟨g, 0, rfl, h.lt, ?_, ?_⟩⟩
  · rw [Nat.zero_add, h.cell (by omega)]
    unfold ent
    rw [if_pos (by omega), if_pos (by omega), show i * 2 / 2 = i from by omega]
  · rw [Nat.zero_add, h.cell (by omega)]
    unfold ent
    rw [if_pos (by omega), if_neg (by omega), show (i * 2 + 1) / 2 = i from by omega]

theorem Try.info33 : (Try.prog.info? 33).map (fun i => (i.zero, i.size, i.bytes)) = some (some (.agg #[.string ByteArray.empty, .pointer none]), 2, 24) := by kernel_rfl

def CopySays (w : World) (n : Nat) (nm : Nat → ByteArray) (e : Ending) (w' : World) : Prop :=
  ∃ a cap pt, e = .returned (.slice a n cap) ∧ Ents w' a n cap nm pt ∧ Below w.heap.size w w'

set_option maxHeartbeats 1000000 in
/-- zzCopyEntriesB1 -/
theorem copy7_any (a : Option Addr) (n cap : Nat) (nm : Nat → ByteArray) (pt : Nat → Option Addr) (w : World) (hr : Ents w a n cap nm pt) (hh : Held w n pt) (hn : 24 * n ≤ 1048576) :
    Calls Try.prog 7 #[.slice a n cap] w fun e w' => CopySays w n nm e w' := by
  have hcs := hr.cells
  have hd := helds hh
  have hl := hr.lenLe
  have HSM : Hid (∀ i, i < n → (nm i).size ≤ maxLen) := hr.small
  obtain ⟨i0, hi, hz0, hz1, hz2⟩ := info_parts Try.info33
  cases a with
  | none =>
    have hc0 := hr.nil rfl
    have hn0 : n = 0 := by omega
    subst hc0 hn0
    have hnil0 := fun w => Lib.run_eql_slice_nil (P := Try.prog) w 22 33 none 0 0 0 0 Try.underlying22
    clear hcs hd
    go_enter Try.func7, Try.ntmps7
    go_wp2
    go_ret
    exact ⟨none, 0, pt, rfl, hr, Below.refl _ _⟩
  | some x =>
    have hnil := fun w => Lib.run_eql_slice_nil (P := Try.prog) w 22 33 (some x) n cap 0 0 Try.underlying22
    clear hr hh
    go_enter Try.func7, Try.ntmps7
    go_wp2_with (at_make; refine wpList_make_full _ rfl _ _ 22 rfl w.heap.size 33 i0 (.agg #[.string ByteArray.empty, .pointer none]) 2 Try.underlying22 hi hz0 hz1 .i64 .i64 _ _ n rfl rfl rfl rfl (by rw [hz2]; omega) (by unfold maxLen; omega) (Nat.le_refl _) ?_; intro w1 hown1 hgrow1)
    have hrow1 : w1.rowIs w.heap.size 33 (n * 2) (ent 0 nm pt) := (rowIs_of_owns hown1).congr (fun i hi => made_ent n nm pt i hi)
    have hb1 : Below w.heap.size w w1 := (Below.refl _ _).grown hgrow1 (Nat.le_refl _) (by simp)
    clear hgrow1 hi hz0 hz1 hz2 hown1
    go_loopw [4] (fun i wr => ∃ (k : Nat) (pt' : Nat → Option Addr), k ≤ n ∧ i = .int .i64 k ∧ wr.rowIs w.heap.size 33 (n * 2) (ent k nm pt') ∧ Below w.heap.size w wr) (fun i _ => n - (intOf i).toNat)
    case atStart => exact ⟨0, pt, Nat.zero_le _, rfl, hrow1, hb1⟩
    case round =>
      obtain ⟨k, pt', hk, rfl, hrow, hbr⟩ := hrel
      clear hrow1 hb1
      by_cases hlt : k < n
      · obtain ⟨b, off, hx, hbw, hc1, hc2⟩ := hcs k hlt
        injection hx with hx
        subst hx
        have hc1' : wr.cell? ⟨b, off + k * 2, none⟩ = some (.string (nm k)) := (hbr.cell (p := ⟨b, off + k * 2, none⟩) hbw).trans hc1
        have hc2' : wr.cell? ⟨b, off + k * 2 + 1, none⟩ = some (.pointer (pt k)) := (hbr.cell (p := ⟨b, off + k * 2 + 1, none⟩) hbw).trans hc2
        have hfz := hrow.frozen (k * 2)
        have hcl := hrow.cell (i := k * 2) (by omega)
        have hfz1 := hrow.frozen (k * 2 + 1)
        have hcl1 := hrow.cell (i := k * 2 + 1) (by omega)
        have hdk := hd k
        have hw0 := hrow.lt
        generalize ent k nm pt' (k * 2) = old at hcl
        generalize ent k nm pt' (k * 2 + 1) = old1 at hcl1
        have HR : Hid (wr.rowIs w.heap.size 33 (n * 2) (ent k nm pt')) := hrow
        have HB : Hid (Below w.heap.size w wr) := hbr
        clear hrow hbr hcs hd hc1 hc2
        generalize hpk : pt k = p at hc2' hdk
        clear hpk
        cases p with
        | none =>
          clear hdk
          go_wp2
          go_roundw
          case rel => exact ⟨k + 1, (fun j => if j = k then none else pt' j), by omega, by go_num, (HR.out.set (k * 2) (.string (nm k))).congr (fun i _ => ent_step k n hlt nm pt' i), HB.out.setCell (Nat.le_refl _) _⟩
          case measure => simp [intOf]; omega
        | some p =>
          obtain ⟨v, hv, hvs⟩ := hdk p hlt rfl
          clear hdk
          obtain ⟨pb, po, ps⟩ := p
          have hps : ps = none := by simpa using World.cell?_spot hv
          subst hps
          have hpb : pb < w.heap.size := World.block_lt_of_cell? w ⟨pb, po, none⟩ hv
          have hv' : wr.cell? ⟨pb, po, none⟩ = some (.string v) := (HB.out.cell (p := ⟨pb, po, none⟩) hpb).trans hv
          go_wp2
          go_roundw
          case rel => exact ⟨k + 1, (fun j => if j = k then some ⟨wr.heap.size, 0, none⟩ else pt' j), by omega, by go_num, (((HR.out.set (k * 2) (.string (nm k))).set (k * 2 + 1) _).congr (fun i _ => ent_step2 k n hlt nm pt' _ i)).alloc _, ((HB.out.setCell (Nat.le_refl _) _).setCell (Nat.le_refl _) _).alloc (by rw [World.size_setCell, World.size_setCell]; exact HB.out.size) _⟩
          case measure => simp [intOf]; omega
      · have hke : k = n := by omega
        subst hke
        have HR : Hid (wr.rowIs w.heap.size 33 (k * 2) (ent k nm pt')) := hrow
        clear hrow hcs hd
        go_wp2
        go_ret
        exact ⟨_, _, pt', rfl, Ents.ofRow HR.out (by unfold maxLen; omega) HSM.out, hbr⟩

end Go.Proofs.Qxb6601916a
