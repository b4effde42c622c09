import Derived.Test.Qxb6601916aCopy
namespace Go.Proofs.Qxb6601916a
open Go.RowKit
set_option linter.unusedVariables false
set_option linter.unusedSimpArgs false

/-- a slice of one-cell elements in memory -/
def Col (w : World) (a : Option Addr) (n : Nat) (f : Nat → Value) : Prop :=
  ∀ i, i < n → ∃ b off, a = some ⟨b, off, none⟩ ∧ b < w.heap.size ∧ w.cell? ⟨b, off + i, none⟩ = some (f i)

theorem Col.below {w w' : World} {a : Option Addr} {n : Nat} {f : Nat → Value} (h : Col w a n f) (hb : Below w.heap.size w w') : Col w' a n f := by
  intro i hi
  obtain ⟨b, off, rfl, hlt, h1⟩ := h i hi
  exact ⟨b, off, rfl, Nat.lt_of_lt_of_le hlt hb.size, (hb.cell (p := ⟨b, off + i, none⟩) hlt).trans h1⟩

/-- behind k rounds the first k cells of block g hold f -/
def Upto (w : World) (g : Nat) (t : TypeId) (n k : Nat) (f : Nat → Value) : Prop := ∃ c, w.rowIs g t n c ∧ ∀ i, i < k → c i = f i

theorem Upto.set {w : World} {g : Nat} {t : TypeId} {n k : Nat} {f : Nat → Value} (h : Upto w g t n k f) : Upto (w.setCell ⟨g, k, none⟩ (f k)) g t n (k + 1) f := by
  obtain ⟨c, hc, hk⟩ := h
  refine ⟨_, hc.set k (f k), fun i hi => ?_⟩
  by_cases e : i = k
  · subst e; simp
  · simp [e]; exact hk i (by omega)

theorem Upto.setOther {w : World} {g : Nat} {t : TypeId} {n k : Nat} {f : Nat → Value} (h : Upto w g t n k f) {a : Addr} (ha : g ≠ a.block) (v : Value) : Upto (w.setCell a v) g t n k f := by
  obtain ⟨c, hc, hk⟩ := h
  exact ⟨c, hc.setOther ha v, hk⟩

theorem Upto.col {w : World} {g : Nat} {t : TypeId} {n : Nat} {f : Nat → Value} (h : Upto w g t n n f) : Col w (some ⟨g, 0, none⟩) n f := by
  obtain ⟨c, hc, hk⟩ := h
  exact fun i hi => ⟨g, 0, rfl, hc.lt, by rw [Nat.zero_add, hc.cell hi, hk i hi]⟩

theorem Upto.spot {w : World} {g : Nat} {t : TypeId} {n k : Nat} {f : Nat → Value} (h : Upto w g t n k f) (hk : k < n) : (∃ old, w.cell? ⟨g, k, none⟩ = some old) ∧ w.frozen? ⟨g, k, none⟩ = false ∧ g < w.heap.size := by
  obtain ⟨c, hc, _⟩ := h
  exact ⟨⟨_, hc.cell hk⟩, hc.frozen k, hc.lt⟩

theorem Upto.ofOwns {w : World} {base g n : Nat} {t : TypeId} {xs : List Value} (f : Nat → Value) (h : w.ownsRow base t 1 (.slice (some ⟨g, 0, none⟩) n n) n xs) : Upto w g t n 0 f := by
  have := rowIs_of_owns h
  rw [Nat.mul_one] at this
  exact ⟨_, this, by simp⟩

theorem Upto.block {w w' : World} {g : Nat} {t : TypeId} {n k : Nat} {f : Nat → Value} (h : Upto w g t n k f) (e : w'.heap[g]? = w.heap[g]?) : Upto w' g t n k f := by
  obtain ⟨c, hc, hk⟩ := h
  exact ⟨c, hc.of_block e, hk⟩

theorem Try.info9 : (Try.prog.info? 9).map (fun i => (i.zero, i.size, i.bytes)) = some (some (.string ByteArray.empty), 1, 16) := by kernel_rfl
theorem Try.info30 : (Try.prog.info? 30).map (fun i => (i.zero, i.size, i.bytes)) = some (some (.pointer none), 1, 8) := by kernel_rfl

def SplitSays (w : World) (n : Nat) (nm : Nat → ByteArray) (pt : Nat → Option Addr) (e : Ending) (w' : World) : Prop :=
  ∃ a b, e = .returned (.tuple #[.slice a n n, .slice b n n]) ∧ Col w' a n (fun i => .string (nm i)) ∧ Col w' b n (fun i => .pointer (pt i)) ∧ Below w.heap.size w w'

set_option maxHeartbeats 1000000 in
/-- zzSplitB1 -/
theorem split8_any (a : Option Addr) (n cap : Nat) (nm : Nat → ByteArray) (pt : Nat → Option Addr) (w : World) (hr : Ents w a n cap nm pt) (hn : 24 * n ≤ 1048576) :
    Calls Try.prog 8 #[.slice a n cap] w fun e w' => SplitSays w n nm pt e w' := by
  have hcs := hr.cells
  obtain ⟨i0, hi, hz0, hz1, hz2⟩ := info_parts Try.info9
  obtain ⟨j0, gi, gz0, gz1, gz2⟩ := info_parts Try.info30
  clear hr
  go_enter Try.func8, Try.ntmps8
  go_wp2_with (first
    | (at_make; refine wpList_make_full _ rfl _ _ 26 rfl 0 9 i0 (.string ByteArray.empty) 1 Try.underlying26 hi hz0 hz1 .i64 .i64 _ _ n rfl rfl rfl rfl (by rw [hz2]; omega) (by unfold maxLen; omega) (Nat.zero_le _) ?_; intro w1 hown1 hgrow1)
    | (at_make; refine wpList_make_full _ rfl _ _ 27 rfl 0 30 j0 (.pointer none) 1 Try.underlying27 gi gz0 gz1 .i64 .i64 _ _ n rfl rfl rfl rfl (by rw [gz2]; omega) (by unfold maxLen; omega) (Nat.zero_le _) ?_; intro w2 hown2 hgrow2))
  have hU1 : Upto w1 w.heap.size 9 n 0 (fun i => .string (nm i)) := Upto.ofOwns _ hown1
  have hU2 : Upto w2 w1.heap.size 30 n 0 (fun i => .pointer (pt i)) := Upto.ofOwns _ hown2
  have hsz : w.heap.size < w1.heap.size := by obtain ⟨c, hc, _⟩ := hU1; exact hc.lt
  have hU1' : Upto w2 w.heap.size 9 n 0 (fun i => .string (nm i)) := hU1.block (hgrow2.block _ hsz (by simp))
  have hb2 : Below w.heap.size w w2 := ((Below.refl _ _).grown hgrow1 (Nat.le_refl _) (by simp)).grown hgrow2 (by omega) (by simp)
  clear hgrow1 hi hz0 hz1 hz2 hown1 hgrow2 hown2 gi gz0 gz1 gz2 hU1
  go_loopw [6] (fun i wr => ∃ (k : Nat), k ≤ n ∧ i = .int .i64 k ∧ Upto wr w.heap.size 9 n k (fun i => .string (nm i)) ∧ Upto wr w1.heap.size 30 n k (fun i => .pointer (pt i)) ∧ Below w.heap.size w wr) (fun i _ => n - (intOf i).toNat)
  case atStart => exact ⟨0, Nat.zero_le _, rfl, hU1', hU2, hb2⟩
  case round =>
    obtain ⟨k, hk, rfl, hA, hB, hbr⟩ := hrel
    clear hU1' hU2 hb2
    by_cases hlt : k < n
    · obtain ⟨b, off, rfl, hbw, hc1, hc2⟩ := hcs k hlt
      have hc1' : wr.cell? ⟨b, off + k * 2, none⟩ = some (.string (nm k)) := (hbr.cell (p := ⟨b, off + k * 2, none⟩) hbw).trans hc1
      have hc2' : wr.cell? ⟨b, off + k * 2 + 1, none⟩ = some (.pointer (pt k)) := (hbr.cell (p := ⟨b, off + k * 2 + 1, none⟩) hbw).trans hc2
      obtain ⟨⟨old, hcl⟩, hfz, hl1⟩ := hA.spot hlt
      obtain ⟨⟨old1, hcl1⟩, hfz1, hl2⟩ := hB.spot hlt
      have HA : Hid (Upto wr w.heap.size 9 n k (fun i => .string (nm i))) := hA
      have HB : Hid (Upto wr w1.heap.size 30 n k (fun i => .pointer (pt i))) := hB
      have HBR : Hid (Below w.heap.size w wr) := hbr
      clear hA hB hbr hcs hc1 hc2
      go_wp2
      go_roundw
      case rel => exact ⟨k + 1, by omega, by go_num, HA.out.set.setOther (by show w.heap.size ≠ w1.heap.size; omega) _, (HB.out.setOther (by show w1.heap.size ≠ w.heap.size; omega) _).set, (HBR.out.setCell (Nat.le_refl _) _).setCell (by show w.heap.size ≤ w1.heap.size; omega) _⟩
      case measure => simp [intOf]; omega
    · have hke : k = n := by omega
      subst hke
      have HA : Hid (Upto wr w.heap.size 9 k k (fun i => .string (nm i))) := hA
      have HB : Hid (Upto wr w1.heap.size 30 k k (fun i => .pointer (pt i))) := hB
      clear hA hB hcs
      go_wp2
      go_ret2
      exact ⟨_, _, rfl, HA.out.col, HB.out.col, hbr⟩

end Go.Proofs.Qxb6601916a
