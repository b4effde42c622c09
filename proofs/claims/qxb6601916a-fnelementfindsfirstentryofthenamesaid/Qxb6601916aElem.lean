import Derived.Test.Qxb6601916aSplit
import Derived.RegionTactic
import Derived.BigRegion
namespace Go.Proofs.Qxb6601916a
open Go.RowKit
set_option linter.unusedVariables false
set_option linter.unusedSimpArgs false

/-- the place of the first of the entries k .. k + c - 1 that has the name -/
def find (nm : Nat → ByteArray) (pt : Nat → Option Addr) (name : ByteArray) : Nat → Nat → Option Addr
  | 0, _ => none
  | c + 1, k => bif (nm k).toList == name.toList then pt k else find nm pt name c (k + 1)

theorem find_hit (nm : Nat → ByteArray) (pt : Nat → Option Addr) (name : ByteArray) (n k : Nat) (h : k < n) (hh : ((nm k).toList == name.toList) = true) : find nm pt name (n - k) k = pt k := by
  rw [show n - k = (n - (k + 1)) + 1 from by omega, find, hh, cond_true]

theorem find_miss (nm : Nat → ByteArray) (pt : Nat → Option Addr) (name : ByteArray) (n k : Nat) (h : k < n) (hh : ((nm k).toList == name.toList) = false) : find nm pt name (n - k) k = find nm pt name (n - (k + 1)) (k + 1) := by
  rw [show n - k = (n - (k + 1)) + 1 from by omega, find, hh, cond_false]

theorem find_end (nm : Nat → ByteArray) (pt : Nat → Option Addr) (name : ByteArray) (n k : Nat) (h : ¬ k < n) : find nm pt name (n - k) k = none := by
  rw [show n - k = 0 from by omega, find]

def PtrSays (w : World) (p : Option Addr) (e : Ending) (w' : World) : Prop := e = .returned (.pointer p) ∧ Below w.heap.size w w'

set_option maxHeartbeats 1000000 in
/-- element -/
theorem elem11_any (a : Option Addr) (n cap : Nat) (nm : Nat → ByteArray) (pt : Nat → Option Addr) (name : ByteArray) (w : World) (hr : Ents w a n cap nm pt) (hn : 24 * n ≤ 1048576) :
    Calls Try.prog 11 #[.slice a n cap, .string name] w fun e w' => PtrSays w (find nm pt name n 0) e w' := by
  have hcs := hr.cells
  clear hr
  go_enter Try.func11, Try.ntmps11
  go_wp2
  go_loopw [9] (fun i wr => ∃ (k : Nat), k ≤ n ∧ i = .int .i64 k ∧ Hid (find nm pt name (n - k) k = find nm pt name n 0) ∧ Below w.heap.size w wr) (fun i _ => n - (intOf i).toNat)
  case atStart => exact ⟨0, Nat.zero_le _, rfl, rfl, Below.refl _ _⟩
  case round =>
    obtain ⟨k, hk, rfl, HF, hbr⟩ := hrel
    have hsz := hbr.size
    by_cases hlt : k < n
    · obtain ⟨b, off, rfl, hbw, hc1, hc2⟩ := hcs k hlt
      have hc1' : wr.cell? ⟨b, off + k * 2, none⟩ = some (.string (nm k)) := (hbr.cell (p := ⟨b, off + k * 2, none⟩) hbw).trans hc1
      have hc2' : wr.cell? ⟨b, off + k * 2 + 1, none⟩ = some (.pointer (pt k)) := (hbr.cell (p := ⟨b, off + k * 2 + 1, none⟩) hbw).trans hc2
      have HBR : Hid (Below w.heap.size w wr) := hbr
      clear hbr hcs hc1 hc2
      cases hst : ((nm k).toList == name.toList)
      · have HF' : Hid (find nm pt name (n - (k + 1)) (k + 1) = find nm pt name n 0) := by rw [Hid, ← HF.out, find_miss nm pt name n k hlt hst]
        go_wp2
        go_roundw
        case rel => exact ⟨k + 1, by omega, by go_num, HF', HBR.out.alloc HBR.out.size _⟩
        case measure => simp [intOf]; omega
      · have HF' : Hid (pt k = find nm pt name n 0) := by rw [Hid, ← HF.out, find_hit nm pt name n k hlt hst]
        go_wp2
        go_ret
        exact ⟨by rw [← HF'.out]; rfl, HBR.out.alloc HBR.out.size _⟩
    · have HF' : Hid (find nm pt name n 0 = none) := by rw [Hid, ← HF.out, find_end nm pt name n k hlt]
      clear hcs
      go_wp2
      go_ret
      exact ⟨by rw [HF'.out]; rfl, hbr⟩

/-- behind k rounds the first k entries of block g hold names and places -/
def Pairs (w : World) (g : Nat) (t : TypeId) (n k : Nat) (nm : Nat → ByteArray) (pt : Nat → Option Addr) : Prop := ∃ c, w.rowIs g t (n * 2) c ∧ ∀ i, i < k → c (i * 2) = .string (nm i) ∧ c (i * 2 + 1) = .pointer (pt i)

theorem Pairs.set {w : World} {g : Nat} {t : TypeId} {n k : Nat} {nm : Nat → ByteArray} {pt : Nat → Option Addr} (h : Pairs w g t n k nm pt) : Pairs ((w.setCell ⟨g, k * 2, none⟩ (.string (nm k))).setCell ⟨g, k * 2 + 1, none⟩ (.pointer (pt k))) g t n (k + 1) nm pt := by
  obtain ⟨c, hc, hk⟩ := h
  refine ⟨_, (hc.set (k * 2) _).set (k * 2 + 1) _, fun i hi => ?_⟩
  by_cases e : i = k
  · subst e; simp
  · have := hk i (by omega)
    constructor
    · rw [if_neg (by omega), if_neg (by omega)]; exact this.1
    · rw [if_neg (by omega), if_neg (by omega)]; exact this.2

theorem Pairs.spot {w : World} {g : Nat} {t : TypeId} {n k : Nat} {nm : Nat → ByteArray} {pt : Nat → Option Addr} (h : Pairs w g t n k nm pt) (hk : k < n) : (∃ old, w.cell? ⟨g, k * 2, none⟩ = some old) ∧ (∃ old, w.cell? ⟨g, k * 2 + 1, none⟩ = some old) ∧ w.frozen? ⟨g, k * 2, none⟩ = false ∧ w.frozen? ⟨g, k * 2 + 1, none⟩ = false ∧ g < w.heap.size := by
  obtain ⟨c, hc, _⟩ := h
  exact ⟨⟨_, hc.cell (by omega)⟩, ⟨_, hc.cell (by omega)⟩, hc.frozen _, hc.frozen _, hc.lt⟩

theorem Pairs.ents {w : World} {g n : Nat} {t : TypeId} {nm : Nat → ByteArray} {pt : Nat → Option Addr} (h : Pairs w g t n n nm pt) (hn : n ≤ maxLen) (hsm : ∀ i, i < n → (nm i).size ≤ maxLen) : Ents w (some ⟨g, 0, none⟩) n n nm pt := by
  obtain ⟨c, hc, hk⟩ := h
  refine ⟨Nat.le_refl _, hn, by simp, hsm, fun i hi => ⟨g, 0, rfl, hc.lt, ?_, ?_⟩⟩
  · rw [Nat.zero_add, hc.cell (by omega), (hk i hi).1]
  · rw [Nat.zero_add, hc.cell (by omega), (hk i hi).2]

theorem Try.info37 : (Try.prog.info? 37).map (fun i => (i.zero, i.size, i.bytes)) = some (some (.agg #[.string ByteArray.empty, .pointer none]), 2, 24) := by kernel_rfl

set_option maxHeartbeats 1000000 in
/-- ZZElement -/
theorem zz9_any (a b : Option Addr) (n : Nat) (nm : Nat → ByteArray) (pt : Nat → Option Addr) (name : ByteArray) (w : World) (ha : Col w a n (fun i => .string (nm i))) (hb : Col w b n (fun i => .pointer (pt i))) (hn : 24 * n ≤ 1048576) (hsm : ∀ i, i < n → (nm i).size ≤ maxLen) :
    Calls Try.prog 9 #[.slice a n n, .slice b n n, .string name] w fun e w' => PtrSays w (find nm pt name n 0) e w' := by
  obtain ⟨i0, hi, hz0, hz1, hz2⟩ := info_parts Try.info37
  have HSM : Hid (∀ i, i < n → (nm i).size ≤ maxLen) := hsm
  have HA : Hid (Col w a n (fun i => .string (nm i))) := ha
  have HB : Hid (Col w b n (fun i => .pointer (pt i))) := hb
  clear hsm ha hb
  go_enter Try.func9, Try.ntmps9
  go_wp2_with (at_make; refine wpList_make_full _ rfl _ _ 35 rfl 0 37 i0 (.agg #[.string ByteArray.empty, .pointer none]) 2 Try.underlying35 hi hz0 hz1 .i64 .i64 _ _ n rfl rfl rfl rfl (by rw [hz2]; omega) (by unfold maxLen; omega) (Nat.zero_le _) ?_; intro w1 hown1 hgrow1)
  have hP1 : Pairs w1 w.heap.size 37 n 0 nm pt := ⟨_, rowIs_of_owns hown1, by simp⟩
  have hb1 : Below w.heap.size w w1 := (Below.refl _ _).grown hgrow1 (Nat.le_refl _) (by simp)
  clear hgrow1 hi hz0 hz1 hz2 hown1
  go_loopw [8] (fun i wr => ∃ (k : Nat), k ≤ n ∧ i = .int .i64 k ∧ Pairs wr w.heap.size 37 n k nm pt ∧ Below w.heap.size w wr) (fun i _ => n - (intOf i).toNat)
  case atStart => exact ⟨0, Nat.zero_le _, rfl, hP1, hb1⟩
  case round =>
    obtain ⟨k, hk, rfl, hP, hbr⟩ := hrel
    clear hP1 hb1
    by_cases hlt : k < n
    · obtain ⟨ba, offa, rfl, hbwa, hca⟩ := HA.out k hlt
      obtain ⟨bb, offb, rfl, hbwb, hcb⟩ := HB.out k hlt
      have hca' : wr.cell? ⟨ba, offa + k, none⟩ = some (.string (nm k)) := (hbr.cell (p := ⟨ba, offa + k, none⟩) hbwa).trans hca
      have hcb' : wr.cell? ⟨bb, offb + k, none⟩ = some (.pointer (pt k)) := (hbr.cell (p := ⟨bb, offb + k, none⟩) hbwb).trans hcb
      obtain ⟨⟨old, hcl⟩, ⟨old1, hcl1⟩, hfz, hfz1, hl1⟩ := hP.spot hlt
      have HP : Hid (Pairs wr w.heap.size 37 n k nm pt) := hP
      have HBR : Hid (Below w.heap.size w wr) := hbr
      have hi1 : (k : Int) < (n : Int) := by omega
      clear hP hbr hca hcb
      go_wp2
      go_region
      go_wp2
      go_roundw
      case rel => exact ⟨k + 1, by omega, by go_num, HP.out.set, ((HBR.out.setCell (Nat.le_refl _) _).setCell (Nat.le_refl _) _).drew⟩
      case measure => simp [intOf]; omega
    · have hke : k = n := by omega
      subst hke
      have HP : Hid (Pairs wr w.heap.size 37 k k nm pt) := hP
      clear hP
      go_wp2_with fail
      refine (elem11_any _ k k nm pt name _ (HP.out.ents (by unfold maxLen; omega) HSM.out) hn).mono ?_
      rintro e w3 ⟨rfl, hb3⟩
      go_wp2_with fail
      go_ret
      exact ⟨rfl, hbr.trans (hb3.mono hbr.size)⟩

end Go.Proofs.Qxb6601916a
