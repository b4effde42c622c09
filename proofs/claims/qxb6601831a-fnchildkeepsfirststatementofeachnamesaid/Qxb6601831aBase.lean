import Derived.Test.Qxb6601831aRows
import Derived.WalkKit
import Derived.ProofKit
import Derived.WalkSpells
import Derived.WalkLawsBesides
import Derived.Deep.OwnRows
import Derived.Deep.QuietTactic
import Derived.BigQuiet
import Derived.LaidEqlPtr
namespace Go.Proofs.Qxb6601831a
open Go.RowKit
set_option linter.unusedVariables false
set_option linter.unusedSimpArgs false

/-- A script in memory: n calls: parents 'P', names 'nm', kinds 'K', offsets 'O'. -/
structure Scr (w : World) (a : Option Addr) (n cap : Nat) (P : Nat → Int) (nm : Nat → ByteArray) (K O : Nat → Int) : Prop where
  lenLe : n ≤ cap
  capLe : cap ≤ maxLen
  nil : a = none → cap = 0
  small : ∀ i, i < n → (nm i).size ≤ maxLen
  cells : ∀ i, i < n → ∃ b off, a = some ⟨b, off, none⟩ ∧ b < w.heap.size ∧ w.cell? ⟨b, off + i * 4, none⟩ = some (.int .i64 (P i)) ∧ w.cell? ⟨b, off + i * 4 + 1, none⟩ = some (.string (nm i)) ∧
    w.cell? ⟨b, off + i * 4 + 2, none⟩ = some (.int .i64 (K i)) ∧ w.cell? ⟨b, off + i * 4 + 3, none⟩ = some (.int .i64 (O i))

theorem Scr.below {w w' : World} {a : Option Addr} {n cap : Nat} {P : Nat → Int} {nm : Nat → ByteArray} {K O : Nat → Int} (h : Scr w a n cap P nm K O) (hb : Below w.heap.size w w') : Scr w' a n cap P nm K O := by
  refine ⟨h.lenLe, h.capLe, h.nil, h.small, fun i hi => ?_⟩
  obtain ⟨b, off, rfl, hlt, h1, h2, h3, h4⟩ := h.cells i hi
  exact ⟨b, off, rfl, Nat.lt_of_lt_of_le hlt hb.size, (hb.cell (p := ⟨b, _, none⟩) hlt).trans h1, (hb.cell (p := ⟨b, _, none⟩) hlt).trans h2, (hb.cell (p := ⟨b, _, none⟩) hlt).trans h3, (hb.cell (p := ⟨b, _, none⟩) hlt).trans h4⟩

def BoolSays (w : World) (n : Nat) (nm : Nat → ByteArray) (e : Ending) (w' : World) : Prop := ∃ ok : Bool, e = .returned (.bool ok) ∧ w' = w ∧ (ok = true → ∀ i, i < n → (nm i).size ≤ 1048576)

theorem sizes {w : World} {a : Option Addr} {n cap : Nat} {P : Nat → Int} {nm : Nat → ByteArray} {K O : Nat → Int} (h : Scr w a n cap P nm K O) : ∀ i, i < n → (nm i).size ≤ 9223372036854775807 := by
  intro i hi
  have := h.small i hi
  unfold maxLen at this
  omega

set_option maxHeartbeats 1000000 in
/-- zzBytes_FnChildKeepsFirstStatementOfEachName -/
theorem bytes4_any (a : Option Addr) (n cap : Nat) (P : Nat → Int) (nm : Nat → ByteArray) (K O : Nat → Int) (w : World) (hr : Scr w a n cap P nm K O) :
    Calls Try.prog 4 #[.slice a n cap] w fun e w' => BoolSays w n nm e w' := by
  have hl := hr.lenLe
  have hm := hr.capLe
  unfold maxLen at hm
  have hcs := hr.cells
  have hz := sizes hr
  clear hr
  go_enter Try.func4, Try.ntmps4
  go_wp2
  · go_ret
    exact ⟨_, rfl, rfl, by simp⟩
  · go_loop [3, 4] (fun z i => ∃ (k : Nat) (m : Int), k ≤ n ∧ i = .int .i64 k ∧ z = .int .i64 m ∧ 0 ≤ m ∧ m ≤ 1048576 ∧ Hid (∀ i, i < k → (nm i).size ≤ 1048576)) (fun _ i => n - (intOf i).toNat)
    case atStart => exact ⟨0, n, Nat.zero_le _, rfl, rfl, by omega, by omega, by intro i hi; omega⟩
    case round =>
      obtain ⟨k, m, hk, rfl, rfl, h0, h1, HZ⟩ := hrel
      by_cases hlt : k < n
      · obtain ⟨b, off, rfl, hbw, _, hc1, _, _⟩ := hcs k hlt
        have hsz := hz k hlt
        have HK : Hid (∀ s : ByteArray, nm k = s → s.size ≤ 1048576 → ∀ i, i < k + 1 → (nm i).size ≤ 1048576) := by
          intro s hs hss i hi
          by_cases e : i = k
          · subst e; rw [hs]; exact hss
          · exact HZ.out i (by omega)
        clear hcs hz
        generalize hs : nm k = s at hc1 hsz
        have HS : Hid (nm k = s) := hs
        clear hs
        go_wp2
        · go_ret
          exact ⟨_, rfl, rfl, by simp⟩
        · go_ret
          exact ⟨_, rfl, rfl, by simp⟩
        · go_round
          case rel => exact ⟨k + 1, m + s.size, by omega, by go_num, by go_num, by omega, by omega, HK.out s HS.out (by omega)⟩
          case measure => simp [intOf]; omega
      · have hke : k = n := by omega
        subst hke
        clear hcs hz
        go_wp2
        all_goals
          go_ret
          exact ⟨_, rfl, rfl, fun _ => HZ.out⟩

theorem rowIs_of_owns {w : World} {base e size g n : Nat} {xs : List Value} (h : w.ownsRow base e size (.slice (some ⟨g, 0, none⟩) n n) n xs) : w.rowIs g e (n * size) (fun i => xs.getD i default) := by
  obtain ⟨hl, h⟩ := h
  rcases h with ⟨h, _⟩ | ⟨g', cap, cur, hv, _, hh, _, _, hsz, hx⟩
  · simp at h
  · simp at hv
    obtain ⟨rfl, rfl⟩ := hv
    refine ⟨cur, hh, hsz, fun i hi => ?_⟩
    have hx' : cur.toList = xs := by rw [← hx, List.take_of_length_le (by simp; omega)]
    subst hx'
    simp [List.getD, hsz, hi]

/-- behind k rounds the first k calls of block g are laid -/
def Quads (w : World) (g : Nat) (n k : Nat) (P : Nat → Int) (nm : Nat → ByteArray) (K O : Nat → Int) : Prop :=
  ∃ c, w.rowIs g 25 (n * 4) c ∧ ∀ i, i < k → c (i * 4) = .int .i64 (P i) ∧ c (i * 4 + 1) = .string (nm i) ∧ c (i * 4 + 2) = .int .i64 (K i) ∧ c (i * 4 + 3) = .int .i64 (O i)

theorem Quads.set {w : World} {g n k : Nat} {P : Nat → Int} {nm : Nat → ByteArray} {K O : Nat → Int} (h : Quads w g n k P nm K O) :
    Quads ((((w.setCell ⟨g, k * 4, none⟩ (.int .i64 (P k))).setCell ⟨g, k * 4 + 1, none⟩ (.string (nm k))).setCell ⟨g, k * 4 + 2, none⟩ (.int .i64 (K k))).setCell ⟨g, k * 4 + 3, none⟩ (.int .i64 (O k))) g n (k + 1) P nm K O := by
  obtain ⟨c, hc, hk⟩ := h
  refine ⟨_, (((hc.set (k * 4) _).set (k * 4 + 1) _).set (k * 4 + 2) _).set (k * 4 + 3) _, fun i hi => ?_⟩
  by_cases e : i = k
  · subst e; simp
  · obtain ⟨h1, h2, h3, h4⟩ := hk i (by omega)
    refine ⟨?_, ?_, ?_, ?_⟩ <;> (repeat rw [if_neg (by omega)]) <;> assumption

theorem Quads.spot {w : World} {g n k : Nat} {P : Nat → Int} {nm : Nat → ByteArray} {K O : Nat → Int} (h : Quads w g n k P nm K O) (hk : k < n) :
    (∃ old, w.cell? ⟨g, k * 4, none⟩ = some old) ∧ (∃ old, w.cell? ⟨g, k * 4 + 1, none⟩ = some old) ∧ (∃ old, w.cell? ⟨g, k * 4 + 2, none⟩ = some old) ∧ (∃ old, w.cell? ⟨g, k * 4 + 3, none⟩ = some old) ∧
    w.frozen? ⟨g, k * 4, none⟩ = false ∧ w.frozen? ⟨g, k * 4 + 1, none⟩ = false ∧ w.frozen? ⟨g, k * 4 + 2, none⟩ = false ∧ w.frozen? ⟨g, k * 4 + 3, none⟩ = false ∧ g < w.heap.size := by
  obtain ⟨c, hc, _⟩ := h
  exact ⟨⟨_, hc.cell (by omega)⟩, ⟨_, hc.cell (by omega)⟩, ⟨_, hc.cell (by omega)⟩, ⟨_, hc.cell (by omega)⟩, hc.frozen _, hc.frozen _, hc.frozen _, hc.frozen _, hc.lt⟩

theorem Quads.scr {w : World} {g n : Nat} {P : Nat → Int} {nm : Nat → ByteArray} {K O : Nat → Int} (h : Quads w g n n P nm K O) (hn : n ≤ maxLen) (hsm : ∀ i, i < n → (nm i).size ≤ maxLen) : Scr w (some ⟨g, 0, none⟩) n n P nm K O := by
  obtain ⟨c, hc, hk⟩ := h
  refine ⟨Nat.le_refl _, hn, by simp, hsm, fun i hi => ⟨g, 0, rfl, hc.lt, ?_, ?_, ?_, ?_⟩⟩
  · rw [Nat.zero_add, hc.cell (by omega), (hk i hi).1]
  · rw [Nat.zero_add, hc.cell (by omega), (hk i hi).2.1]
  · rw [Nat.zero_add, hc.cell (by omega), (hk i hi).2.2.1]
  · rw [Nat.zero_add, hc.cell (by omega), (hk i hi).2.2.2]

theorem Try.info25 : (Try.prog.info? 25).map (fun i => (i.zero, i.size, i.bytes)) = some (some (.agg #[.int .i64 0, .string ByteArray.empty, .int .i64 0, .int .i64 0]), 4, 40) := by kernel_rfl

def CopySays (w : World) (n : Nat) (P : Nat → Int) (nm : Nat → ByteArray) (K O : Nat → Int) (e : Ending) (w' : World) : Prop :=
  ∃ a cap, e = .returned (.slice a n cap) ∧ Scr w' a n cap P nm K O ∧ Below w.heap.size w w'

set_option maxHeartbeats 1000000 in
/-- copyCalls -/
theorem copy5_any (a : Option Addr) (n cap : Nat) (P : Nat → Int) (nm : Nat → ByteArray) (K O : Nat → Int) (w : World) (hr : Scr w a n cap P nm K O) (hn : n ≤ 4096) :
    Calls Try.prog 5 #[.slice a n cap] w fun e w' => CopySays w n P nm K O e w' := by
  have hcs := hr.cells
  have hl := hr.lenLe
  have HSM : Hid (∀ i, i < n → (nm i).size ≤ maxLen) := hr.small
  obtain ⟨i0, hi, hz0, hz1, hz2⟩ := info_parts Try.info25
  cases a with
  | none =>
    have hc0 := hr.nil rfl
    have hn0 : n = 0 := by omega
    subst hc0 hn0
    have hnil0 := fun w => Lib.run_eql_slice_nil (P := Try.prog) w 22 25 none 0 0 0 0 Try.underlying22
    clear hcs
    go_enter Try.func5, Try.ntmps5
    go_wp2
    go_ret
    exact ⟨none, 0, rfl, hr, Below.refl _ _⟩
  | some x =>
    have hnil := fun w => Lib.run_eql_slice_nil (P := Try.prog) w 22 25 (some x) n cap 0 0 Try.underlying22
    clear hr
    go_enter Try.func5, Try.ntmps5
    go_wp2_with (at_make; refine wpList_make_full _ rfl _ _ 22 rfl w.heap.size 25 i0 (.agg #[.int .i64 0, .string ByteArray.empty, .int .i64 0, .int .i64 0]) 4 Try.underlying22 hi hz0 hz1 .i64 .i64 _ _ n rfl rfl rfl rfl (by rw [hz2]; omega) (by unfold maxLen; omega) (Nat.le_refl _) ?_; intro w1 hown1 hgrow1)
    have hQ1 : Quads w1 w.heap.size n 0 P nm K O := ⟨_, rowIs_of_owns hown1, by simp⟩
    have hb1 : Below w.heap.size w w1 := (Below.refl _ _).grown hgrow1 (Nat.le_refl _) (by simp)
    clear hgrow1 hi hz0 hz1 hz2 hown1
    go_loopw [4] (fun i wr => ∃ (k : Nat), k ≤ n ∧ i = .int .i64 k ∧ Quads wr w.heap.size n k P nm K O ∧ Below w.heap.size w wr) (fun i _ => n - (intOf i).toNat)
    case atStart => exact ⟨0, Nat.zero_le _, rfl, hQ1, hb1⟩
    case round =>
      obtain ⟨k, hk, rfl, hQ, hbr⟩ := hrel
      clear hQ1 hb1
      by_cases hlt : k < n
      · obtain ⟨b, off, hx, hbw, hc1, hc2, hc3, hc4⟩ := hcs k hlt
        injection hx with hx
        subst hx
        have hc1' : wr.cell? ⟨b, off + k * 4, none⟩ = some (.int .i64 (P k)) := (hbr.cell (p := ⟨b, _, none⟩) hbw).trans hc1
        have hc2' : wr.cell? ⟨b, off + k * 4 + 1, none⟩ = some (.string (nm k)) := (hbr.cell (p := ⟨b, _, none⟩) hbw).trans hc2
        have hc3' : wr.cell? ⟨b, off + k * 4 + 2, none⟩ = some (.int .i64 (K k)) := (hbr.cell (p := ⟨b, _, none⟩) hbw).trans hc3
        have hc4' : wr.cell? ⟨b, off + k * 4 + 3, none⟩ = some (.int .i64 (O k)) := (hbr.cell (p := ⟨b, _, none⟩) hbw).trans hc4
        obtain ⟨⟨o1, ho1⟩, ⟨o2, ho2⟩, ⟨o3, ho3⟩, ⟨o4, ho4⟩, f1, f2, f3, f4, hw0⟩ := hQ.spot hlt
        have HQ : Hid (Quads wr w.heap.size n k P nm K O) := hQ
        have HB : Hid (Below w.heap.size w wr) := hbr
        clear hQ hbr hcs hc1 hc2 hc3 hc4
        go_wp2
        go_roundw
        case rel => exact ⟨k + 1, by omega, by go_num, HQ.out.set, (((HB.out.setCell (Nat.le_refl _) _).setCell (Nat.le_refl _) _).setCell (Nat.le_refl _) _).setCell (Nat.le_refl _) _⟩
        case measure => simp [intOf]; omega
      · have hke : k = n := by omega
        subst hke
        have HQ : Hid (Quads wr w.heap.size k k P nm K O) := hQ
        clear hQ hcs
        go_wp2
        go_ret
        exact ⟨_, _, rfl, HQ.out.scr (by unfold maxLen; omega) HSM.out, hbr⟩

end Go.Proofs.Qxb6601831a
