import Derived.Test.Qxb6601526aRows
import Derived.WalkKit
import Derived.ProofKit
import Derived.WalkSpells
import Derived.WalkLawsBesides
namespace Go.Proofs.Qxb6601526a
open Go.RowKit
set_option linter.unusedVariables false
set_option linter.unusedSimpArgs false

/-- A slice of strings in memory: its elements are 'ss'. -/
structure Row (w : World) (a : Option Addr) (cap : Nat) (ss : List ByteArray) : Prop where
  lenLe : ss.length ≤ cap
  capLe : cap ≤ maxLen
  nil : a = none → cap = 0
  small : ∀ s ∈ ss, s.size ≤ maxLen
  cells : ss = [] ∨ ∃ b off, a = some ⟨b, off, none⟩ ∧ b < w.heap.size ∧ ∀ i, i < ss.length → w.cell? ⟨b, off + i, none⟩ = some (.string (ss.getD i ByteArray.empty))

theorem Row.nilLen {w : World} {cap : Nat} {ss : List ByteArray} (h : Row w none cap ss) : cap = 0 ∧ ss = [] := by
  have h1 := h.nil rfl
  have h2 := h.lenLe
  exact ⟨h1, List.eq_nil_of_length_eq_zero (by omega)⟩

theorem Row.sizeD {w : World} {a : Option Addr} {cap : Nat} {ss : List ByteArray} (h : Row w a cap ss) (i : Nat) : (ss.getD i ByteArray.empty).size ≤ maxLen := by
  by_cases hi : i < ss.length
  · rw [List.getD_eq_getElem?_getD, List.getElem?_eq_getElem hi, Option.getD_some]
    exact h.small _ (List.getElem_mem hi)
  · rw [List.getD_eq_getElem?_getD, List.getElem?_eq_none (by omega), Option.getD_none]
    exact Nat.zero_le _

theorem Row.below {w w' : World} {a : Option Addr} {cap : Nat} {ss : List ByteArray} (h : Row w a cap ss) (hb : Below w.heap.size w w') : Row w' a cap ss := by
  refine ⟨h.lenLe, h.capLe, h.nil, h.small, ?_⟩
  rcases h.cells with h | ⟨b, off, rfl, hlt, hc⟩
  · exact .inl h
  · exact .inr ⟨b, off, rfl, Nat.lt_of_lt_of_le hlt hb.size, fun i hi => (hb.cell (p := ⟨b, off + i, none⟩) hlt).trans (hc i hi)⟩

def AddSays (w : World) (n : Int) (len : Nat) (e : Ending) (w' : World) : Prop :=
  ∃ (m : Int) (ok : Bool), e = .returned (.tuple #[.int .i64 m, .bool ok]) ∧ w' = w ∧ 0 ≤ m ∧ (ok = true → m ≤ 1048576 ∧ n + 16 * len ≤ m)

set_option maxHeartbeats 400000 in
/-- addBytes -/
theorem add_any (n : Int) (a : Option Addr) (cap : Nat) (ss : List ByteArray) (w : World) (h : Row w a cap ss) (hn0 : 0 ≤ n) (hn : n ≤ 1048576) :
    Calls Try.prog 22 #[.int .i64 n, .slice a ss.length cap] w fun e w' => AddSays w n ss.length e w' := by
  have hl := h.lenLe
  have hm := h.capLe
  have hsz := h.sizeD
  unfold maxLen at hm hsz
  have hcs : ∀ i, i < ss.length → ∃ b off, a = some ⟨b, off, none⟩ ∧ w.cell? ⟨b, off + i, none⟩ = some (.string (ss.getD i ByteArray.empty)) := by
    intro i hi
    rcases h.cells with h | ⟨b, off, rfl, _, hc⟩
    · subst h; simp at hi
    · exact ⟨b, off, rfl, hc i hi⟩
  clear h
  go_enter Try.func22, Try.ntmps22
  go_wp2
  go_loop [0, 6] (fun t i => ∃ (k : Nat) (m : Int), k ≤ ss.length ∧ i = .int .i64 k ∧ t = .int .i64 m ∧ 0 ≤ m ∧ m ≤ 1048576 ∧ n + 16 * k ≤ m) (fun _ i => ss.length - (intOf i).toNat)
  case atStart => exact ⟨0, n, Nat.zero_le _, rfl, rfl, hn0, hn, by omega⟩
  case round =>
    obtain ⟨k, m, hk, rfl, rfl, h0, h1, h2⟩ := hrel
    by_cases hlt : k < ss.length
    · obtain ⟨b, off, rfl, hc⟩ := hcs k hlt
      have hs := hsz k
      clear hcs hsz
      generalize ss.getD k ByteArray.empty = s at hc hs
      go_wp2
      · go_ret2
        exact ⟨_, _, rfl, rfl, h0, by simp⟩
      · go_ret2
        exact ⟨_, _, rfl, rfl, by omega, by simp⟩
      · go_round
        case rel => exact ⟨k + 1, m + (16 + s.size), by omega, by go_num, by go_num, by omega, by omega, by omega⟩
        case measure => simp [intOf]; omega
    · clear hcs hsz
      go_wp2
      go_ret2
      exact ⟨_, _, rfl, rfl, h0, fun _ => ⟨h1, by omega⟩⟩

def FitSays (w : World) (n : Nat) (e : Ending) (w' : World) : Prop :=
  ∃ ok : Bool, e = .returned (.bool ok) ∧ w' = w ∧ (ok = true → 16 * n ≤ 1048576)

set_option maxHeartbeats 400000 in
/-- fitsBytes -/
theorem fits_any (a b c : Option Addr) (capa capb capc : Nat) (sa sb sc : List ByteArray) (w : World) (ha : Row w a capa sa) (hb : Row w b capb sb) (hc : Row w c capc sc) :
    Calls Try.prog 8 #[.slice a sa.length capa, .slice b sb.length capb, .slice c sc.length capc] w fun e w' => FitSays w (sa.length + sb.length + sc.length) e w' := by
  go_enter Try.func8, Try.ntmps8
  go_wp2_with fail
  refine (add_any _ _ _ _ _ ha (by omega) (by omega)).mono ?_
  rintro e w' ⟨m, ok, rfl, rfl, hm0, hm⟩
  cases ok
  · go_wp2_with fail
    go_ret
    exact ⟨_, rfl, rfl, by simp⟩
  · obtain ⟨hm1, hm2⟩ := hm rfl
    go_wp2_with fail
    refine (add_any _ _ _ _ _ hb (by omega) (by omega)).mono ?_
    rintro e w' ⟨m', ok, rfl, rfl, hm0', hm'⟩
    cases ok
    · go_wp2_with fail
      go_ret
      exact ⟨_, rfl, rfl, by simp⟩
    · obtain ⟨hm1', hm2'⟩ := hm' rfl
      go_wp2_with fail
      refine (add_any _ _ _ _ _ hc (by omega) (by omega)).mono ?_
      rintro e w' ⟨m'', ok, rfl, rfl, hm0'', hm''⟩
      go_wp2_with fail
      go_ret
      exact ⟨_, rfl, rfl, fun h => by have := hm'' h; omega⟩

end Go.Proofs.Qxb6601526a
