import Derived.Test.Qxb6601916aRows
import Derived.WalkKit
import Derived.ProofKit
import Derived.WalkSpells
import Derived.WalkLawsBesides
import Derived.Deep.OwnRows
import Derived.Deep.QuietTactic
import Derived.BigQuiet
namespace Go.Proofs.Qxb6601916a
open Go.RowKit
set_option linter.unusedVariables false
set_option linter.unusedSimpArgs false

/-- A slice of entries in memory: names 'nm', places 'pt'. -/
structure Ents (w : World) (a : Option Addr) (n cap : Nat) (nm : Nat → ByteArray) (pt : Nat → Option Addr) : Prop where
  lenLe : n ≤ cap
  capLe : cap ≤ maxLen
  nil : a = none → cap = 0
  small : ∀ i, i < n → (nm i).size ≤ maxLen
  cells : ∀ i, i < n → ∃ b off, a = some ⟨b, off, none⟩ ∧ b < w.heap.size ∧ w.cell? ⟨b, off + i * 2, none⟩ = some (.string (nm i)) ∧ w.cell? ⟨b, off + i * 2 + 1, none⟩ = some (.pointer (pt i))

/-- each place that is not nil holds a string -/
def Held (w : World) (n : Nat) (pt : Nat → Option Addr) : Prop :=
  ∀ i p, i < n → pt i = some p → ∃ s : ByteArray, w.cell? p = some (.string s) ∧ s.size ≤ maxLen

theorem Ents.below {w w' : World} {a : Option Addr} {n cap : Nat} {nm : Nat → ByteArray} {pt : Nat → Option Addr} (h : Ents w a n cap nm pt) (hb : Below w.heap.size w w') : Ents w' a n cap nm pt := by
  refine ⟨h.lenLe, h.capLe, h.nil, h.small, fun i hi => ?_⟩
  obtain ⟨b, off, rfl, hlt, h1, h2⟩ := h.cells i hi
  exact ⟨b, off, rfl, Nat.lt_of_lt_of_le hlt hb.size, (hb.cell (p := ⟨b, off + i * 2, none⟩) hlt).trans h1, (hb.cell (p := ⟨b, off + i * 2 + 1, none⟩) hlt).trans h2⟩

def BoolSays (w : World) (e : Ending) (w' : World) : Prop := ∃ ok : Bool, e = .returned (.bool ok) ∧ w' = w

theorem sizes {w : World} {a : Option Addr} {n cap : Nat} {nm : Nat → ByteArray} {pt : Nat → Option Addr} (h : Ents w a n cap nm pt) : ∀ i, i < n → (nm i).size ≤ 9223372036854775807 := by
  intro i hi
  have := h.small i hi
  unfold maxLen at this
  omega

theorem helds {w : World} {n : Nat} {pt : Nat → Option Addr} (h : Held w n pt) : ∀ i p, i < n → pt i = some p → ∃ s : ByteArray, w.cell? p = some (.string s) ∧ s.size ≤ 9223372036854775807 := by
  intro i p hi hp
  obtain ⟨s, h1, h2⟩ := h i p hi hp
  unfold maxLen at h2
  exact ⟨s, h1, by omega⟩

set_option maxHeartbeats 1000000 in
/-- zzBytes_FnElementFindsFirstEntryOfTheName -/
theorem bytes5_any (a : Option Addr) (n cap : Nat) (nm : Nat → ByteArray) (pt : Nat → Option Addr) (name : ByteArray) (w : World) (hr : Ents w a n cap nm pt) (hh : Held w n pt) (hs : name.size ≤ maxLen) :
    Calls Try.prog 5 #[.slice a n cap, .string name] w fun e w' => BoolSays w e w' := by
  have hl := hr.lenLe
  have hm := hr.capLe
  unfold maxLen at hm hs
  have hcs := hr.cells
  have hz := sizes hr
  have hd := helds hh
  clear hr hh
  go_enter Try.func5, Try.ntmps5
  go_wp2
  · go_ret
    exact ⟨_, rfl, rfl⟩
  · go_loop [5, 6] (fun z i => ∃ (k : Nat) (m : Int), k ≤ n ∧ i = .int .i64 k ∧ z = .int .i64 m ∧ 0 ≤ m ∧ m ≤ 1048576) (fun _ i => n - (intOf i).toNat)
    case atStart => exact ⟨0, n, Nat.zero_le _, rfl, rfl, by omega, by omega⟩
    case round =>
      obtain ⟨k, m, hk, rfl, rfl, h0, h1⟩ := hrel
      by_cases hlt : k < n
      · obtain ⟨b, off, rfl, hbw, hc1, hc2⟩ := hcs k hlt
        have hsz := hz k hlt
        have hdk := hd k
        clear hcs hz hd
        generalize nm k = s at hc1 hsz
        generalize pt k = p at hc2 hdk
        cases p with
        | none =>
          clear hdk
          go_wp2
          · go_ret
            exact ⟨_, rfl, rfl⟩
          · go_ret
            exact ⟨_, rfl, rfl⟩
          · go_round
            case rel => exact ⟨k + 1, m + s.size, by omega, by go_num, by go_num, by omega, by omega⟩
            case measure => simp [intOf]; omega
        | some p =>
          obtain ⟨v, hv, hvs⟩ := hdk p hlt rfl
          clear hdk
          go_wp2
          · go_ret
            exact ⟨_, rfl, rfl⟩
          · go_ret
            exact ⟨_, rfl, rfl⟩
          · go_ret
            exact ⟨_, rfl, rfl⟩
          · go_ret
            exact ⟨_, rfl, rfl⟩
          · go_round
            case rel => exact ⟨k + 1, m + s.size + v.size, by omega, by go_num, by go_num, by omega, by omega⟩
            case measure => simp [intOf]; omega
      · clear hcs hz hd
        go_wp2
        all_goals
          go_ret
          exact ⟨_, rfl, rfl⟩

end Go.Proofs.Qxb6601916a
