import Derived.Test.Qxb6601526aGlob
namespace Go.Proofs.Qxb6601526a
open Go.RowKit
set_option linter.unusedVariables false
set_option linter.unusedSimpArgs false

def BoolSays (w : World) (e : Ending) (w' : World) : Prop := ∃ ok : Bool, e = .returned (.bool ok) ∧ w' = w

theorem sizes (w : World) (a : Option Addr) (cap : Nat) (ss : List ByteArray) (h : Row w a cap ss) : ∀ i, (ss.getD i ByteArray.empty).size ≤ 9223372036854775807 := by
  intro i
  have := h.sizeD i
  unfold maxLen at this
  omega

set_option maxHeartbeats 1000000 in
/-- zzBytes_FnMatchAgreesWithGlobModel -/
theorem bytes7_any (a : Option Addr) (cap : Nat) (pat : List ByteArray) (rest : Bool) (c : Option Addr) (capc : Nat) (segs : List ByteArray) (w : World) (hr : Row w a cap pat) (hc : Row w c capc segs) :
    Calls Try.prog 7 #[.slice a pat.length cap, .bool rest, .slice c segs.length capc] w fun e w' => BoolSays w e w' := by
  have hl := hr.lenLe
  have hm := hr.capLe
  have hl' := hc.lenLe
  have hm' := hc.capLe
  unfold maxLen at hm hm'
  have hcs := hr.at
  have hcs' := hc.at
  have hz := sizes w a cap pat hr
  have hz' := sizes w c capc segs hc
  clear hr hc
  go_enter Try.func7, Try.ntmps7
  go_wp2
  · go_ret
    exact ⟨_, rfl, rfl⟩
  · go_loop [7, 8] (fun z i => ∃ (k : Nat) (m : Int), k ≤ pat.length ∧ i = .int .i64 k ∧ z = .int .i64 m ∧ 0 ≤ m ∧ m ≤ 1048576) (fun _ i => pat.length - (intOf i).toNat)
    case atStart => exact ⟨0, pat.length, Nat.zero_le _, rfl, rfl, by omega, by omega⟩
    case round =>
      obtain ⟨k, m, hk, rfl, rfl, h0, h1⟩ := hrel
      by_cases hlt : k < pat.length
      · obtain ⟨b, off, rfl, hbw, hcp⟩ := hcs k hlt
        have hs := hz k
        clear hcs hcs' hz hz'
        generalize pat.getD k ByteArray.empty = s at hcp hs
        go_wp2
        · go_ret
          exact ⟨_, rfl, rfl⟩
        · go_ret
          exact ⟨_, rfl, rfl⟩
        · go_round
          case rel => exact ⟨k + 1, m + s.size, by omega, by go_num, by go_num, by omega, by omega⟩
          case measure => simp [intOf]; omega
      · clear hcs hz
        go_wp2
        · go_ret
          exact ⟨_, rfl, rfl⟩
        · go_ret
          exact ⟨_, rfl, rfl⟩
        · go_loop [7, 9] (fun z i => ∃ (k : Nat) (m : Int), k ≤ segs.length ∧ i = .int .i64 k ∧ z = .int .i64 m ∧ 0 ≤ m ∧ m ≤ 1048576) (fun _ i => segs.length - (intOf i).toNat)
          case atStart => exact ⟨0, m + segs.length, Nat.zero_le _, rfl, rfl, by omega, by omega⟩
          case round =>
            obtain ⟨k', m', hk', rfl, rfl, h0', h1'⟩ := hrel
            by_cases hlt' : k' < segs.length
            · obtain ⟨b, off, rfl, hbw, hcp⟩ := hcs' k' hlt'
              have hs := hz' k'
              clear hcs' hz'
              generalize segs.getD k' ByteArray.empty = s at hcp hs
              go_wp2
              · go_ret
                exact ⟨_, rfl, rfl⟩
              · go_ret
                exact ⟨_, rfl, rfl⟩
              · go_round
                case rel => exact ⟨k' + 1, m' + s.size, by omega, by go_num, by go_num, by omega, by omega⟩
                case measure => simp [intOf]; omega
            · clear hcs' hz'
              go_wp2
              go_ret
              exact ⟨_, rfl, rfl⟩

end Go.Proofs.Qxb6601526a
