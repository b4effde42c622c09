import Derived.Test.Qxb6601526aBytes
namespace Go.Proofs.Qxb6601526a
open Go.RowKit
set_option linter.unusedVariables false
set_option linter.unusedSimpArgs false

set_option maxHeartbeats 1000000 in
/-- zzBytes_FnFillingMatchesAndGivesBackWildcards -/
theorem bytes19_any (a : Option Addr) (cap : Nat) (pat : List ByteArray) (rest : Bool) (b : Option Addr) (capb : Nat) (ws : List ByteArray) (c : Option Addr) (capc : Nat) (tail : List ByteArray) (w : World) (hr : Row w a cap pat) (hrw : Row w b capb ws) (hrt : Row w c capc tail) :
    Calls Try.prog 19 #[.slice a pat.length cap, .bool rest, .slice b ws.length capb, .slice c tail.length capc] w fun e w' => BoolSays w e w' := by
  have hl := hr.lenLe
  have hm := hr.capLe
  have hl1 := hrw.lenLe
  have hm1 := hrw.capLe
  have hl2 := hrt.lenLe
  have hm2 := hrt.capLe
  unfold maxLen at hm hm1 hm2
  have hcs := hr.at
  have hcs1 := hrw.at
  have hcs2 := hrt.at
  have hz := sizes w a cap pat hr
  have hz1 := sizes w b capb ws hrw
  have hz2 := sizes w c capc tail hrt
  clear hr hrw hrt
  go_enter Try.func19, Try.ntmps19
  go_wp2
  · go_ret
    exact ⟨_, rfl, rfl⟩
  · go_loop [9, 10] (fun z i => ∃ (k : Nat) (m : Int), k ≤ pat.length ∧ i = .int .i64 k ∧ z = .int .i64 m ∧ 0 ≤ m ∧ m ≤ 1048576) (fun _ i => pat.length - (intOf i).toNat)
    case atStart => exact ⟨0, pat.length, Nat.zero_le _, rfl, rfl, by omega, by omega⟩
    case round =>
      obtain ⟨k0, m0, hk0, rfl, rfl, h00, h10⟩ := hrel
      by_cases hlt0 : k0 < pat.length
      · obtain ⟨b, off, rfl, hbw, hcp⟩ := hcs k0 hlt0
        have hs := hz k0
        clear hcs hz hcs1 hz1 hcs2 hz2
        generalize pat.getD k0 ByteArray.empty = s at hcp hs
        go_wp2
        · go_ret
          exact ⟨_, rfl, rfl⟩
        · go_ret
          exact ⟨_, rfl, rfl⟩
        · go_round
          case rel => exact ⟨k0 + 1, m0 + s.size, by omega, by go_num, by go_num, by omega, by omega⟩
          case measure => simp [intOf]; omega
      · clear hcs hz
        go_wp2
        · go_ret
          exact ⟨_, rfl, rfl⟩
        · go_ret
          exact ⟨_, rfl, rfl⟩
        · go_loop [9, 11] (fun z i => ∃ (k : Nat) (m : Int), k ≤ ws.length ∧ i = .int .i64 k ∧ z = .int .i64 m ∧ 0 ≤ m ∧ m ≤ 1048576) (fun _ i => ws.length - (intOf i).toNat)
          case atStart => exact ⟨0, m0 + ws.length, Nat.zero_le _, rfl, rfl, by omega, by omega⟩
          case round =>
            obtain ⟨k1, m1, hk1, rfl, rfl, h01, h11⟩ := hrel
            by_cases hlt1 : k1 < ws.length
            · obtain ⟨b, off, rfl, hbw, hcp⟩ := hcs1 k1 hlt1
              have hs := hz1 k1
              clear hcs1 hz1 hcs2 hz2
              generalize ws.getD k1 ByteArray.empty = s at hcp hs
              go_wp2
              · go_ret
                exact ⟨_, rfl, rfl⟩
              · go_ret
                exact ⟨_, rfl, rfl⟩
              · go_round
                case rel => exact ⟨k1 + 1, m1 + s.size, by omega, by go_num, by go_num, by omega, by omega⟩
                case measure => simp [intOf]; omega
            · clear hcs1 hz1
              go_wp2
              · go_ret
                exact ⟨_, rfl, rfl⟩
              · go_ret
                exact ⟨_, rfl, rfl⟩
              · go_loop [9, 12] (fun z i => ∃ (k : Nat) (m : Int), k ≤ tail.length ∧ i = .int .i64 k ∧ z = .int .i64 m ∧ 0 ≤ m ∧ m ≤ 1048576) (fun _ i => tail.length - (intOf i).toNat)
                case atStart => exact ⟨0, m1 + tail.length, Nat.zero_le _, rfl, rfl, by omega, by omega⟩
                case round =>
                  obtain ⟨k2, m2, hk2, rfl, rfl, h02, h12⟩ := hrel
                  by_cases hlt2 : k2 < tail.length
                  · obtain ⟨b, off, rfl, hbw, hcp⟩ := hcs2 k2 hlt2
                    have hs := hz2 k2
                    clear hcs2 hz2
                    generalize tail.getD k2 ByteArray.empty = s at hcp hs
                    go_wp2
                    · go_ret
                      exact ⟨_, rfl, rfl⟩
                    · go_ret
                      exact ⟨_, rfl, rfl⟩
                    · go_round
                      case rel => exact ⟨k2 + 1, m2 + s.size, by omega, by go_num, by go_num, by omega, by omega⟩
                      case measure => simp [intOf]; omega
                  · clear hcs2 hz2
                    go_wp2
                    go_ret
                    exact ⟨_, rfl, rfl⟩

end Go.Proofs.Qxb6601526a
