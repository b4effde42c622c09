import Derived.Test.Qxb6601706aNT
namespace Go.Proofs.Qxb6601706a
open Go.RowKit
set_option linter.unusedVariables false
set_option linter.unusedSimpArgs false

def AnyBool (w : World) (e : Ending) (w' : World) : Prop := ∃ ok : Bool, e = .returned (.bool ok) ∧ w' = w
def ByRel (w : World) (n : Nat) (av kv : Value) (wr : World) : Prop := ∃ (k a : Nat), av = .int .i64 a ∧ kv = .int .i64 k ∧ k ≤ n ∧ a ≤ 1048576 ∧ wr = w

set_option maxHeartbeats 2000000 in
set_option maxRecDepth 100000 in
theorem bytes27 (w : World) (ka : Option Addr) (kn kc : Nat) (da : Option Addr) (dn dc : Nat) (hkn : kn ≤ maxLen) (hdn : dn ≤ maxLen) (hk : ∀ i, i < kn → ∃ g o s, ka = some ⟨g, o, none⟩ ∧ w.cell? ⟨g, o + i, none⟩ = some (.string s)) :
    Calls Try.prog 27 #[.slice ka kn kc, .slice da dn dc] w (AnyBool w) := by
  have HK : Hid (∀ i, i < kn → ∃ g o s, ka = some ⟨g, o, none⟩ ∧ w.cell? ⟨g, o + i, none⟩ = some (.string s)) := hk
  clear hk
  unfold maxLen at hkn hdn
  by_cases h1 : kn ≤ 1048576
  · have h1' : ¬ (1048576 < (kn : Int)) := by omega
    go_enter Try.func27, Try.ntmps27
    go_wp2
    go_loopw [5, 6] (ByRel w kn) (fun _ kv _ => kn - (intOf kv).toNat)
    case atStart => exact ⟨0, kn, rfl, rfl, Nat.zero_le _, h1, rfl⟩
    case round =>
      obtain ⟨k, a, rfl, rfl, hkk, ha, rfl⟩ := hrel
      by_cases hlt : k < kn
      · obtain ⟨g, o, s, rfl, hc⟩ := HK.out k hlt
        by_cases hs : s.size ≤ 1048576
        · have hs' : ¬ (1048576 < (s.size : Int)) := by omega
          by_cases hb : a + s.size ≤ 1048576
          · have hb' : ¬ (1048576 < (a : Int) + (s.size : Int)) := by omega
            as_aux_lemma =>
              go_wp2
              go_roundw
              case rel => exact ⟨k + 1, a + s.size, by go_num, by go_num, by omega, hb, rfl⟩
              case measure => simp [intOf] <;> omega
          · have hb' : (1048576 < (a : Int) + (s.size : Int)) := by omega
            as_aux_lemma =>
              go_wp2
              go_returns
              exact ⟨false, rfl, rfl⟩
        · have hs' : (1048576 < (s.size : Int)) := by omega
          as_aux_lemma =>
            go_wp2
            go_returns
            exact ⟨false, rfl, rfl⟩
      · have hkn' : k = kn := by omega
        subst hkn'
        by_cases hd : dn ≤ 1048576
        · have hd' : ¬ (1048576 < (dn : Int)) := by omega
          by_cases hb : a + dn ≤ 1048576
          · have hb' : ¬ (1048576 < (a : Int) + (dn : Int)) := by omega
            as_aux_lemma =>
              go_wp2
              go_returns
              exact ⟨true, rfl, rfl⟩
          · have hb' : (1048576 < (a : Int) + (dn : Int)) := by omega
            as_aux_lemma =>
              go_wp2
              go_returns
              exact ⟨false, rfl, rfl⟩
        · have hd' : (1048576 < (dn : Int)) := by omega
          as_aux_lemma =>
            go_wp2
            go_returns
            exact ⟨false, rfl, rfl⟩
  · have h1' : (1048576 < (kn : Int)) := by omega
    go_enter Try.func27, Try.ntmps27
    go_wp2
    go_returns
    exact ⟨false, rfl, rfl⟩

end Go.Proofs.Qxb6601706a
