import Derived.Test.Qxb6601706aNT
namespace Go.Proofs.Qxb6601706a
open Go.RowKit
set_option linter.unusedVariables false
set_option linter.unusedSimpArgs false

theorem sum_ge {B : Nat} : ∀ (ks : List Kid), (∀ k ∈ ks, B ≤ k.fl.length + 1) → ks.length * B ≤ (ks.map fun k => k.fl.length).sum + ks.length
  | [], _ => by simp
  | k :: ks, h => by
    have ih := sum_ge ks (fun x hx => h x (by simp [hx]))
    have h1 := h k (by simp)
    simp only [List.length_cons, List.map_cons, List.sum_cons, Nat.add_mul, Nat.one_mul]
    omega

/-- a tree whose root holds at least m records -/
theorem tree_count {w : World} : ∀ (h : Nat) (k : Kid) (m : Nat), Tree w h k → m ≤ k.r → (m + 1) * 32 ^ h ≤ k.fl.length + 1 := by
  intro h
  induction h with
  | zero =>
    intro k m t hm
    obtain ⟨rs, rv, kv, h1, h2, h3, h4, h5, h6, _⟩ := t
    rw [h6]
    simp
    omega
  | succ h ih =>
    intro k m t hm
    obtain ⟨rs, ks, rv, kv, h1, h2, h3, h4, h5, h6, h7, h8, h9, h10, h11⟩ := t
    have hs := sum_ge (B := 32 * 32 ^ h) ks (fun c hc => by
      have := ih c 31 (h11 c hc).2 (h11 c hc).1
      simpa using this)
    have hc := weave_count ks rs (.inr h10)
    rw [h6, hc]
    have hle : (m + 1) * (32 * 32 ^ h) ≤ ks.length * (32 * 32 ^ h) := Nat.mul_le_mul_right _ (by omega)
    have hp : (32 : Nat) ^ (h + 1) = 32 * 32 ^ h := by rw [Nat.pow_succ, Nat.mul_comm]
    rw [hp]
    omega
theorem height_le {w : World} {h : Nat} {k : Kid} (t : Tree w h k) (h1 : h ≠ 0 → 1 ≤ k.r) (hl : k.fl.length ≤ 4097) : h ≤ 2 := by
  by_cases h0 : h = 0
  · omega
  · have := tree_count h k 1 t (h1 h0)
    by_cases h3 : h ≤ 2
    · exact h3
    · have hp : (32 : Nat) ^ 3 ≤ 32 ^ h := Nat.pow_le_pow_right (by omega) (by omega)
      omega

end Go.Proofs.Qxb6601706a
