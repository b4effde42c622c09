import Derived.Test.Qxb6601706aFlat
namespace Go.Proofs.Qxb6601706a
open Go.RowKit
set_option linter.unusedVariables false
set_option linter.unusedSimpArgs false

/-! ### a tree that came in, read to a depth -/
structure Nd (K : Type) where
  b : Nat
  o : Nat
  rh : Option Addr
  rc : Nat
  kh : Option Addr
  kc : Nat
  rs : List Ent
  ks : List K

def NT : Nat → Type
  | 0 => Unit
  | d + 1 => Option (Nd (NT d))

def adr (x : Option Addr) : Option Addr := x

abbrev Rd := Addr → Option Value

def BytesAt (rd : Rd) (e : Ent) : Prop :=
  ∃ bs : List UInt8, e.vl = bs.length ∧ (e.vl = 0 ∨ ∃ g o, e.va = some ⟨g, o, none⟩) ∧ ∀ (j : Nat) (b : UInt8), bs[j]? = some b → ∃ g o, e.va = some ⟨g, o, none⟩ ∧ rd ⟨g, o + j, none⟩ = some (.int .u8 b.toNat)

def RowAt (rd : Rd) (rh : Option Addr) (rs : List Ent) : Prop :=
  ∀ (i : Nat) (e : Ent), rs[i]? = some e → ∃ g o, rh = some ⟨g, o, none⟩ ∧ rd ⟨g, o + i * 4, none⟩ = some (.string e.key) ∧ rd ⟨g, o + i * 4 + 1, none⟩ = some (.slice e.va e.vl e.vc) ∧ rd ⟨g, o + i * 4 + 2, none⟩ = some (.int .u64 e.rev) ∧ rd ⟨g, o + i * 4 + 3, none⟩ = some (.int .u64 e.lease) ∧ BytesAt rd e

def At (rd : Rd) : (d : Nat) → Value → NT d → Prop
  | 0, v, _ => ∃ q, v = .pointer q
  | _ + 1, v, none => v = .pointer none
  | d + 1, v, some n => v = .pointer (some ⟨n.b, n.o, none⟩) ∧ rd ⟨n.b, n.o, none⟩ = some (.slice (adr n.rh) n.rs.length n.rc) ∧ rd ⟨n.b, n.o + 1, none⟩ = some (.slice (adr n.kh) n.ks.length n.kc) ∧
      n.rs.length ≤ maxLen ∧ n.ks.length ≤ maxLen ∧ RowAt rd n.rh n.rs ∧ ∀ (i : Nat) (k : NT d), n.ks[i]? = some k → ∃ g o u, n.kh = some ⟨g, o, none⟩ ∧ rd ⟨g, o + i, none⟩ = some u ∧ At rd d u k

def Reads (rd : Rd) (w : World) : Prop := ∀ a v, rd a = some v → w.cell? a = some v

theorem BytesAt.mono {rd rd' : Rd} {e : Ent} (h : BytesAt rd e) (hr : ∀ a v, rd a = some v → rd' a = some v) : BytesAt rd' e := by
  obtain ⟨bs, h1, h2, h3⟩ := h
  refine ⟨bs, h1, h2, fun j b hb => ?_⟩
  obtain ⟨g, o, h4, h5⟩ := h3 j b hb
  exact ⟨g, o, h4, hr _ _ h5⟩
theorem RowAt.mono {rd rd' : Rd} {rh : Option Addr} {rs : List Ent} (h : RowAt rd rh rs) (hr : ∀ a v, rd a = some v → rd' a = some v) : RowAt rd' rh rs := by
  intro i e he
  obtain ⟨g, o, h1, h2, h3, h4, h5, h6⟩ := h i e he
  exact ⟨g, o, h1, hr _ _ h2, hr _ _ h3, hr _ _ h4, hr _ _ h5, h6.mono hr⟩
theorem At.mono {rd rd' : Rd} (hr : ∀ a v, rd a = some v → rd' a = some v) : ∀ (d : Nat) (v : Value) (T : NT d), At rd d v T → At rd' d v T
  | 0, v, T, h => h
  | d + 1, v, none, h => h
  | d + 1, v, some n, h => by
    obtain ⟨h1, h2, h3, h4, h5, h6, h7⟩ := h
    refine ⟨h1, hr _ _ h2, hr _ _ h3, h4, h5, h6.mono hr, fun i k hk => ?_⟩
    obtain ⟨g, o, u, h8, h9, h10⟩ := h7 i k hk
    exact ⟨g, o, u, h8, hr _ _ h9, At.mono hr d u k h10⟩
theorem At.pointer {rd : Rd} : ∀ (d : Nat) (v : Value) (T : NT d), At rd d v T → ∃ q, v = .pointer q
  | 0, v, T, h => h
  | d + 1, v, none, h => ⟨_, h⟩
  | d + 1, v, some n, h => ⟨_, h.1⟩

theorem Reads.drewN {rd : Rd} {w : World} (h : Reads rd w) (m : Nat) : Reads rd (w.drewN m) := h
theorem cell_kept {w w' : World} {a : Addr} {v : Value} (hk : w'.heap[a.block]? = w.heap[a.block]?) (h : w.cell? a = some v) : w'.cell? a = some v := by
  unfold World.cell? at h ⊢
  rw [hk]; exact h
/-- the cells read lie below N, and what is below N stands still -/
theorem Reads.below {rd : Rd} {w w' : World} (h : Reads rd w) {r : Option Nat} (hg : w.grownBy w' r) (hr : ∀ a v b, rd a = some v → r = some b → a.block ≠ b) : Reads rd w' := by
  intro a v ha
  have hc := h a v ha
  refine cell_kept (hg.block a.block (World.block_lt_of_cell? w a hc) (fun e => hr a v a.block ha e.symm rfl)) hc

/-! ### what the functions make of it -/
def recs : (d : Nat) → NT d → Nat
  | 0, _ => 0
  | _ + 1, none => 0
  | _ + 1, some n => n.rs.length
def flatT : (d : Nat) → NT d → List Ent
  | 0, _ => []
  | _ + 1, none => []
  | d + 1, some n => weave (n.ks.map fun k => ⟨0, recs d k, flatT d k, []⟩) n.rs
def kidOf (d : Nat) (k : NT d) : Kid := ⟨0, recs d k, flatT d k, []⟩
theorem flatT_some (d : Nat) (n : Nd (NT d)) : flatT (d + 1) (some n) = weave (n.ks.map (kidOf d)) n.rs := by
  rw [flatT]; rfl
def cntT : (d : Nat) → NT d → Nat
  | 0, _ => 0
  | _ + 1, none => 0
  | d + 1, some n => n.rs.length + (n.ks.map (cntT d)).sum
def ValT : (d : Nat) → NT d → Prop
  | 0, _ => True
  | _ + 1, none => True
  | d + 1, some n => (∀ e ∈ n.rs, e.vl ≤ 1048576) ∧ ∀ k ∈ n.ks, ValT d k
def ShOk : (d : Nat) → NT d → Nat → Prop
  | 0, _, _ => False
  | _ + 1, none, _ => False
  | _ + 1, some n, 0 => n.ks = [] ∧ n.rs.length ≤ 63
  | d + 1, some n, h + 1 => n.ks.length = n.rs.length + 1 ∧ n.rs.length ≤ 63 ∧ 1 ≤ n.rs.length ∧ ∀ k ∈ n.ks, ShOk d k h ∧ 31 ≤ recs d k

theorem ShOk.isNode {d h : Nat} {T : NT (d + 1)} (s : ShOk (d + 1) T h) : ∃ n, T = some n := by
  cases T with
  | none => cases h <;> exact s.elim
  | some n => exact ⟨n, rfl⟩
theorem ShOk.klen {d h : Nat} {n : Nd (NT d)} (s : ShOk (d + 1) (some n) h) : KLen h (n.ks.map (kidOf d)) n.rs := by
  cases h with
  | zero => exact ⟨fun _ => by rw [s.1]; rfl, fun h => absurd rfl h⟩
  | succ h => exact ⟨fun h => by omega, fun _ => by rw [List.length_map]; exact s.1⟩
theorem ShOk.len {d h : Nat} {n : Nd (NT d)} (s : ShOk (d + 1) (some n) h) : n.rs.length ≤ 63 ∧ n.ks.length ≤ 64 := by
  cases h with
  | zero => exact ⟨s.2, by rw [s.1]; simp⟩
  | succ h => exact ⟨s.2.1, by have := s.1; have := s.2.1; omega⟩
theorem ShOk.kid {d h : Nat} {n : Nd (NT d)} (s : ShOk (d + 1) (some n) h) {k : NT d} (hk : k ∈ n.ks) : h ≠ 0 ∧ ShOk d k (h - 1) ∧ 31 ≤ recs d k := by
  cases h with
  | zero => rw [s.1] at hk; simp at hk
  | succ h => exact ⟨by omega, s.2.2.2 k hk⟩
theorem ShOk.lt : ∀ (d : Nat) (T : NT d) (h : Nat), ShOk d T h → h < d
  | 0, T, h, s => s.elim
  | d + 1, none, h, s => by cases h <;> exact s.elim
  | d + 1, some n, 0, s => by omega
  | d + 1, some n, h + 1, s => by
    have hl := s.1
    have h1 := s.2.2.1
    obtain ⟨k, hk⟩ : ∃ k, k ∈ n.ks := by
      cases hks : n.ks with
      | nil => rw [hks] at hl; simp at hl
      | cons k t => exact ⟨k, by simp⟩
    have := ShOk.lt d k h (s.2.2.2 k hk).1
    omega

theorem weave_count : ∀ (ks : List Kid) (rs : List Ent), (ks = [] ∨ ks.length = rs.length + 1) → (weave ks rs).length = rs.length + (ks.map fun k => k.fl.length).sum
  | [], rs, _ => by simp [weave]
  | k :: ks, rs, h => by
    have hl : ks.length = rs.length := by simpa using h
    have : ∀ (rs : List Ent) (ks : List Kid), ks.length = rs.length → (R rs ks).length = rs.length + (ks.map fun k => k.fl.length).sum := by
      intro rs
      induction rs with
      | nil => intro ks h; have : ks = [] := List.eq_nil_of_length_eq_zero h; subst this; simp [R]
      | cons r rs ih =>
        intro ks h
        cases ks with
        | nil => simp at h
        | cons k ks => simp only [R, List.length_cons, List.length_append, ih ks (by simpa using h), List.map_cons, List.sum_cons]; omega
    show (k.fl ++ R rs ks).length = _
    rw [List.length_append, this rs ks hl, List.map_cons, List.sum_cons]
    omega

theorem flat_cnt : ∀ (d : Nat) (T : NT d) (h : Nat), ShOk d T h → (flatT d T).length = cntT d T
  | 0, T, h, s => s.elim
  | d + 1, none, h, s => by cases h <;> exact s.elim
  | d + 1, some n, h, s => by
    have hk := s.klen
    rw [flatT_some, weave_count _ _ (by
      by_cases h0 : h = 0
      · exact .inl (hk.1 h0)
      · exact .inr (hk.2 h0))]
    show _ = n.rs.length + (n.ks.map (cntT d)).sum
    congr 1
    rw [List.map_map]
    congr 1
    apply List.map_congr_left
    intro k hkm
    exact flat_cnt d k (h - 1) (s.kid hkm).2.1

end Go.Proofs.Qxb6601706a
