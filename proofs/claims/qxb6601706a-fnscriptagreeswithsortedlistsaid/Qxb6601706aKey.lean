import Derived.Test.Qxb6601706aBase
import Derived.Lib.Bytealg
namespace Go.Proofs.Qxb6601706a
open Go.RowKit
set_option linter.unusedVariables false
set_option linter.unusedSimpArgs false

/-! ### the order of the keys -/
theorem u8_lt (a b : UInt8) : a < b ↔ a.toNat < b.toNat := UInt8.lt_iff_toNat_lt
theorem u8_eq (a b : UInt8) : a = b ↔ a.toNat = b.toNat := UInt8.toNat_inj.symm

theorem cb_refl : ∀ a : List UInt8, Lib.compareBytes a a = 0
  | [] => rfl
  | a :: xs => by simp [Lib.compareBytes, u8_lt, cb_refl xs]

theorem cb_three : ∀ a b : List UInt8, Lib.compareBytes a b = -1 ∨ Lib.compareBytes a b = 0 ∨ Lib.compareBytes a b = 1
  | [], [] => by simp [Lib.compareBytes]
  | [], _ :: _ => by simp [Lib.compareBytes]
  | _ :: _, [] => by simp [Lib.compareBytes]
  | a :: xs, b :: ys => by
    have := cb_three xs ys
    simp only [Lib.compareBytes]
    split
    · simp
    · split
      · simp
      · exact this

theorem cb_eq : ∀ a b : List UInt8, Lib.compareBytes a b = 0 → a = b
  | [], [], _ => rfl
  | [], _ :: _, h => by simp [Lib.compareBytes] at h
  | _ :: _, [], h => by simp [Lib.compareBytes] at h
  | a :: xs, b :: ys, h => by
    simp only [Lib.compareBytes] at h
    split at h
    · cases h
    · split at h
      · cases h
      · rename_i h1 h2
        rw [u8_lt] at h1 h2
        rw [cb_eq xs ys h, (u8_eq a b).2 (by omega)]

theorem cb_anti : ∀ a b : List UInt8, Lib.compareBytes b a = - Lib.compareBytes a b
  | [], [] => rfl
  | [], _ :: _ => rfl
  | _ :: _, [] => rfl
  | a :: xs, b :: ys => by
    have := cb_anti xs ys
    simp only [Lib.compareBytes, u8_lt]
    split
    · rw [if_neg (by omega)]
    · split
      · rfl
      · exact this

theorem cb_trans : ∀ a b c : List UInt8, Lib.compareBytes a b = -1 → Lib.compareBytes b c = -1 → Lib.compareBytes a c = -1
  | [], [], c, h, _ => by simp [Lib.compareBytes] at h
  | [], _ :: _, [], _, h => by simp [Lib.compareBytes] at h
  | [], _ :: _, _ :: _, _, _ => rfl
  | _ :: _, [], c, h, _ => by simp [Lib.compareBytes] at h
  | _ :: _, _ :: _, [], _, h => by simp [Lib.compareBytes] at h
  | a :: xs, b :: ys, c :: cs, h, k => by
    simp only [Lib.compareBytes, u8_lt] at h k ⊢
    by_cases h1 : a.toNat < b.toNat
    · by_cases k1 : b.toNat < c.toNat
      · rw [if_pos (by omega)]
      · rw [if_neg k1] at k
        by_cases k2 : c.toNat < b.toNat
        · rw [if_pos k2] at k; cases k
        · rw [if_pos (by omega)]
    · rw [if_neg h1] at h
      by_cases h2 : b.toNat < a.toNat
      · rw [if_pos h2] at h; cases h
      · rw [if_neg h2] at h
        by_cases k1 : b.toNat < c.toNat
        · rw [if_pos (by omega)]
        · rw [if_neg k1] at k
          by_cases k2 : c.toNat < b.toNat
          · rw [if_pos k2] at k; cases k
          · rw [if_neg k2] at k
            rw [if_neg (by omega), if_neg (by omega)]
            exact cb_trans xs ys cs h k

theorem cb_less : ∀ a b : List UInt8, Op.bytesLess a b = decide (Lib.compareBytes a b = -1)
  | [], [] => rfl
  | [], _ :: _ => rfl
  | _ :: _, [] => rfl
  | a :: xs, b :: ys => by
    rw [Op.bytesLess, cb_less xs ys]
    simp only [Lib.compareBytes, u8_lt]
    by_cases h1 : a.toNat < b.toNat
    · simp [h1]
    · by_cases h2 : b.toNat < a.toNat
      · have : ¬ a = b := by rw [u8_eq]; omega
        simp [h1, h2, this]
      · have : a = b := by rw [u8_eq]; omega
        simp [h1, h2, this]

def cmp (a b : ByteArray) : Int := Lib.compareBytes a.data.toList b.data.toList
def Lt (a b : ByteArray) : Prop := cmp a b = -1

theorem ba_eq {a b : ByteArray} (h : a.data.toList = b.data.toList) : a = b := by
  obtain ⟨⟨x⟩⟩ := a
  obtain ⟨⟨y⟩⟩ := b
  simpa using h

theorem cmp_three (a b : ByteArray) : cmp a b = -1 ∨ cmp a b = 0 ∨ cmp a b = 1 := cb_three _ _
theorem cmp_zero {a b : ByteArray} : cmp a b = 0 ↔ a = b := ⟨fun h => ba_eq (cb_eq _ _ h), fun h => by subst h; exact cb_refl _⟩
theorem cmp_one {a b : ByteArray} : cmp a b = 1 ↔ Lt b a := by
  have := cb_anti a.data.toList b.data.toList
  unfold Lt cmp at *
  omega
theorem Lt.trans {a b c : ByteArray} (h : Lt a b) (k : Lt b c) : Lt a c := cb_trans _ _ _ h k
theorem Lt.irrefl (a : ByteArray) : ¬ Lt a a := by
  intro h
  have : cmp a a = 0 := cmp_zero.2 rfl
  unfold Lt at h
  omega
theorem Lt.asymm {a b : ByteArray} (h : Lt a b) : ¬ Lt b a := fun k => Lt.irrefl a (h.trans k)
theorem Lt.ne {a b : ByteArray} (h : Lt a b) : a ≠ b := fun e => by subst e; exact Lt.irrefl a h
theorem Lt.tri (a b : ByteArray) : Lt a b ∨ a = b ∨ Lt b a := by
  rcases cmp_three a b with h | h | h
  · exact .inl h
  · exact .inr (.inl (cmp_zero.1 h))
  · exact .inr (.inr (cmp_one.1 h))
theorem less_iff (a b : ByteArray) : Op.bytesLess a.toList b.toList = true ↔ Lt a b := by
  rw [ByteArray.toList_eq, ByteArray.toList_eq, cb_less]
  simp [Lt, cmp]
theorem same_iff (a b : ByteArray) : (a.toList == b.toList) = true ↔ a = b := by
  rw [ByteArray.toList_eq, ByteArray.toList_eq]
  constructor
  · intro h; exact ba_eq (by simpa using h)
  · intro h; subst h; simp

/-! ### an entry, and rows of entries -/
structure Ent where
  key : ByteArray
  va : Option Addr
  vl : Nat
  vc : Nat
  rev : Int
  lease : Int

def Ent.cells (e : Ent) : List Value := [.string e.key, .slice e.va e.vl e.vc, .int .u64 e.rev, .int .u64 e.lease]
def flatE (l : List Ent) : List Value := l.flatMap Ent.cells

theorem flatE_nil : flatE [] = [] := rfl
theorem flatE_cons (e : Ent) (l : List Ent) : flatE (e :: l) = e.cells ++ flatE l := by simp [flatE]
theorem flatE_append (a b : List Ent) : flatE (a ++ b) = flatE a ++ flatE b := by simp [flatE]
theorem flatE_one (e : Ent) : flatE [e] = e.cells := by simp [flatE]
theorem flatE_length : ∀ l : List Ent, (flatE l).length = l.length * 4
  | [] => rfl
  | e :: l => by rw [flatE_cons, List.length_append, flatE_length l]; simp [Ent.cells]; omega
theorem flatE_take : ∀ (l : List Ent) (i : Nat), (flatE l).take (i * 4) = flatE (l.take i)
  | [], i => by simp [flatE]
  | e :: l, 0 => by simp [flatE]
  | e :: l, i + 1 => by
    rw [flatE_cons, List.take_succ_cons, flatE_cons, ← flatE_take l i, Nat.add_mul]
    show (e.cells ++ flatE l).take (i * 4 + 4) = _
    rw [List.take_append, List.take_of_length_le (by simp [Ent.cells]), show i * 4 + 4 - e.cells.length = i * 4 by simp [Ent.cells]]
theorem flatE_drop : ∀ (l : List Ent) (i : Nat), (flatE l).drop (i * 4) = flatE (l.drop i)
  | [], i => by simp [flatE]
  | e :: l, 0 => by simp
  | e :: l, i + 1 => by
    rw [flatE_cons, List.drop_succ_cons, ← flatE_drop l i, Nat.add_mul]
    show (e.cells ++ flatE l).drop (i * 4 + 4) = _
    rw [List.drop_append, List.drop_of_length_le (by simp [Ent.cells]), show i * 4 + 4 - e.cells.length = i * 4 by simp [Ent.cells], List.nil_append]
theorem flatE_one1 : ∀ (l : List Ent), ∀ u ∈ flatE l, u.oneCell' = true := by
  intro l u hu
  simp only [flatE, List.mem_flatMap] at hu
  obtain ⟨e, _, hu⟩ := hu
  simp only [Ent.cells, List.mem_cons, List.not_mem_nil, or_false] at hu
  rcases hu with rfl | rfl | rfl | rfl <;> rfl
theorem cells_one1 (e : Ent) : ∀ u ∈ e.cells, u.oneCell' = true := by
  have := flatE_one1 [e]
  rwa [flatE_one] at this
theorem flatE_get {l : List Ent} {i : Nat} {e : Ent} (h : l[i]? = some e) (r : Nat) (hr : r < 4) : (flatE l)[i * 4 + r]? = e.cells[r]? := by
  have h1 : (flatE l).drop (i * 4) = flatE (l.drop i) := flatE_drop l i
  have h2 : l.drop i = e :: l.drop (i + 1) := by
    obtain ⟨hi, he⟩ := List.getElem?_eq_some_iff.1 h
    rw [← he]; exact List.drop_eq_getElem_cons hi
  rw [← List.getElem?_drop, h1, h2, flatE_cons, List.getElem?_append_left (by simp [Ent.cells]; omega)]

/-- a run of entries in a slice: the slice 'v' owns the entries 'l' -/
abbrev OwnE (w : World) (t : TypeId) (v : Value) (l : List Ent) : Prop := w.ownsRow 0 t 4 v l.length (flatE l)

theorem OwnE.form {w : World} {t : TypeId} {v : Value} {l : List Ent} (h : OwnE w t v l) : (v = .slice none 0 0 ∧ l = []) ∨ ∃ g cap, v = .slice (some ⟨g, 0, none⟩) l.length cap ∧ g < w.heap.size ∧ l.length ≤ cap ∧ cap ≤ maxLen := by
  rcases h.2 with ⟨h1, h2⟩ | ⟨g, cap, cur, hv, _, hg, hnc, hcm, _⟩
  · exact .inl ⟨h1, List.eq_nil_of_length_eq_zero h2⟩
  · exact .inr ⟨g, cap, hv, (Array.getElem?_eq_some_iff.1 hg).1, hnc, hcm⟩

theorem OwnE.cell {w : World} {t : TypeId} {g n cap : Nat} {l : List Ent} (h : OwnE w t (.slice (some ⟨g, 0, none⟩) n cap) l) (hn : n = l.length) {i : Nat} {e : Ent} (hi : l[i]? = some e) :
    w.cell? ⟨g, i * 4, none⟩ = some (.string e.key) ∧ w.cell? ⟨g, i * 4 + 1, none⟩ = some (.slice e.va e.vl e.vc) ∧ w.cell? ⟨g, i * 4 + 2, none⟩ = some (.int .u64 e.rev) ∧ w.cell? ⟨g, i * 4 + 3, none⟩ = some (.int .u64 e.lease) := by
  subst hn
  have hlt : i < l.length := (List.getElem?_eq_some_iff.1 hi).1
  refine ⟨?_, ?_, ?_, ?_⟩
  · have := h.cellAt (i * 4 + 0) (by omega)
    rw [flatE_get hi 0 (by omega)] at this
    simpa [Ent.cells] using this
  · have := h.cellAt (i * 4 + 1) (by omega)
    rw [flatE_get hi 1 (by omega)] at this
    simpa [Ent.cells] using this
  · have := h.cellAt (i * 4 + 2) (by omega)
    rw [flatE_get hi 2 (by omega)] at this
    simpa [Ent.cells] using this
  · have := h.cellAt (i * 4 + 3) (by omega)
    rw [flatE_get hi 3 (by omega)] at this
    simpa [Ent.cells] using this

/-! ### sorted lists -/
def Sorted (l : List Ent) : Prop := l.Pairwise fun a b => Lt a.key b.key

theorem Sorted.left {a b : List Ent} (h : Sorted (a ++ b)) : Sorted a := (List.pairwise_append.1 h).1
theorem Sorted.right {a b : List Ent} (h : Sorted (a ++ b)) : Sorted b := (List.pairwise_append.1 h).2.1
theorem Sorted.cross {a b : List Ent} (h : Sorted (a ++ b)) {x y : Ent} (hx : x ∈ a) (hy : y ∈ b) : Lt x.key y.key := (List.pairwise_append.1 h).2.2 x hx y hy

def ltb (a b : ByteArray) : Bool := decide (cmp a b = -1)
theorem ltb_iff {a b : ByteArray} : ltb a b = true ↔ Lt a b := by simp [ltb, Lt]

/-- the sorted list with e put in at its key -/
def insertL (e : Ent) (l : List Ent) : List Ent := l.filter (fun x => ltb x.key e.key) ++ e :: l.filter (fun x => ltb e.key x.key)

def Has (k : ByteArray) (l : List Ent) : Prop := ∃ x ∈ l, x.key = k

theorem filter_lt_all {k : ByteArray} {l : List Ent} (h : ∀ x ∈ l, Lt x.key k) : l.filter (fun x => ltb x.key k) = l := List.filter_eq_self.2 fun x hx => ltb_iff.2 (h x hx)
theorem filter_lt_none {k : ByteArray} {l : List Ent} (h : ∀ x ∈ l, ¬ Lt x.key k) : l.filter (fun x => ltb x.key k) = [] := List.filter_eq_nil_iff.2 fun x hx e => h x hx (ltb_iff.1 e)
theorem filter_gt_all {k : ByteArray} {l : List Ent} (h : ∀ x ∈ l, Lt k x.key) : l.filter (fun x => ltb k x.key) = l := List.filter_eq_self.2 fun x hx => ltb_iff.2 (h x hx)
theorem filter_gt_none {k : ByteArray} {l : List Ent} (h : ∀ x ∈ l, ¬ Lt k x.key) : l.filter (fun x => ltb k x.key) = [] := List.filter_eq_nil_iff.2 fun x hx e => h x hx (ltb_iff.1 e)

theorem insertL_mid {e : Ent} {a m b : List Ent} (ha : ∀ x ∈ a, Lt x.key e.key) (hb : ∀ x ∈ b, Lt e.key x.key) : insertL e (a ++ m ++ b) = a ++ insertL e m ++ b := by
  unfold insertL
  simp only [List.filter_append]
  rw [filter_lt_all ha, filter_lt_none (l := b) (fun x hx => (hb x hx).asymm), filter_gt_none (l := a) (fun x hx => (ha x hx).asymm), filter_gt_all hb]
  simp

theorem insertL_nil (e : Ent) : insertL e [] = [e] := by simp [insertL]
theorem insertL_one {e x : Ent} (h : x.key = e.key) : insertL e [x] = [e] := by
  unfold insertL
  rw [filter_lt_none (fun y hy => by simp at hy; subst hy; rw [h]; exact Lt.irrefl _), filter_gt_none (fun y hy => by simp at hy; subst hy; rw [h]; exact Lt.irrefl _)]
  rfl

theorem Has.mid {k : ByteArray} {a m b : List Ent} (ha : ∀ x ∈ a, Lt x.key k) (hb : ∀ x ∈ b, Lt k x.key) : Has k (a ++ m ++ b) ↔ Has k m := by
  constructor
  · rintro ⟨x, hx, e⟩
    simp only [List.mem_append] at hx
    rcases hx with (h | h) | h
    · exact absurd e (ha x h).ne
    · exact ⟨x, h, e⟩
    · exact absurd e.symm (hb x h).ne
  · rintro ⟨x, hx, e⟩
    exact ⟨x, by simp [hx], e⟩

theorem insertL_mem {e x : Ent} {l : List Ent} (h : x ∈ insertL e l) : x = e ∨ x ∈ l := by
  unfold insertL at h
  simp only [List.mem_append, List.mem_cons, List.mem_filter] at h
  rcases h with h | h | h
  · exact .inr h.1
  · exact .inl h
  · exact .inr h.1

theorem insertL_sorted {e : Ent} {l : List Ent} (h : Sorted l) : Sorted (insertL e l) := by
  unfold insertL Sorted
  refine List.pairwise_append.2 ⟨h.filter _, List.pairwise_cons.2 ⟨?_, h.filter _⟩, ?_⟩
  · intro x hx
    exact ltb_iff.1 (List.mem_filter.1 hx).2
  · intro x hx y hy
    have h1 : Lt x.key e.key := ltb_iff.1 (List.mem_filter.1 hx).2
    rcases List.mem_cons.1 hy with rfl | hy
    · exact h1
    · exact h1.trans (ltb_iff.1 (List.mem_filter.1 hy).2)

end Go.Proofs.Qxb6601706a
