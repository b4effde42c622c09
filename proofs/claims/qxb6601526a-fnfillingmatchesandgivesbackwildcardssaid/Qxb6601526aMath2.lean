import Derived.Test.Qxb6601526aMath
namespace Go.Proofs.Qxb6601526a

def star (p : ByteArray) : Bool := p.toList == [42]

def stars (ps : List ByteArray) : Nat := (ps.filter star).length

/-- a pattern written out: each star takes the next of ws -/
def fillL : List ByteArray → List ByteArray → List ByteArray
  | [], _ => []
  | p :: ps, ws => bif star p then ws.headD ByteArray.empty :: fillL ps ws.tail else p :: fillL ps ws

theorem fillL_len : ∀ (ps ws : List ByteArray), (fillL ps ws).length = ps.length
  | [], _ => rfl
  | p :: ps, ws => by
    rw [fillL]
    cases star p
    · rw [cond_false, List.length_cons, fillL_len ps ws, List.length_cons]
    · rw [cond_true, List.length_cons, fillL_len ps ws.tail, List.length_cons]

theorem stars_cons (p : ByteArray) (ps : List ByteArray) : stars (p :: ps) = (bif star p then 1 else 0) + stars ps := by
  unfold stars
  rw [List.filter_cons]
  cases star p <;> simp
  omega

theorem stars_take_le (ps : List ByteArray) (n : Nat) : stars (ps.take n) ≤ n := by
  unfold stars
  have := List.length_filter_le star (ps.take n)
  have h2 : (ps.take n).length ≤ n := List.length_take_le n ps
  omega

theorem stars_snoc (ps : List ByteArray) (n : Nat) (h : n < ps.length) : stars (ps.take (n + 1)) = stars (ps.take n) + bif star (ps.getD n ByteArray.empty) then 1 else 0 := by
  rw [List.take_succ_eq_append_getElem h]
  unfold stars
  rw [List.filter_append, List.length_append]
  congr 1
  rw [List.getD_eq_getElem?_getD, List.getElem?_eq_getElem h, Option.getD_some, List.filter_cons]
  cases star ps[n] <;> simp

theorem fillL_at : ∀ (ps ws : List ByteArray) (n : Nat), n < ps.length →
    (fillL ps ws)[n]? = some (bif star (ps.getD n ByteArray.empty) then ws.getD (stars (ps.take n)) ByteArray.empty else ps.getD n ByteArray.empty)
  | [], _, _, h => by simp at h
  | p :: ps, ws, 0, _ => by
    rw [fillL]
    cases hp : star p <;> simp [hp, stars, List.getD, List.headD_eq_head?_getD, List.head?_eq_getElem?]
  | p :: ps, ws, n + 1, h => by
    have h' : n < ps.length := by simpa using h
    rw [fillL]
    cases hp : star p
    · rw [cond_false, List.getElem?_cons_succ, fillL_at ps ws n h', List.take_succ_cons, stars_cons, hp, cond_false, Nat.zero_add, List.getD_cons_succ]
    · rw [cond_true, List.getElem?_cons_succ, fillL_at ps ws.tail n h', List.take_succ_cons, stars_cons, hp, cond_true, List.getD_cons_succ]
      congr 1
      cases star (ps.getD n ByteArray.empty)
      · rfl
      · rw [cond_true, cond_true, Nat.add_comm]
        cases ws <;> simp [List.getD]

theorem fillL_snoc (ps ws : List ByteArray) (n : Nat) (h : n < ps.length) :
    (fillL ps ws).take (n + 1) = (fillL ps ws).take n ++ [bif star (ps.getD n ByteArray.empty) then ws.getD (stars (ps.take n)) ByteArray.empty else ps.getD n ByteArray.empty] := by
  have hl : n < (fillL ps ws).length := by rw [fillL_len]; exact h
  rw [List.take_succ_eq_append_getElem hl]
  have := fillL_at ps ws n h
  rw [List.getElem?_eq_getElem hl] at this
  rw [Option.some.inj this]

def wildL : List ByteArray → List ByteArray → List ByteArray
  | [], _ => []
  | _ :: _, [] => []
  | p :: ps, s :: ss => bif star p then s :: wildL ps ss else wildL ps ss

def ne (s : ByteArray) : Bool := !s.toList.isEmpty

theorem ok1_eq (p s : ByteArray) : ok1 p s = bif star p then ne s else p.toList == s.toList := rfl

theorem fill_match : ∀ (ps : List ByteArray) (rest : Bool) (ws tail : List ByteArray), ws.length = stars ps →
    matchB ps rest (fillL ps ws ++ bif rest then tail else []) = ws.all ne
  | [], rest, ws, tail, h => by
    have : ws = [] := List.eq_nil_of_length_eq_zero h
    subst this
    cases rest <;> simp [fillL, matchB]
  | p :: ps, rest, ws, tail, h => by
    rw [stars_cons] at h
    rw [fillL]
    cases hp : star p
    · rw [hp, cond_false, Nat.zero_add] at h
      rw [cond_false, List.cons_append, matchB, fill_match ps rest ws tail h, ok1_eq, hp, cond_false]
      simp
    · rw [hp, cond_true] at h
      rw [cond_true, List.cons_append, matchB, ok1_eq, hp, cond_true]
      cases ws with
      | nil => simp at h; omega
      | cons x ws =>
        rw [List.tail_cons, fill_match ps rest ws tail (by simp at h; omega)]
        simp

theorem fill_wild : ∀ (ps : List ByteArray) (ws tl : List ByteArray), ws.length = stars ps → wildL ps (fillL ps ws ++ tl) = ws
  | [], ws, tl, h => by
    have : ws = [] := List.eq_nil_of_length_eq_zero h
    subst this; rfl
  | p :: ps, ws, tl, h => by
    rw [stars_cons] at h
    rw [fillL]
    cases hp : star p
    · rw [hp, cond_false, Nat.zero_add] at h
      rw [cond_false, List.cons_append, wildL, hp, cond_false, fill_wild ps ws tl h]
    · rw [hp, cond_true] at h
      cases ws with
      | nil => simp at h; omega
      | cons x ws =>
        rw [cond_true, List.cons_append, wildL, hp, cond_true, List.tail_cons, fill_wild ps ws tl (by simp at h; omega)]
        rfl

end Go.Proofs.Qxb6601526a
