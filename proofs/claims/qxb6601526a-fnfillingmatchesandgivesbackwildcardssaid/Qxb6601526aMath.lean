/-
  THE PLAIN LAW of the pattern: no Go in sight.
-/
namespace Go.Proofs.Qxb6601526a

/-- one segment of a pattern against one of a path -/
def ok1 (p s : ByteArray) : Bool := bif p.toList == [42] then !s.toList.isEmpty else p.toList == s.toList

def matchB : List ByteArray → Bool → List ByteArray → Bool
  | [], rest, ss => rest || ss.isEmpty
  | _ :: _, _, [] => false
  | p :: ps, rest, s :: ss => ok1 p s && matchB ps rest ss

theorem drop_cons (l : List ByteArray) (k : Nat) (h : k < l.length) : l.drop k = l.getD k ByteArray.empty :: l.drop (k + 1) := by
  rw [List.drop_eq_getElem_cons h]; simp [List.getD, h]

theorem matchB_short : ∀ (ps : List ByteArray) (rest : Bool) (ss : List ByteArray), ss.length < ps.length → matchB ps rest ss = false
  | [], _, _, h => by simp at h
  | _ :: _, _, [], _ => rfl
  | p :: ps, rest, s :: ss, h => by
    rw [matchB, matchB_short ps rest ss (by simpa using h), Bool.and_false]

theorem matchB_long : ∀ (ps ss : List ByteArray), ss.length ≠ ps.length → matchB ps false ss = false
  | [], [], h => by simp at h
  | [], _ :: _, _ => rfl
  | _ :: _, [], _ => rfl
  | p :: ps, s :: ss, h => by
    rw [matchB, matchB_long ps ss (by simpa using h), Bool.and_false]

theorem matchB_step (ps : List ByteArray) (rest : Bool) (ss : List ByteArray) (t s : Nat) (ht : t < ps.length) (hs : s < ss.length) :
    matchB (ps.drop t) rest (ss.drop s) = (ok1 (ps.getD t ByteArray.empty) (ss.getD s ByteArray.empty) && matchB (ps.drop (t + 1)) rest (ss.drop (s + 1))) := by
  rw [drop_cons ps t ht, drop_cons ss s hs, matchB]

theorem matchB_end (ps : List ByteArray) (rest : Bool) (ss : List ByteArray) (t s : Nat) (ht : t < ps.length) (hs : ss.length ≤ s) :
    matchB (ps.drop t) rest (ss.drop s) = false := by
  rw [drop_cons ps t ht, List.drop_of_length_le hs, matchB]

theorem matchB_tail (ps : List ByteArray) (rest : Bool) (ss : List ByteArray) (t s : Nat) (ht : ps.length ≤ t) :
    matchB (ps.drop t) rest (ss.drop s) = (rest || decide (ss.length ≤ s)) := by
  rw [List.drop_of_length_le ht, matchB]
  congr 1
  rw [Bool.eq_iff_iff]
  simp

end Go.Proofs.Qxb6601526a
