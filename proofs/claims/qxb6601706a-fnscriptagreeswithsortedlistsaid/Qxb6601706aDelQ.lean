import Derived.Test.Qxb6601706aDelP
namespace Go.Proofs.Qxb6601706a
open Go.RowKit
set_option linter.unusedVariables false
set_option linter.unusedSimpArgs false

theorem parts_at (g b : Nat) (rv kv : Value) (r1 r2 : List Ent) (k1 k2 : List Kid) (c : Kid) : parts (g + 1) b rv kv (r1 ++ r2) (k1 ++ c :: k2) = NodeAt g b rv kv r1 r2 k1 c k2 := by
  rw [parts_eq, trees_append, trees_cons]; rfl

section
variable {RR : Bool → World → Prop} {key : ByteArray} {g b : Nat} {wr w1 : World} {o : List Nat} {rv kv rv' kv' : Value} {r1 r2 : List Ent} {x e : Ent} {k1 k2 : List Kid} {l r : Kid}

theorem del_weave (hk1 : k1.length = r1.length) (hs : Sorted (weave (k1 ++ l :: r :: k2) (r1 ++ x :: r2))) (hx : x.key = key) :
    deleteL key (weave (k1 ++ l :: r :: k2) (r1 ++ x :: r2)) = L k1 r1 ++ ((l.fl ++ r.fl) ++ R r2 k2) ∧ Has key (weave (k1 ++ l :: r :: k2) (r1 ++ x :: r2)) := by
  rw [weave_two hk1] at hs ⊢
  have e1 : L k1 r1 ++ (l.fl ++ x :: r.fl ++ R r2 k2) = (L k1 r1 ++ l.fl) ++ x :: (r.fl ++ R r2 k2) := by simp
  rw [e1] at hs ⊢
  refine ⟨?_, x, by simp, hx⟩
  rw [deleteL_one hs hx]
  simp

/-- the record before the key takes its place -/
theorem DelInv.left (S : St wr (bl (parts (g + 1) b rv kv (r1 ++ x :: r2) (k1 ++ l :: r :: k2))) w1 (parts (g + 1) b rv kv (r1 ++ e :: r2) (k1 ++ l :: r :: k2)))
    (hk1 : k1.length = r1.length) (hk2 : k2.length = r2.length) (h32 : 32 ≤ l.r) (hm : ∀ c ∈ k1 ++ l :: r :: k2, 31 ≤ c.r) (h63 : (r1 ++ x :: r2).length ≤ 63) (hs : Sorted (weave (k1 ++ l :: r :: k2) (r1 ++ x :: r2))) (hx : x.key = key) {p : List Ent} (he : l.fl = p ++ [e])
    (fin : ∀ ok w', DelStep key wr (g + 1) b rv kv (r1 ++ x :: r2) (k1 ++ l :: r :: k2) ok w' → RR ok w') : DelInv RR e.key g l.b w1 := by
  obtain ⟨d1, d2⟩ := del_weave hk1 hs hx
  rw [weave_two hk1] at hs
  have hsl : Sorted l.fl := hs.right.left.left
  have hde : deleteL e.key l.fl = p := by
    rw [he] at hsl ⊢
    rw [deleteL_one hsl rfl]; simp
  rw [parts_at g b rv kv r1 (e :: r2)] at S
  refine DelInv.down S hk1 (by simp [hk2]) h32 hm (by simpa using h63) hsl ?_
  intro ok w' c' T t1 t2 t3 t4
  refine fin ok w' ⟨c', T, t1, ?_, by rw [t3]; simp, ?_⟩
  · rw [d1, t2, hde, he]; simp [R]
  · rw [t4]
    exact ⟨fun _ => d2, fun _ => ⟨e, by rw [he]; simp, rfl⟩⟩

/-- the record behind the key takes its place -/
theorem DelInv.right (S : St wr (bl (parts (g + 1) b rv kv (r1 ++ x :: r2) (k1 ++ l :: r :: k2))) w1 (parts (g + 1) b rv kv (r1 ++ e :: r2) (k1 ++ l :: r :: k2)))
    (hk1 : k1.length = r1.length) (hk2 : k2.length = r2.length) (h32 : 32 ≤ r.r) (hm : ∀ c ∈ k1 ++ l :: r :: k2, 31 ≤ c.r) (h63 : (r1 ++ x :: r2).length ≤ 63) (hs : Sorted (weave (k1 ++ l :: r :: k2) (r1 ++ x :: r2))) (hx : x.key = key) {p : List Ent} (he : r.fl = e :: p)
    (fin : ∀ ok w', DelStep key wr (g + 1) b rv kv (r1 ++ x :: r2) (k1 ++ l :: r :: k2) ok w' → RR ok w') : DelInv RR e.key g r.b w1 := by
  obtain ⟨d1, d2⟩ := del_weave hk1 hs hx
  rw [weave_two hk1] at hs
  have hsr : Sorted r.fl := (List.pairwise_cons.1 hs.right.left.right).2
  have hde : deleteL e.key r.fl = p := by
    rw [he] at hsr ⊢
    exact deleteL_one (a := []) hsr rfl
  have hpa := parts_at g b rv kv (r1 ++ [e]) r2 (k1 ++ [l]) k2 r
  rw [show r1 ++ [e] ++ r2 = r1 ++ e :: r2 by simp, show k1 ++ [l] ++ r :: k2 = k1 ++ l :: r :: k2 by simp] at hpa
  rw [hpa] at S
  refine DelInv.down S (by simp [hk1]) hk2 h32 (by rw [show k1 ++ [l] ++ r :: k2 = k1 ++ l :: r :: k2 by simp]; exact hm) (by simpa using h63) hsr ?_
  intro ok w' c' T t1 t2 t3 t4
  refine fin ok w' ⟨c', T, t1, ?_, by rw [t3]; simp, ?_⟩
  · rw [d1, t2, hde, he, L_append k1 r1 [l] [e] hk1]; simp [L]
  · rw [t4]
    exact ⟨fun _ => d2, fun _ => ⟨e, by rw [he]; simp, rfl⟩⟩

/-- both children and the key's record make one node -/
theorem DelInv.merged {lrs rrs : List Ent} {lks rks : List Kid} {kg : Nat} {en : Ending} (S : MergeSays wr (bl (parts (g + 1) b rv kv (r1 ++ x :: r2) (k1 ++ l :: r :: k2))) kg b l.b r1 r2 lrs rrs x k1 l k2 lks rks (trees (g - 1) lks ++ (trees (g - 1) rks ++ (trees g k1 ++ trees g k2))) en w1)
    (hk1 : k1.length = r1.length) (hk2 : k2.length = r2.length) (hm : ∀ c ∈ k1 ++ l :: r :: k2, 31 ≤ c.r) (h63 : (r1 ++ x :: r2).length ≤ 63) (hs : Sorted (weave (k1 ++ l :: r :: k2) (r1 ++ x :: r2))) (hx : x.key = key)
    (hl : lrs.length = 31) (hr : rrs.length = 31) (hlf : l.fl = weave lks lrs) (hrf : r.fl = weave rks rrs) (b4 : KLen g lks lrs) (a4 : KLen g rks rrs) (b5 : ∀ c ∈ lks, 31 ≤ c.r) (a5 : ∀ c ∈ rks, 31 ≤ c.r)
    (fin : ∀ ok w', DelStep key wr (g + 1) b rv kv (r1 ++ x :: r2) (k1 ++ l :: r :: k2) ok w' → RR ok w') : en = .returned (.tuple #[]) ∧ DelInv RR key g l.b w1 := by
  obtain ⟨rv', kv', crv', ckv', he, hkv', S'⟩ := S
  refine ⟨he, ?_⟩
  have S'' : St wr (bl (parts (g + 1) b rv kv (r1 ++ x :: r2) (k1 ++ l :: r :: k2))) w1 (head3 b rv' kv' (r1 ++ r2) (k1 ++ l :: k2) ++ (head3 l.b crv' ckv' (lrs ++ x :: rrs) (lks ++ rks) ++ (trees (g - 1) (lks ++ rks) ++ (trees g k1 ++ trees g k2)))) := by
    rw [trees_append, List.append_assoc]; exact S'
  have kl : KLen g (lks ++ rks) (lrs ++ x :: rrs) := by
    rcases klen_cases b4 a4 with ⟨h0, h0'⟩ | ⟨h0, h0'⟩
    · exact klen_of b4 (fun _ => by rw [h0, h0']; rfl) (fun h2 => by rw [h0] at h2; simp at h2)
    · exact klen_of b4 (fun h2 => by rw [h2] at h0; simp at h0) (fun _ => by simp; omega)
  obtain ⟨m', S3, t1, t2, t3⟩ := shut1 S'' (by simp; omega) kl (fun z hz => by rcases List.mem_append.1 hz with hz | hz; exact b5 z hz; exact a5 z hz)
  have hpt : ptrs (k1 ++ l :: k2) = ptrs (k1 ++ m' :: k2) := by simp [ptrs, t1]
  have S4 : St wr (bl (parts (g + 1) b rv kv (r1 ++ x :: r2) (k1 ++ l :: r :: k2))) w1 (NodeAt g b rv' kv' r1 r2 k1 m' k2) := by
    refine St.perm ?_ (nodeAt_one g b rv' kv' r1 r2 k1 m' k2).symm
    have e1 : head3 b rv' kv' (r1 ++ r2) (k1 ++ l :: k2) = head3 b rv' kv' (r1 ++ r2) (k1 ++ m' :: k2) := by
      unfold head3
      rw [rowN_same hpt]
    rw [← e1]
    exact S3
  have hfl : m'.fl = l.fl ++ x :: r.fl := by
    rw [t3, hlf, hrf]
    refine weave_cut lks rks lrs rrs x ?_
    rcases klen_cases b4 a4 with ⟨h0, h0'⟩ | ⟨h0, h0'⟩
    · exact .inl ⟨h0, h0'⟩
    · exact .inr ⟨h0, fun e => by rw [e] at h0'; simp at h0'⟩
  rw [← t1]
  have hlen : r1.length + r2.length + 1 ≤ 63 := by simp at h63; omega
  obtain ⟨d1, d2⟩ := del_weave hk1 hs hx
  rw [weave_two hk1] at hs
  have hsm := hs.right.left
  refine DelInv.down S4 hk1 hk2 (by rw [t2]; simp; omega) ?_ (by simp; omega) (by rw [hfl]; exact hsm) ?_
  · intro z hz
    simp only [List.mem_append, List.mem_cons] at hz
    rcases hz with hz | rfl | hz
    · exact hm z (by simp [hz])
    · rw [t2]; simp; omega
    · exact hm z (by simp [hz])
  · intro ok w' c' T u1 u2 u3 u4
    refine fin ok w' ⟨c', T, u1, ?_, by rw [u3]; simp; omega, ?_⟩
    · rw [d1, u2, hfl, deleteL_one hsm hx]
    · rw [u4, hfl]
      exact ⟨fun _ => d2, fun _ => ⟨x, by simp, hx⟩⟩

end
end Go.Proofs.Qxb6601706a
