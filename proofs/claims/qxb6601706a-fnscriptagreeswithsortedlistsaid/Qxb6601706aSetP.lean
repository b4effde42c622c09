import Derived.Test.Qxb6601706aSplit
namespace Go.Proofs.Qxb6601706a
open Go.RowKit
set_option linter.unusedVariables false
set_option linter.unusedSimpArgs false

/-! ### the order in a node -/
theorem L_below : ∀ (ks : List Kid) (rs : List Ent) (T : List Ent), Sorted (L ks rs ++ T) → ∀ x ∈ L ks rs, ∃ r ∈ rs, x = r ∨ Lt x.key r.key
  | [], rs, T, _, x, hx => by simp [L] at hx
  | k :: ks, [], T, _, x, hx => by simp [L] at hx
  | k :: ks, r :: rs, T, hs, x, hx => by
    simp only [L, List.append_assoc, List.cons_append] at hs hx
    rcases List.mem_append.1 hx with h | h
    · exact ⟨r, by simp, .inr (hs.cross h (by simp))⟩
    · rcases List.mem_cons.1 h with rfl | h
      · exact ⟨x, by simp, .inl rfl⟩
      · obtain ⟨r', h1, h2⟩ := L_below ks rs T (by have := hs.right; exact (List.pairwise_cons.1 this).2) x h
        exact ⟨r', by simp [h1], h2⟩
theorem R_above : ∀ (rs : List Ent) (ks : List Kid) (T : List Ent), Sorted (T ++ R rs ks) → ∀ x ∈ R rs ks, ∃ r ∈ rs, x = r ∨ Lt r.key x.key
  | [], ks, T, _, x, hx => by simp [R] at hx
  | r :: rs, [], T, _, x, hx => by simp [R] at hx
  | r :: rs, k :: ks, T, hs, x, hx => by
    simp only [R] at hs hx
    rcases List.mem_cons.1 hx with rfl | h
    · exact ⟨x, by simp, .inl rfl⟩
    · rcases List.mem_append.1 h with h' | h'
      · exact ⟨r, by simp, .inr ((List.pairwise_cons.1 hs.right).1 x h)⟩
      · obtain ⟨r', h1, h2⟩ := R_above rs ks (T ++ r :: k.fl) (by simpa using hs) x h'
        exact ⟨r', by simp [h1], h2⟩

/-- around a record of a node the rest stands still -/
theorem weave_at : ∀ (ks : List Kid) (rs1 rs2 : List Ent), (ks = [] ∨ ks.length = rs1.length + rs2.length + 2) → ∃ P Q, ∀ y, weave ks (rs1 ++ y :: rs2) = P ++ y :: Q
  | [], rs1, rs2, _ => ⟨rs1, rs2, fun y => rfl⟩
  | k :: ks, rs1, rs2, h => by
    have hl : ks.length = rs1.length + rs2.length + 1 := by simpa using h
    refine ⟨k.fl ++ R rs1 (ks.take rs1.length), (match ks.drop rs1.length with | [] => [] | k2 :: t => k2.fl ++ R rs2 t), fun y => ?_⟩
    have e : ks = ks.take rs1.length ++ ks.drop rs1.length := (List.take_append_drop _ _).symm
    cases hd : ks.drop rs1.length with
    | nil => rw [List.drop_eq_nil_iff] at hd; omega
    | cons k2 t =>
      show k.fl ++ R (rs1 ++ y :: rs2) ks = _
      conv => lhs; rw [e, hd]
      rw [R_append _ _ _ _ (by simp; omega)]
      simp [R]

theorem rs_apart {rs : List Ent} {key : ByteArray} {i : Nat} (hi : i ≤ rs.length) (h1 : ∀ j x, j < i → rs[j]? = some x → Lt x.key key) (h2 : ∀ j x, i ≤ j → rs[j]? = some x → ¬ Lt x.key key) :
    (∀ x ∈ rs.take i, Lt x.key key) ∧ (∀ x ∈ rs.drop i, ¬ Lt x.key key) := by
  constructor
  · intro x hx
    obtain ⟨j, hj⟩ := List.mem_iff_getElem?.1 hx
    rw [List.getElem?_take] at hj
    split at hj
    · exact h1 j x (by assumption) hj
    · cases hj
  · intro x hx
    obtain ⟨j, hj⟩ := List.mem_iff_getElem?.1 hx
    rw [List.getElem?_drop] at hj
    exact h2 (i + j) x (by omega) hj

/-! ### the invariant of set -/
abbrev EObj (e : Ent) : Obj := .cells #[.string e.key, .slice e.va e.vl e.vc, .int .u64 e.rev, .int .u64 e.lease] 52

def SetStep (e : Ent) (eb : Nat) (wr : World) (hc b : Nat) (rv kv : Value) (rs : List Ent) (ks : List Kid) (ok : Bool) (w' : World) : Prop :=
  ∃ c' : Kid, St wr (bl (Res.at eb (EObj e) :: parts hc b rv kv rs ks)) w' [Res.at eb (EObj e), Res.tree hc c'] ∧ c'.b = b ∧ c'.fl = insertL e (weave ks rs) ∧ rs.length ≤ c'.r ∧ (hc ≠ 0 → 1 ≤ c'.r) ∧ (ok = true ↔ ¬ Has e.key (weave ks rs))

def SetInv (RR : Bool → World → Prop) (e : Ent) (eb hc b : Nat) (wr : World) : Prop :=
  ∃ rs ks rv kv, Holds wr (Res.at eb (EObj e) :: parts hc b rv kv rs ks) ∧ rs.length < 63 ∧ KLen hc ks rs ∧ (∀ c ∈ ks, 31 ≤ c.r) ∧ (hc ≠ 0 → rs = [] → ∀ c ∈ ks, c.r = 63) ∧ Sorted (weave ks rs) ∧
    ∀ ok w', SetStep e eb wr hc b rv kv rs ks ok w' → RR ok w'

def trees (h : Nat) (ks : List Kid) : List Res := ks.map (Res.tree h)

theorem rowN_same {v : Value} {ks ks' : List Kid} (h : ptrs ks = ptrs ks') : Res.rowN v ks = Res.rowN v ks' := by
  have hl : ks.length = ks'.length := by have := congrArg List.length h; simpa [ptrs] using this
  unfold Res.rowN OwnN
  congr 1
  funext w
  rw [h, hl]

/-- the key stands neither left nor right of child c -/
theorem key_mid {e : Ent} {ks1 ks2 : List Kid} {rs1 rs2 : List Ent} {M : List Ent} (hs : Sorted (L ks1 rs1 ++ (M ++ R rs2 ks2))) (h1 : ∀ x ∈ rs1, Lt x.key e.key) (h2 : ∀ x ∈ rs2, Lt e.key x.key) :
    (∀ x ∈ L ks1 rs1, Lt x.key e.key) ∧ (∀ x ∈ R rs2 ks2, Lt e.key x.key) := by
  constructor
  · intro x hx
    obtain ⟨r, hr, hx'⟩ := L_below ks1 rs1 _ hs x hx
    rcases hx' with rfl | hlt
    · exact h1 x hr
    · exact hlt.trans (h1 r hr)
  · intro x hx
    obtain ⟨r, hr, hx'⟩ := R_above rs2 ks2 (L ks1 rs1 ++ M) (by simpa using hs) x hx
    rcases hx' with rfl | hlt
    · exact h2 x hr
    · exact (h2 r hr).trans hlt

/-- one step down -/
theorem SetInv.down {RR : Bool → World → Prop} {e : Ent} {eb hc b : Nat} {w0 w1 : World} {o : List Nat} {rv kv : Value} {rs1 rs2 : List Ent} {ks' ks1 ks2 : List Kid} {c : Kid}
    (S : St w0 o w1 (Res.at eb (EObj e) :: Res.tree hc c :: Res.node b rv kv :: Res.rowE rv (rs1 ++ rs2) :: Res.rowN kv ks' :: (trees hc ks1 ++ trees hc ks2)))
    (hk' : ptrs ks' = ptrs (ks1 ++ c :: ks2)) (hl1 : ks1.length = rs1.length) (hl2 : ks2.length = rs2.length) (hr : c.r < 63) (hr31 : 31 ≤ c.r) (hm1 : ∀ x ∈ ks1, 31 ≤ x.r) (hm2 : ∀ x ∈ ks2, 31 ≤ x.r) (h63 : (rs1 ++ rs2).length ≤ 63)
    (hs : Sorted (weave (ks1 ++ c :: ks2) (rs1 ++ rs2))) (h1 : ∀ x ∈ rs1, Lt x.key e.key) (h2 : ∀ x ∈ rs2, Lt e.key x.key)
    (fin : ∀ ok w' c', St w0 o w' [Res.at eb (EObj e), Res.tree (hc + 1) c'] → c'.b = b → c'.fl = insertL e (weave (ks1 ++ c :: ks2) (rs1 ++ rs2)) → c'.r = (rs1 ++ rs2).length → (ok = true ↔ ¬ Has e.key (weave (ks1 ++ c :: ks2) (rs1 ++ rs2))) → RR ok w') :
    SetInv RR e eb hc c.b w1 := by
  obtain ⟨rs, ks, crv, ckv, S2, hk, hr63, hkl, hkm⟩ := St.open [Res.at eb (EObj e)] _ S
  rw [weave_zip _ _ _ _ _ hl1] at hs fin
  obtain ⟨m1, m2⟩ := key_mid hs h1 h2
  have hfl : c.fl = weave ks rs := by rw [hk]
  have hrr : c.r = rs.length := by rw [hk]
  have hown : c.own = bl (parts hc c.b crv ckv rs ks) := congrArg Kid.own hk
  refine ⟨rs, ks, crv, ckv, ?_, by omega, hkl, hkm, ?_, ?_, ?_⟩
  · exact S2.h.sub (by
      show (Res.at eb (EObj e) :: parts hc c.b crv ckv rs ks).Sublist (Res.at eb (EObj e) :: (parts hc c.b crv ckv rs ks ++ _))
      exact List.Sublist.cons_cons _ (List.sublist_append_left _ _))
  · intro _ h0; rw [h0] at hrr; simp at hrr; omega
  · rw [← hfl]; exact hs.right.left
  · rintro ok w' ⟨c', S3, hb, hf, hge, _, hok⟩
    have ho : bl [Res.at eb (EObj e), Res.tree hc c] = bl (Res.at eb (EObj e) :: parts hc c.b crv ckv rs ks) := by
      rw [bl_cons, bl_cons, bl_cons, bl_nil, List.append_nil, ← hown]
      rfl
    have S4 : St w0 o w' ([Res.at eb (EObj e), Res.tree hc c'] ++ (Res.node b rv kv :: Res.rowE rv (rs1 ++ rs2) :: Res.rowN kv ks' :: (trees hc ks1 ++ trees hc ks2))) :=
      St.step (X := [Res.at eb (EObj e), Res.tree hc c]) (X' := [Res.at eb (EObj e), Res.tree hc c']) [] _ S (by rw [ho]; exact S3.f) S3.h
    have hp : ptrs ks' = ptrs (ks1 ++ c' :: ks2) := by
      rw [hk']
      simp [ptrs, hb]
    rw [rowN_same hp] at S4
    have S5 : St w0 o w' ([Res.at eb (EObj e)] ++ (parts (hc + 1) b rv kv (rs1 ++ rs2) (ks1 ++ c' :: ks2) ++ [])) := by
      refine S4.perm ?_
      refine List.Perm.cons _ ?_
      rw [List.append_nil]
      simp only [parts, Nat.add_sub_cancel, List.map_append, List.map_cons]
      show (Res.tree hc c' :: Res.node b rv kv :: Res.rowE rv (rs1 ++ rs2) :: Res.rowN kv (ks1 ++ c' :: ks2) :: (trees hc ks1 ++ trees hc ks2)).Perm _
      exact (List.perm_middle (l₁ := Res.node b rv kv :: Res.rowE rv (rs1 ++ rs2) :: Res.rowN kv (ks1 ++ c' :: ks2) :: trees hc ks1) (l₂ := trees hc ks2)).symm
    obtain ⟨k, S6, kb, kr, kf⟩ := St.shut [Res.at eb (EObj e)] [] S5 h63 ⟨fun h => by omega, fun _ => by simp; omega⟩ (by
      intro x hx
      rcases List.mem_append.1 hx with h | h
      · exact hm1 x h
      · rcases List.mem_cons.1 h with rfl | h
        · omega
        · exact hm2 x h)
    refine fin ok w' k S6 kb ?_ kr ?_
    · rw [kf, weave_zip _ _ _ _ _ hl1, hf, ← hfl, ← List.append_assoc, ← List.append_assoc]
      exact (insertL_mid m1 m2).symm
    · rw [hok, ← hfl, ← List.append_assoc, Has.mid m1 m2]

end Go.Proofs.Qxb6601706a
