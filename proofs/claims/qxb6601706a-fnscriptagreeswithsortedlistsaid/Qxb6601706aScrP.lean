import Derived.Test.Qxb6601706aLawP
import Derived.Test.Qxb6601706aModelD
import Derived.Test.Qxb6601706aHeight
namespace Go.Proofs.Qxb6601706a
open Go.RowKit
set_option linter.unusedVariables false
set_option linter.unusedSimpArgs false

/-! ### what a step on the tree leaves alone -/
theorem row_kept {w w' : World} {h : Nat} {k : Kid} {o' : List Nat} {v : Value} {l : List Ent} (t : Tree w h k) (f : Fin w w' k.own o') (ho : OwnE w 57 v l) : OwnE w' 57 v l := by
  refine ⟨ho.1, ?_⟩
  rcases ho.2 with hn | ⟨g, cap, cur, rfl, hb, hgg, rest⟩
  · exact .inl hn
  · refine .inr ⟨g, cap, cur, rfl, hb, ?_, rest⟩
    rw [f.keep g (Array.getElem?_eq_some_iff.1 hgg).1 (fun hm => ?_)]
    · exact hgg
    · obtain ⟨cur', ty, h1, h2⟩ := own_types h w k t g hm
      rw [hgg] at h1
      simp only [Option.some.injEq, Obj.cells.injEq] at h1
      obtain ⟨_, h4, _⟩ := h1
      rcases h2 with h2 | h2 | h2 <;> rw [h2] at h4 <;> exact absurd h4 (by decide)
theorem row_grown {w w' : World} {v : Value} {l : List Ent} (ho : OwnE w 57 v l) (hg : w.grownBy w' none) : OwnE w' 57 v l := World.ownsRow.kept ho hg (by cases hh : v.ownBlock <;> simp)

def EN (key : ByteArray) (rev : Int) : Ent := ⟨key, none, 0, 0, rev, 0⟩
theorem EN.same (w : World) (key : ByteArray) (rev : Int) : SameE w (EN key rev) (EN key rev) := ⟨rfl, rfl, rfl, [], ⟨rfl, by simp, .inl rfl⟩, ⟨rfl, by simp, .inl rfl⟩⟩
theorem SameL.delete {w : World} {a b : List Ent} (k : ByteArray) (h : SameL w a b) : SameL w (deleteL k a) (deleteL k b) := h.filter (fun x => ltb x k || ltb k x)
theorem insertL_len (e : Ent) (l : List Ent) (hs : Sorted l) : (insertL e l).length ≤ l.length + 1 := by
  have h : ∀ l : List Ent, (l.filter fun x => ltb x.key e.key).length + (l.filter fun x => ltb e.key x.key).length ≤ l.length := by
    intro l
    induction l with
    | nil => simp
    | cons x l ih =>
      simp only [List.filter_cons, List.length_cons]
      cases h1 : ltb x.key e.key with
      | false =>
        cases h2 : ltb e.key x.key with
        | false => simp; omega
        | true => simp; omega
      | true =>
        have h2 : ltb e.key x.key = false := by
          cases h2 : ltb e.key x.key with
          | false => rfl
          | true => exact absurd ((ltb_iff.1 h1).trans (ltb_iff.1 h2)) (Lt.irrefl _)
        simp [h2]; omega
  have := h l
  simp only [insertL, List.length_append, List.length_cons]
  omega

/-! ### the loop's state -/
def Inv7 (w0 w : World) (k : Nat) (b : Nat) (mv : Value) : Prop :=
  ∃ h c l, c.b = b ∧ St w0 [] w [Res.tree h c] ∧ OwnE w 57 mv l ∧ SameL w c.fl l ∧ Sorted l ∧ l.length ≤ k ∧ (h ≠ 0 → 1 ≤ c.r)
def Pre7 (w0 w : World) (k : Nat) (b : Nat) (mv : Value) : Prop :=
  ∃ h rv kv rs ks l, St w0 [] w (parts h b rv kv rs ks) ∧ rs.length < 63 ∧ KLen h ks rs ∧ (∀ c ∈ ks, 31 ≤ c.r) ∧ (h ≠ 0 → rs = [] → ∀ c ∈ ks, c.r = 63) ∧ OwnE w 57 mv l ∧ SameL w (weave ks rs) l ∧ Sorted l ∧ l.length ≤ k
def Set7 (w0 w : World) (k : Nat) (key : ByteArray) (rev : Int) (b : Nat) (mv : Value) (ok : Bool) : Prop :=
  ∃ h c l, c.b = b ∧ St w0 [] w [Res.tree h c] ∧ OwnE w 57 mv l ∧ SameL w c.fl (insertL (EN key rev) l) ∧ Sorted l ∧ l.length ≤ k ∧ (h ≠ 0 → 1 ≤ c.r) ∧ (ok = true ↔ ¬ Has key l)
def Del7 (w0 w : World) (k : Nat) (key : ByteArray) (b : Nat) (mv : Value) (ok : Bool) : Prop :=
  ∃ h c l, c.b = b ∧ St w0 [] w [Res.tree h c] ∧ OwnE w 57 mv l ∧ SameL w c.fl (deleteL key l) ∧ Sorted l ∧ l.length ≤ k ∧ (ok = true ↔ Has key l)
def Any7 (w0 w : World) (k : Nat) (b : Nat) (mv : Value) : Prop :=
  ∃ h c l, c.b = b ∧ St w0 [] w [Res.tree h c] ∧ OwnE w 57 mv l ∧ SameL w c.fl l ∧ Sorted l ∧ l.length ≤ k
def Full7 (w0 w : World) (k : Nat) (b : Nat) (mv : Value) : Prop :=
  ∃ h c l, c.b = b ∧ St w0 [] w [Res.tree h c] ∧ OwnE w 57 mv l ∧ SameL w c.fl l ∧ Sorted l ∧ l.length ≤ k ∧ c.r = 63
theorem Inv7.grown {w0 w : World} {k b : Nat} {mv : Value} (p : Inv7 w0 w k b mv) : w0.grownBy w none := by
  obtain ⟨h, c, l, _, S, _⟩ := p
  exact S.grown

/-! ### the steps -/
theorem St.nilE {w0 w : World} {o : List Nat} {L : List Res} (s : St w0 o w L) : St w0 o w (Res.rowE (.slice none 0 0) [] :: L) := by
  refine St.step (X := []) (X' := [Res.rowE (.slice none 0 0) []]) [] L s ⟨rfl, rfl, rfl, Nat.le_refl _, fun _ _ _ => rfl, by simp [bl, Res.rowE, Value.ownBlock]⟩ ⟨?_, by simp [bl, Res.rowE, Value.ownBlock], by simp [bl, Res.rowE, Value.ownBlock]⟩
  intro x hx
  simp at hx; subst hx
  exact World.ownsRow_nil w 0 52 4
section
variable {w0 w w1 : World} {k b : Nat} {mv : Value} {key : ByteArray} {rev : Int} {ok : Bool}

def New7 (w0 : World) (en : Ending) (w1 : World) : Prop := ∃ b, en = .returned (.pointer (some ⟨b, 0, none⟩)) ∧ Inv7 w0 w1 0 b (.slice none 0 0)
theorem new7 (w0 : World) : Calls Try.prog 30 #[.slice none 0 0, .slice none 0 0] w0 (New7 w0) := by
  refine (makeNode30 none none 0 0 0 0).mono ?_
  rintro en w1 ⟨he, rfl⟩
  have S0 : St w0 [] w0 [] := St.start (w := w0) (L := []) ⟨by simp, by simp [bl], by simp [bl]⟩
  have SE : St w0 [] w0 [Res.rowE (.slice none 0 0) []] := S0.nilE
  have S1 : St w0 [] _ ([] ++ (parts 0 w0.heap.size (.slice none 0 0) (.slice none 0 0) [] [] ++ [])) := (SE.nilN.allocNode (.slice none 0 0) (.slice none 0 0)).perm (List.Perm.cons _ (List.Perm.swap _ _ _))
  obtain ⟨c, S2, c1, c2, c3⟩ := St.shut [] [] S1 (by simp) ⟨fun _ => rfl, fun h => absurd rfl h⟩ (by simp)
  exact ⟨_, he, 0, c, [], c1, S2, World.ownsRow_nil _ 0 57 4, by rw [c3]; exact SameL.nil _, List.Pairwise.nil, by simp, fun h => absurd rfl h⟩

def Set7Says (w0 : World) (k : Nat) (key : ByteArray) (rev : Int) (b : Nat) (mv : Value) (en : Ending) (w2 : World) : Prop := ∃ ok, en = .returned (.bool ok) ∧ Set7 w0 w2 k key rev b mv ok
theorem Pre7.set (p : Pre7 w0 w k b mv) (hg : w.grownBy w1 none) (key : ByteArray) (rev : Int) : Calls Try.prog 22 #[.pointer (some ⟨b, 0, none⟩), EAgg (EN key rev)] w1 (Set7Says w0 k key rev b mv) := by
  obtain ⟨h, rv, kv, rs, ks, l, S, hr, hkl, hkm, hz, ho, hsame, hs, hlen⟩ := p
  have S1 := S.grow hg
  have ho1 := row_grown ho hg
  have hsame1 := hsame.same (grown_bytes hg)
  have t := Tree.shut S1.h (by omega) hkl hkm
  refine (set22 (EN key rev) S1.h hr hkl hkm hz (hs.keys hsame.keys.symm)).mono ?_
  rintro en w2 ⟨ok, c', he, S2, hb, hf, hge, h1, hok⟩
  have S3 : St w0 [] w2 ([] ++ ([Res.tree h c'] ++ [])) := St.step (X := parts h b rv kv rs ks) (X' := [Res.tree h c']) [] [] (by simpa using S1) S2.f S2.h
  have hbk : BKept w1 w2 := bkept_tree t S2.f
  refine ⟨ok, he, h, c', l, hb, S3, row_kept t S2.f ho1, ?_, hs, hlen, h1, ?_⟩
  · rw [hf]; exact (hsame1.same hbk).insert (EN.same _ _ _)
  · rw [hok]; exact not_congr (Has.keys hsame.keys)
def Mod7Says (w0 : World) (k b : Nat) (ok : Bool) (en : Ending) (w3 : World) : Prop := ∃ mv', en = .returned (.tuple #[mv', .bool ok]) ∧ Inv7 w0 w3 (k + 1) b mv'
theorem Set7.model (p : Set7 w0 w k key rev b mv ok) (hk : k ≤ 4096) : Calls Try.prog 24 #[mv, EAgg (EN key rev)] w (Mod7Says w0 k b ok) := by
  obtain ⟨h, c, l, hb, S, ho, hsame, hs, hlen, h1, hok⟩ := p
  refine (model24 (EN key rev) ho hs (by omega)).mono ?_
  rintro en w3 ⟨v', ok', he, ho', hg, hok'⟩
  have e : ok' = ok := Bool.eq_iff_iff.2 (hok'.trans hok.symm)
  subst e
  refine ⟨v', he, h, c, _, hb, S.grow hg, ho', hsame.same (grown_bytes hg), insertL_sorted hs, ?_, h1⟩
  have := insertL_len (EN key rev) l hs
  omega
def Mdl7Says (w0 : World) (k b : Nat) (ok : Bool) (en : Ending) (w3 : World) : Prop := ∃ mv', en = .returned (.tuple #[mv', .bool ok]) ∧ Any7 w0 w3 k b mv'
theorem Del7.model (p : Del7 w0 w k key b mv ok) (hk : k ≤ 4096) : Calls Try.prog 26 #[mv, .string key] w (Mdl7Says w0 k b ok) := by
  obtain ⟨h, c, l, hb, S, ho, hsame, hs, hlen, hok⟩ := p
  refine (modelDelete26 key ho (by omega)).mono ?_
  rintro en w3 ⟨v', ok', he, ho', hg, hok'⟩
  have e : ok' = ok := Bool.eq_iff_iff.2 (hok'.trans hok.symm)
  subst e
  refine ⟨v', he, h, c, _, hb, S.grow hg, ho', hsame.same (grown_bytes hg), deleteL_sorted hs, ?_⟩
  have := List.length_filter_le (fun x : Ent => ltb x.key key || ltb key x.key) l
  unfold deleteL
  omega

def Fld7Says (w0 : World) (k b : Nat) (mv : Value) (en : Ending) (w1 : World) : Prop :=
  ∃ a n ca kv, en = .returned (.tuple #[.slice a n ca, kv]) ∧ n ≤ 63 ∧ (n < 63 → Pre7 w0 w1 k b mv) ∧ (63 ≤ n → Full7 w0 w1 k b mv)
theorem Inv7.fields (p : Inv7 w0 w k b mv) : Calls Try.prog 14 #[.pointer (some ⟨b, 0, none⟩)] w (Fld7Says w0 k b mv) := by
  obtain ⟨h, c, l, rfl, S, ho, hsame, hs, hlen, h1⟩ := p
  obtain ⟨rs, ks, rv, kv, S1, hk, hr63, hkl, hkm⟩ := St.open [] [] S
  have hkr : c.r = rs.length := by rw [hk]
  have hkf : c.fl = weave ks rs := by rw [hk]
  rw [List.nil_append, List.append_nil] at S1
  have hnode : w.heap[c.b]? = some (.cells #[rv, kv] 71 (0, 0)) := S1.h.ok (Res.node c.b rv kv) (by simp [parts])
  have hre : OwnE w 52 rv rs := S1.h.ok (Res.rowE rv rs) (by simp [parts])
  refine (nodeFields14 hnode).mono ?_
  rintro en w1 ⟨he, m, rfl⟩
  obtain ⟨a, ca, hrv⟩ : ∃ a ca, rv = .slice a rs.length ca := by
    rcases hre.form with ⟨e1, e2⟩ | ⟨g, cap, e1, _⟩
    · rw [e2]; exact ⟨none, 0, e1⟩
    · exact ⟨_, cap, e1⟩
  subst hrv
  have hg := grownBy_drewN w m none
  refine ⟨a, rs.length, ca, kv, he, hr63, fun hn => ?_, fun hn => ?_⟩
  · refine ⟨h, _, kv, rs, ks, l, S1.drewN m, hn, hkl, hkm, fun h0 hr => ?_, row_grown ho hg, by rw [← hkf]; exact hsame.same (grown_bytes hg), hs, hlen⟩
    have := h1 h0
    rw [hkr, hr] at this
    simp at this
  · exact ⟨h, c, l, rfl, S.drewN m, row_grown ho hg, hsame.same (grown_bytes hg), hs, hlen, by omega⟩

def Up7Says (w0 : World) (k : Nat) (mv : Value) (en : Ending) (w1 : World) : Prop := ∃ b', en = .returned (.pointer (some ⟨b', 0, none⟩)) ∧ Pre7 w0 w1 k b' mv
theorem Full7.up (p : Full7 w0 w k b mv) : Calls Try.prog 30 #[.slice none 0 0, .slice (some ⟨w.heap.size, 0, none⟩) 1 1] (w.alloc (.cells #[.pointer (some ⟨b, 0, none⟩)] 32)) (Up7Says w0 k mv) := by
  obtain ⟨h, c, l, rfl, S, ho, hsame, hs, hlen, h63⟩ := p
  refine (makeNode30 none (some ⟨w.heap.size, 0, none⟩) 0 0 1 1).mono ?_
  rintro en w1 ⟨he, rfl⟩
  refine ⟨_, he, h + 1, .slice none 0 0, .slice (some ⟨w.heap.size, 0, none⟩) 1 1, [], [c], l, ?_, by simp, ⟨fun h => by omega, fun _ => rfl⟩, ?_, ?_, ?_, ?_, hs, hlen⟩
  · have ho1 : OwnN (w.alloc (.cells #[.pointer (some ⟨c.b, 0, none⟩)] 32)) (.slice (some ⟨w.heap.size, 0, none⟩) 1 1) [c] := ⟨rfl, .inr ⟨w.heap.size, 1, #[.pointer (some ⟨c.b, 0, none⟩)], rfl, Nat.zero_le _, heap_alloc_new _ _, Nat.le_refl _, by unfold maxLen; omega, rfl, rfl⟩⟩
    have S1 := S.made (World.grownBy_alloc _ _ _) (Res.rowN (.slice (some ⟨w.heap.size, 0, none⟩) 1 1) [c]) ho1 rfl (v := .slice (some ⟨w.heap.size, 0, none⟩) 1 1) (fun b hb => by
      simp only [Value.ownBlock, Option.some.injEq] at hb
      subst hb
      exact ⟨Nat.le_refl _, by simp⟩)
    exact (S1.nilE.allocNode (.slice none 0 0) (.slice (some ⟨w.heap.size, 0, none⟩) 1 1))
  · intro x hx; simp at hx; subst hx; omega
  · intro _ _ x hx; simp at hx; subst hx; exact h63
  · exact row_grown (row_grown ho (World.grownBy_alloc _ _ _)) (World.grownBy_alloc _ _ _)
  · have : weave [c] [] = c.fl := by simp [weave, R]
    rw [this]
    exact (hsame.same (grown_bytes (World.grownBy_alloc _ _ _))).same (grown_bytes (World.grownBy_alloc _ _ _))

def FldD7Says (w0 : World) (k b : Nat) (mv : Value) (en : Ending) (w1 : World) : Prop :=
  ∃ a n ca a' n' ca', en = .returned (.tuple #[.slice a n ca, .slice a' n' ca']) ∧ n ≤ 63 ∧ n' ≤ 64 ∧ (¬ (n = 0 ∧ n' = 1) → Inv7 w0 w1 k b mv) ∧ (n = 0 → n' = 1 → ∃ g q, a' = some ⟨g, 0, none⟩ ∧ w1.cell? ⟨g, 0, none⟩ = some (.pointer (some ⟨q, 0, none⟩)) ∧ Inv7 w0 w1 k q mv)
theorem Any7.fields (p : Any7 w0 w k b mv) : Calls Try.prog 14 #[.pointer (some ⟨b, 0, none⟩)] w (FldD7Says w0 k b mv) := by
  obtain ⟨h, c, l, rfl, S, ho, hsame, hs, hlen⟩ := p
  obtain ⟨rs, ks, rv, kv, S1, hk, hr63, hkl, hkm⟩ := St.open [] [] S
  have hkr : c.r = rs.length := by rw [hk]
  have hkf : c.fl = weave ks rs := by rw [hk]
  rw [List.nil_append, List.append_nil] at S1
  have hnode : w.heap[c.b]? = some (.cells #[rv, kv] 71 (0, 0)) := S1.h.ok (Res.node c.b rv kv) (by simp [parts])
  have hre : OwnE w 52 rv rs := S1.h.ok (Res.rowE rv rs) (by simp [parts])
  have hrn : OwnN w kv ks := S1.h.ok (Res.rowN kv ks) (by simp [parts])
  refine (nodeFields14 hnode).mono ?_
  rintro en w1 ⟨he, m, rfl⟩
  obtain ⟨a, ca, hrv⟩ : ∃ a ca, rv = .slice a rs.length ca := by
    rcases hre.form with ⟨e1, e2⟩ | ⟨g, cap, e1, _⟩
    · rw [e2]; exact ⟨none, 0, e1⟩
    · exact ⟨_, cap, e1⟩
  obtain ⟨a', ca', hkv⟩ : ∃ a ca, kv = .slice a ks.length ca := by
    rcases hrn.form with ⟨e1, e2⟩ | ⟨g, cap, e1, _⟩
    · rw [e2]; exact ⟨none, 0, e1⟩
    · exact ⟨_, cap, e1⟩
  subst hrv hkv
  have hg := grownBy_drewN w m none
  refine ⟨a, rs.length, ca, a', ks.length, ca', he, hr63, ?_, fun hn => ?_, fun hn hn' => ?_⟩
  · by_cases h0 : h = 0
    · rw [hkl.1 h0]; simp
    · have := hkl.2 h0; omega
  · refine ⟨h, c, l, rfl, S.drewN m, row_grown ho hg, hsame.same (grown_bytes hg), hs, hlen, fun h0 => ?_⟩
    have := hkl.2 h0
    rw [hkr]
    omega
  · have hrs : rs = [] := List.eq_nil_of_length_eq_zero hn
    obtain ⟨f, hf⟩ := List.length_eq_one_iff.1 hn'
    subst hrs hf
    rcases hrn.form with ⟨_, e2⟩ | ⟨g, cap, e1, _⟩
    · simp at e2
    simp only [Value.slice.injEq] at e1
    obtain ⟨rfl, _, rfl⟩ := e1
    refine ⟨g, f.b, rfl, OwnN.cell (w := w) hrn rfl rfl, h - 1, f, l, rfl, (S1.drewN m).sub ?_, row_grown ho hg, ?_, hs, hlen, fun _ => by have := hkm f (by simp); omega⟩
    · exact ((List.sublist_cons_self _ _).trans (List.sublist_cons_self _ _)).trans (List.sublist_cons_self _ _)
    · have : weave [f] [] = f.fl := by simp [weave, R]
      rw [← this, ← hkf]
      exact hsame.same (grown_bytes hg)

/-! ### the end -/
def Shp7Says (w0 : World) (k b : Nat) (mv : Value) (en : Ending) (w1 : World) : Prop := ∃ x : Int, en = .returned (.tuple #[.int .i64 x, .bool true]) ∧ Inv7 w0 w1 k b mv
theorem Inv7.shape (p : Inv7 w0 w k b mv) (hk : k ≤ 4097) : Calls Try.prog 15 #[.pointer (some ⟨b, 0, none⟩), .bool true, .bool false, .int .i64 8] w (Shp7Says w0 k b mv) := by
  obtain ⟨h, c, l, rfl, S, ho, hsame, hs, hlen, h1⟩ := p
  have t : Tree w h c := S.h.ok (Res.tree h c) (by simp)
  have h2 := height_le t h1 (by have := hsame.1; omega)
  refine (shape15 h w c true false 8 t (by omega) (by omega) (fun h => by cases h) (fun _ _ h0 => h1 h0)).mono ?_
  rintro en w1 ⟨he, m, rfl⟩
  have hg := grownBy_drewN w m none
  exact ⟨_, he, h, c, l, rfl, S.drewN m, row_grown ho hg, hsame.same (grown_bytes hg), hs, hlen, h1⟩
def Flt7Says (w0 : World) (mv : Value) (en : Ending) (w1 : World) : Prop := ∃ v, en = .returned v ∧ Calls Try.prog 16 #[v, mv] w1 fun e w2 => e = .returned (.bool true) ∧ w0.grownBy w2 none
theorem Inv7.flat (p : Inv7 w0 w k b mv) (hk : k ≤ 4097) : Calls Try.prog 17 #[.pointer (some ⟨b, 0, none⟩), .slice none 0 0, .int .i64 8] w (Flt7Says w0 mv) := by
  obtain ⟨h, c, l, rfl, S, ho, hsame, hs, hlen, h1⟩ := p
  have t : Tree w h c := S.h.ok (Res.tree h c) (by simp)
  have h2 := height_le t h1 (by have := hsame.1; omega)
  have hl := hsame.1
  have := flat17 h w c (.slice none 0 0) [] 8 t (World.ownsRow_nil _ 0 57 4) (by omega) (by omega) (by simp; omega)
  refine this.mono ?_
  rintro en w1 ⟨v, he, hv, hg, _⟩
  have hg' : w.grownBy w1 none := hg
  refine ⟨v, he, ?_⟩
  rw [List.nil_append] at hv
  refine (sameList16 hv (row_grown ho hg') (hsame.same (grown_bytes hg')) (by omega)).mono ?_
  rintro e w2 ⟨he2, hg2⟩
  exact ⟨he2, grownBy_trans S.grown (grownBy_trans hg' hg2)⟩
end

end Go.Proofs.Qxb6601706a
