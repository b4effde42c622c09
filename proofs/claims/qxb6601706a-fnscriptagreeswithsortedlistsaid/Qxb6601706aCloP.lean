import Derived.Test.Qxb6601706aCloB
namespace Go.Proofs.Qxb6601706a
open Go.RowKit
set_option linter.unusedVariables false
set_option linter.unusedSimpArgs false

/-! ### trees alike but for where they lie -/
def erE (e : Ent) : Ent := ⟨e.key, none, e.vl, 0, e.rev, e.lease⟩
def er : (d : Nat) → NT d → NT d
  | 0, T => T
  | _ + 1, none => none
  | d + 1, some n => some ⟨0, 0, none, 0, none, 0, n.rs.map erE, n.ks.map (er d)⟩

theorem er_recs : ∀ (d : Nat) (T : NT d), recs d (er d T) = recs d T
  | 0, T => rfl
  | d + 1, none => rfl
  | d + 1, some n => by show (n.rs.map erE).length = n.rs.length; simp
theorem er_sh : ∀ (d : Nat) (T : NT d) (h : Nat), ShOk d (er d T) h ↔ ShOk d T h
  | 0, T, h => Iff.rfl
  | d + 1, none, h => by cases h <;> exact Iff.rfl
  | d + 1, some n, 0 => by
    show (n.ks.map (er d) = [] ∧ (n.rs.map erE).length ≤ 63) ↔ (n.ks = [] ∧ n.rs.length ≤ 63)
    simp
  | d + 1, some n, h + 1 => by
    show ((n.ks.map (er d)).length = (n.rs.map erE).length + 1 ∧ (n.rs.map erE).length ≤ 63 ∧ 1 ≤ (n.rs.map erE).length ∧ ∀ k ∈ n.ks.map (er d), ShOk d k h ∧ 31 ≤ recs d k) ↔ (n.ks.length = n.rs.length + 1 ∧ n.rs.length ≤ 63 ∧ 1 ≤ n.rs.length ∧ ∀ k ∈ n.ks, ShOk d k h ∧ 31 ≤ recs d k)
    simp only [List.length_map, List.mem_map, forall_exists_index, and_imp, forall_apply_eq_imp_iff₂, er_sh d, er_recs d]
theorem R_map (f : Ent → Ent) : ∀ (rs : List Ent) (ks : List Kid), (R rs ks).map f = R (rs.map f) (ks.map fun k => { k with fl := k.fl.map f })
  | [], ks => by cases ks <;> simp [R]
  | r :: rs, [] => by simp [R]
  | r :: rs, k :: ks => by simp [R, R_map f rs ks]
theorem weave_map (f : Ent → Ent) (ks : List Kid) (rs : List Ent) : (weave ks rs).map f = weave (ks.map fun k => { k with fl := k.fl.map f }) (rs.map f) := by
  cases ks with
  | nil => rfl
  | cons k ks => simp [weave, R_map]
theorem er_flat : ∀ (d : Nat) (T : NT d), flatT d (er d T) = (flatT d T).map erE
  | 0, T => rfl
  | d + 1, none => rfl
  | d + 1, some n => by
    rw [flatT_some, weave_map]
    show flatT (d + 1) (some _) = _
    rw [flatT_some]
    simp only [List.map_map]
    congr 1
    apply List.map_congr_left
    intro k _
    simp only [Function.comp, kidOf, er_flat d k, er_recs d k]

def VT (P : Ent → Prop) : (d : Nat) → NT d → Prop
  | 0, _ => True
  | _ + 1, none => True
  | d + 1, some n => (∀ e ∈ n.rs, P e) ∧ ∀ k ∈ n.ks, VT P d k
theorem VT.mono {P Q : Ent → Prop} (h : ∀ e, P e → Q e) : ∀ (d : Nat) (T : NT d), VT P d T → VT Q d T
  | 0, T, _ => trivial
  | d + 1, none, _ => trivial
  | d + 1, some n, hv => ⟨fun e he => h e (hv.1 e he), fun k hk => VT.mono h d k (hv.2 k hk)⟩
theorem R_mem : ∀ (rs : List Ent) (ks : List Kid) (x : Ent), x ∈ R rs ks → x ∈ rs ∨ ∃ k ∈ ks, x ∈ k.fl
  | [], ks, x, h => by simp [R] at h
  | r :: rs, [], x, h => by simp [R] at h
  | r :: rs, k :: ks, x, h => by
    simp only [R, List.mem_cons, List.mem_append] at h
    rcases h with rfl | h | h
    · exact .inl (by simp)
    · exact .inr ⟨k, by simp, h⟩
    · rcases R_mem rs ks x h with h | ⟨k', h1, h2⟩
      · exact .inl (by simp [h])
      · exact .inr ⟨k', by simp [h1], h2⟩
theorem weave_mem (ks : List Kid) (rs : List Ent) (x : Ent) (h : x ∈ weave ks rs) : x ∈ rs ∨ ∃ k ∈ ks, x ∈ k.fl := by
  cases ks with
  | nil => exact .inl h
  | cons k ks =>
    rcases List.mem_append.1 (show x ∈ k.fl ++ R rs ks from h) with h | h
    · exact .inr ⟨k, by simp, h⟩
    · rcases R_mem rs ks x h with h | ⟨k', h1, h2⟩
      · exact .inl h
      · exact .inr ⟨k', by simp [h1], h2⟩
theorem VT.flat {P : Ent → Prop} : ∀ (d : Nat) (T : NT d), VT P d T → ∀ e ∈ flatT d T, P e
  | 0, T, _, e, he => by simp [flatT] at he
  | d + 1, none, _, e, he => by simp [flatT] at he
  | d + 1, some n, hv, e, he => by
    rw [flatT_some] at he
    rcases weave_mem _ _ _ he with h | ⟨k, hk, h⟩
    · exact hv.1 e h
    · obtain ⟨k', hk', rfl⟩ := List.mem_map.1 hk
      exact VT.flat d k' (hv.2 k' hk') e h

/-! ### pieces of memory: a row of Entry, a row of pointers -/
def Res.row57 (v : Value) (l : List Ent) : Res := ⟨v.ownBlock.toList, fun w => OwnE w 57 v l, fun w w' h k => owns_loc h k⟩
abbrev OwnP (w : World) (v : Value) (l : List Value) : Prop := w.ownsRow 0 22 1 v l.length l
def Res.rowP (v : Value) (l : List Value) : Res := ⟨v.ownBlock.toList, fun w => OwnP w v l, fun w w' h k => owns_loc h k⟩

section
variable {w0 w w' : World} {o : List Nat}
theorem St.set57 (A B : List Res) {g n cap : Nat} {l : List Ent} (s : St w0 o w (A ++ Res.row57 (.slice (some ⟨g, 0, none⟩) n cap) l :: B)) (hn : n = l.length) (i : Nat) (e : Ent) :
    St w0 o ((((w.setCell ⟨g, i * 4, none⟩ (.string e.key)).setCell ⟨g, i * 4 + 1, none⟩ (.slice e.va e.vl e.vc)).setCell ⟨g, i * 4 + 2, none⟩ (.int .u64 e.rev)).setCell ⟨g, i * 4 + 3, none⟩ (.int .u64 e.lease)) (A ++ Res.row57 (.slice (some ⟨g, 0, none⟩) n cap) (l.set i e) :: B) ∧
    w.grownBy ((((w.setCell ⟨g, i * 4, none⟩ (.string e.key)).setCell ⟨g, i * 4 + 1, none⟩ (.slice e.va e.vl e.vc)).setCell ⟨g, i * 4 + 2, none⟩ (.int .u64 e.rev)).setCell ⟨g, i * 4 + 3, none⟩ (.int .u64 e.lease)) (some g) := by
  subst hn
  have hown : OwnE w 57 (.slice (some ⟨g, 0, none⟩) l.length cap) l := s.h.mid
  obtain ⟨a1, b1⟩ := hown.stored (i * 4) (.string e.key)
  obtain ⟨a2, b2⟩ := a1.stored (i * 4 + 1) (.slice e.va e.vl e.vc)
  obtain ⟨a3, b3⟩ := a2.stored (i * 4 + 2) (.int .u64 e.rev)
  obtain ⟨a4, b4⟩ := a3.stored (i * 4 + 3) (.int .u64 e.lease)
  have hfl : ((((flatE l).set (i * 4) (.string e.key)).set (i * 4 + 1) (.slice e.va e.vl e.vc)).set (i * 4 + 2) (.int .u64 e.rev)).set (i * 4 + 3) (.int .u64 e.lease) = flatE (l.set i e) := by
    clear s hown a1 a2 a3 a4 b1 b2 b3 b4
    induction l generalizing i with
    | nil => simp [flatE]
    | cons x l ih =>
      cases i with
      | zero => simp [flatE, Ent.cells]
      | succ i =>
        have := ih i
        rw [List.set_cons_succ, flatE_cons, flatE_cons, ← this]
        simp only [Ent.cells, List.cons_append, List.nil_append, Nat.add_mul, Nat.one_mul, List.set_cons_succ]
  rw [hfl] at a4
  have hg := grownBy_trans (grownBy_trans (grownBy_trans b1 b2) b3) b4
  obtain ⟨h1, h2, h3⟩ := row_ok (v := .slice (some ⟨g, 0, none⟩) l.length cap) hg a4 (fun b hb => .inl hb)
  refine ⟨St.step (X := [Res.row57 (.slice (some ⟨g, 0, none⟩) l.length cap) l]) (X' := [Res.row57 (.slice (some ⟨g, 0, none⟩) l.length cap) (l.set i e)]) A B s (by simpa [bl, Res.row57] using h1) ⟨?_, by simpa [bl, Res.row57] using h2, by simpa [bl, Res.row57] using h3⟩, hg⟩
  intro x hx
  simp at hx; subst hx
  show World.ownsRow _ 0 57 4 _ (l.set i e).length _
  rw [List.length_set]
  exact a4
theorem St.setP (A B : List Res) {g n cap : Nat} {l : List Value} (s : St w0 o w (A ++ Res.rowP (.slice (some ⟨g, 0, none⟩) n cap) l :: B)) (hn : n = l.length) (i : Nat) (u : Value) :
    St w0 o (w.setCell ⟨g, i, none⟩ u) (A ++ Res.rowP (.slice (some ⟨g, 0, none⟩) n cap) (l.set i u) :: B) ∧ w.grownBy (w.setCell ⟨g, i, none⟩ u) (some g) := by
  subst hn
  have hown : OwnP w (.slice (some ⟨g, 0, none⟩) l.length cap) l := s.h.mid
  obtain ⟨a1, b1⟩ := hown.stored i u
  obtain ⟨h1, h2, h3⟩ := row_ok (v := .slice (some ⟨g, 0, none⟩) l.length cap) b1 a1 (fun b hb => .inl hb)
  refine ⟨St.step (X := [Res.rowP (.slice (some ⟨g, 0, none⟩) l.length cap) l]) (X' := [Res.rowP (.slice (some ⟨g, 0, none⟩) l.length cap) (l.set i u)]) A B s (by simpa [bl, Res.rowP] using h1) ⟨?_, by simpa [bl, Res.rowP] using h2, by simpa [bl, Res.rowP] using h3⟩, b1⟩
  intro x hx
  simp at hx; subst hx
  show World.ownsRow _ 0 22 1 _ (l.set i u).length _
  rw [List.length_set]
  exact a1
/-- a made row is held -/
theorem St.made {L : List Res} (s : St w0 o w L) (hg : w.grownBy w' none) {v : Value} (x : Res) (hx : x.ok w') (hb : x.blocks = v.ownBlock.toList) (hv : ∀ b, v.ownBlock = some b → w.heap.size ≤ b ∧ b < w'.heap.size) : St w0 o w' (x :: L) := by
  refine St.step (X := []) (X' := [x]) [] L s ?_ ⟨?_, ?_, ?_⟩
  · refine Fin.grow hg ?_
    intro b hb'
    rw [bl_cons, bl_nil, List.append_nil, hb] at hb'
    right
    exact (hv b (by simpa using hb')).1
  · intro y hy
    simp at hy; subst hy; exact hx
  · rw [bl_cons, bl_nil, List.append_nil, hb]
    cases v.ownBlock <;> simp
  · intro b hb'
    rw [bl_cons, bl_nil, List.append_nil, hb] at hb'
    exact (hv b (by simpa using hb')).2
theorem St.setAt0 (A B : List Res) {b t : Nat} {x y : Value} (s : St w0 o w (A ++ Res.at b (.cells #[x, y] t) :: B)) (x' : Value) : St w0 o (w.setCell ⟨b, 0, none⟩ x') (A ++ Res.at b (.cells #[x', y] t) :: B) := by
  have hok : w.heap[b]? = some (.cells #[x, y] t (0, 0)) := s.h.mid
  refine St.step (X := [Res.at b (.cells #[x, y] t)]) (X' := [Res.at b (.cells #[x', y] t)]) A B s (Fin.setCell w b 0 x') ⟨?_, by simp [bl, Res.at], ?_⟩
  · intro z hz
    simp at hz; subst hz
    show (w.setCell ⟨b, 0, none⟩ x').heap[b]? = _
    rw [heap_setCell_same w b 0 #[x, y] t x' hok]
    rfl
  · intro k hk
    simp [bl, Res.at] at hk
    subst hk
    simpa [World.setCell] using (Array.getElem?_eq_some_iff.1 hok).1
theorem St.setAt1 (A B : List Res) {b t : Nat} {x y : Value} (s : St w0 o w (A ++ Res.at b (.cells #[x, y] t) :: B)) (y' : Value) : St w0 o (w.setCell ⟨b, 1, none⟩ y') (A ++ Res.at b (.cells #[x, y'] t) :: B) := by
  have hok : w.heap[b]? = some (.cells #[x, y] t (0, 0)) := s.h.mid
  refine St.step (X := [Res.at b (.cells #[x, y] t)]) (X' := [Res.at b (.cells #[x, y'] t)]) A B s (Fin.setCell w b 1 y') ⟨?_, by simp [bl, Res.at], ?_⟩
  · intro z hz
    simp at hz; subst hz
    show (w.setCell ⟨b, 1, none⟩ y').heap[b]? = _
    rw [heap_setCell_same w b 1 #[x, y] t y' hok]
    rfl
  · intro k hk
    simp [bl, Res.at] at hk
    subst hk
    simpa [World.setCell] using (Array.getElem?_eq_some_iff.1 hok).1
end

/-- of old memory all stands -/
theorem St.grown {w0 w : World} {L : List Res} (s : St w0 [] w L) : w0.grownBy w none := ⟨s.f.os, s.f.tape, s.f.output, s.f.size, fun k hk _ => s.f.keep k hk (by simp)⟩

/-- a value that lies in new memory -/
def Val (N : Nat) (w : World) (e : Ent) : Prop := ∃ bs, ValIs w e.va e.vl bs ∧ (e.vl = 0 ∨ ∃ g, e.va = some ⟨g, 0, none⟩ ∧ N ≤ g)
theorem Val.same {N : Nat} {w w' : World} {e : Ent} (h : Val N w e) (hk : ∀ (g : Nat) (cur : Array Value), w.heap[g]? = some (.cells cur 5 (0, 0)) → w'.heap[g]? = w.heap[g]?) : Val N w' e := by
  obtain ⟨bs, h1, h2⟩ := h
  exact ⟨bs, h1.same hk, h2⟩
theorem Val.le {N N' : Nat} {w : World} {e : Ent} (h : Val N w e) (hn : N' ≤ N) : Val N' w e := by
  obtain ⟨bs, h1, h2⟩ := h
  exact ⟨bs, h1, by rcases h2 with h | ⟨g, h3, h4⟩; exact .inl h; exact .inr ⟨g, h3, by omega⟩⟩

/-- what lies in new memory, as it can be read -/
def fresh (N : Nat) (w : World) : Rd := fun a => if N ≤ a.block then w.cell? a else none
theorem fresh_reads (N : Nat) (w : World) : Reads (fresh N w) w := by
  intro a v h
  unfold fresh at h
  split at h
  · exact h
  · cases h
theorem fresh_dom {N : Nat} {w : World} {a : Addr} {v : Value} (h : fresh N w a = some v) : N ≤ a.block ∧ a.block < w.heap.size := by
  unfold fresh at h
  split at h
  · exact ⟨by assumption, World.block_lt_of_cell? w a h⟩
  · cases h
theorem fresh_of {N : Nat} {w : World} {a : Addr} {v : Value} (h : w.cell? a = some v) (hN : N ≤ a.block) : fresh N w a = some v := by
  unfold fresh; rw [if_pos hN]; exact h
theorem Val.bytes {N : Nat} {w : World} {e : Ent} (h : Val N w e) : BytesAt (fresh N w) e := by
  obtain ⟨bs, h1, h2⟩ := h
  refine ⟨bs, h1.1, ?_, fun j b hb => ?_⟩
  · rcases h2 with h | ⟨g, h3, _⟩
    · exact .inl h
    · exact .inr ⟨g, 0, h3⟩
  · have hj : j < bs.length := (List.getElem?_eq_some_iff.1 hb).1
    obtain ⟨g, b', h3, h4, h5⟩ := h1.cells hj
    rw [hb] at h4
    obtain rfl : b = b' := by injection h4
    refine ⟨g, 0, h3, fresh_of (by simpa using h5) ?_⟩
    rcases h2 with h | ⟨g', h6, h7⟩
    · have := h1.1; omega
    · rw [h3] at h6
      simp at h6
      subst h6; exact h7

end Go.Proofs.Qxb6601706a
