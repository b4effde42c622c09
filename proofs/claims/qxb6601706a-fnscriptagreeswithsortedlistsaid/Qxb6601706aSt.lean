import Derived.Test.Qxb6601706aRes
namespace Go.Proofs.Qxb6601706a
open Go.RowKit
set_option linter.unusedVariables false
set_option linter.unusedSimpArgs false

/-- what is held now, of a work that began in w0 with the blocks o -/
structure St (w0 : World) (o : List Nat) (w : World) (L : List Res) : Prop where
  h : Holds w L
  f : Fin w0 w o (bl L)

section
variable {w0 w w' : World} {o : List Nat}

theorem St.start {L : List Res} (h : Holds w L) : St w (bl L) w L := ⟨h, Fin.refl _ _⟩
theorem St.step {X X' : List Res} (A B : List Res) (s : St w0 o w (A ++ (X ++ B))) (f : Fin w w' (bl X) (bl X')) (h' : Holds w' X') : St w0 o w' (A ++ (X' ++ B)) :=
  ⟨s.h.step A B f h', s.f.trans (f.widen A B)⟩
theorem St.perm {L M : List Res} (s : St w0 o w L) (p : L.Perm M) : St w0 o w M :=
  ⟨s.h.perm p, s.f.mono (fun _ h => h) (fun b hb => .inl ((p.flatMap_right _).mem_iff.2 hb))⟩
theorem St.sub {L M : List Res} (s : St w0 o w L) (p : M.Sublist L) : St w0 o w M :=
  ⟨s.h.sub p, s.f.mono (fun _ h => h) (fun b hb => .inl (by
    obtain ⟨x, hx, hb⟩ := mem_bl.1 hb
    exact mem_bl.2 ⟨x, p.subset hx, hb⟩))⟩
theorem Holds.drew {L : List Res} (h : Holds w L) : Holds w.drew L := ⟨fun x hx => x.loc w w.drew (fun _ _ => rfl) (h.ok x hx), h.nodup, h.lt⟩
theorem Fin.drew {o' : List Nat} (f : Fin w w' o o') : Fin w w'.drew o o' := ⟨f.os, f.tape, f.output, f.size, f.keep, f.sub⟩
theorem St.drew {L : List Res} (s : St w0 o w L) : St w0 o w.drew L := ⟨s.h.drew, s.f.drew⟩
theorem St.grow {L : List Res} (s : St w0 o w L) (g : w.grownBy w' none) : St w0 o w' L := by
  have := St.step (X := []) (X' := []) [] L (w' := w') (by simpa using s) (Fin.grow (row := none) g (by simp [bl])) ⟨by simp, by simp [bl], by simp [bl]⟩
  simpa using this

theorem node_cells {b : Nat} {rv kv : Value} (h : w.heap[b]? = some (.cells #[rv, kv] 71 (0, 0))) :
    w.cell? ⟨b, 0, none⟩ = some rv ∧ w.cell? ⟨b, 1, none⟩ = some kv ∧ w.frozen? ⟨b, 0, none⟩ = false ∧ w.frozen? ⟨b, 1, none⟩ = false ∧ b < w.heap.size := by
  refine ⟨by simp [World.cell?, h], by simp [World.cell?, h], by simp [World.frozen?, h], by simp [World.frozen?, h], (Array.getElem?_eq_some_iff.1 h).1⟩

theorem Fin.setCell (w : World) (b j : Nat) (v : Value) : Fin w (w.setCell ⟨b, j, none⟩ v) [b] [b] :=
  ⟨rfl, rfl, rfl, by simp [World.setCell], fun k _ hk => Below.heap_setCell w _ v k (by simpa using hk), fun k hk => .inl hk⟩

theorem St.set0 (A B : List Res) {b : Nat} {rv kv : Value} (s : St w0 o w (A ++ Res.node b rv kv :: B)) (rv' : Value) : St w0 o (w.setCell ⟨b, 0, none⟩ rv') (A ++ Res.node b rv' kv :: B) := by
  have hok : w.heap[b]? = some (.cells #[rv, kv] 71 (0, 0)) := s.h.mid
  refine St.step (X := [Res.node b rv kv]) (X' := [Res.node b rv' kv]) A B s (Fin.setCell w b 0 rv') ⟨?_, by simp [bl, Res.node], ?_⟩
  · intro x hx
    simp at hx; subst hx
    show (w.setCell ⟨b, 0, none⟩ rv').heap[b]? = _
    rw [heap_setCell_same w b 0 #[rv, kv] 71 rv' hok]
    rfl
  · intro k hk
    simp [bl, Res.node] at hk
    subst hk
    simpa [World.setCell] using (node_cells hok).2.2.2.2
theorem St.set1 (A B : List Res) {b : Nat} {rv kv : Value} (s : St w0 o w (A ++ Res.node b rv kv :: B)) (kv' : Value) : St w0 o (w.setCell ⟨b, 1, none⟩ kv') (A ++ Res.node b rv kv' :: B) := by
  have hok : w.heap[b]? = some (.cells #[rv, kv] 71 (0, 0)) := s.h.mid
  refine St.step (X := [Res.node b rv kv]) (X' := [Res.node b rv kv']) A B s (Fin.setCell w b 1 kv') ⟨?_, by simp [bl, Res.node], ?_⟩
  · intro x hx
    simp at hx; subst hx
    show (w.setCell ⟨b, 1, none⟩ kv').heap[b]? = _
    rw [heap_setCell_same w b 1 #[rv, kv] 71 kv' hok]
    rfl
  · intro k hk
    simp [bl, Res.node] at hk
    subst hk
    simpa [World.setCell] using (node_cells hok).2.2.2.2

theorem Fin.alloc (w : World) (ob : Obj) : Fin w (w.alloc ob) [] [w.heap.size] :=
  ⟨rfl, rfl, rfl, by simp, fun k hk _ => Below.heap_alloc w ob k hk, fun k hk => .inr (by simp at hk; omega)⟩

theorem St.alloc {L : List Res} (s : St w0 o w L) (ob : Obj) : St w0 o (w.alloc ob) (Res.at w.heap.size ob :: L) := by
  refine St.step (X := []) (X' := [Res.at w.heap.size ob]) [] L s (Fin.alloc w ob) ⟨?_, by simp [bl, Res.at], ?_⟩
  · intro x hx
    simp at hx; subst hx
    exact heap_alloc_new w ob
  · intro k hk
    simp [bl, Res.at] at hk
    simp [hk]
theorem St.allocNode {L : List Res} (s : St w0 o w L) (rv kv : Value) : St w0 o (w.alloc (.cells #[rv, kv] 71)) (Res.node w.heap.size rv kv :: L) := s.alloc _

theorem row_ok {e size : Nat} {v v' : Value} {n : Nat} {xs : List Value} (g : w.grownBy w' v.ownBlock) (h : w'.ownsRow 0 e size v' n xs) (hb : ∀ b, v'.ownBlock = some b → v.ownBlock = some b ∨ w.heap.size ≤ b) :
    Fin w w' v.ownBlock.toList v'.ownBlock.toList ∧ v'.ownBlock.toList.Nodup ∧ ∀ b ∈ v'.ownBlock.toList, b < w'.heap.size := by
  refine ⟨Fin.grow g ?_, ?_, ?_⟩
  · intro b hb'
    have := hb b (by simpa using hb')
    simpa using this
  · cases v'.ownBlock <;> simp
  · intro b hb'
    exact (h.lt b (by simpa using hb')).2

theorem St.rowE (A B : List Res) {v : Value} {l : List Ent} (s : St w0 o w (A ++ Res.rowE v l :: B)) {n : Nat} {xs : List Value} {en : Ending} (h : RowSays 52 4 w v n xs en w') (l' : List Ent) (hn : n = l'.length) (hx : xs = flatE l') :
    ∃ g cap, en = .returned (.slice (some ⟨g, 0, none⟩) n cap) ∧ St w0 o w' (A ++ Res.rowE (.slice (some ⟨g, 0, none⟩) n cap) l' :: B) := by
  obtain ⟨g, cap, he, hown, hg, hb⟩ := h
  subst hn hx
  obtain ⟨h1, h2, h3⟩ := row_ok hg hown (by intro b hb'; simp [Value.ownBlock] at hb'; subst hb'; exact hb)
  refine ⟨g, cap, he, St.step (X := [Res.rowE v l]) (X' := [Res.rowE (.slice (some ⟨g, 0, none⟩) l'.length cap) l']) A B s (by simpa [bl, Res.rowE] using h1) ⟨?_, by simpa [bl, Res.rowE] using h2, by simpa [bl, Res.rowE] using h3⟩⟩
  intro x hx
  simp at hx; subst hx
  exact hown
theorem St.rowN (A B : List Res) {v : Value} {l : List Kid} (s : St w0 o w (A ++ Res.rowN v l :: B)) {n : Nat} {xs : List Value} {en : Ending} (h : RowSays 32 1 w v n xs en w') (l' : List Kid) (hn : n = l'.length) (hx : xs = ptrs l') :
    ∃ g cap, en = .returned (.slice (some ⟨g, 0, none⟩) n cap) ∧ St w0 o w' (A ++ Res.rowN (.slice (some ⟨g, 0, none⟩) n cap) l' :: B) := by
  obtain ⟨g, cap, he, hown, hg, hb⟩ := h
  subst hn hx
  obtain ⟨h1, h2, h3⟩ := row_ok hg hown (by intro b hb'; simp [Value.ownBlock] at hb'; subst hb'; exact hb)
  refine ⟨g, cap, he, St.step (X := [Res.rowN v l]) (X' := [Res.rowN (.slice (some ⟨g, 0, none⟩) l'.length cap) l']) A B s (by simpa [bl, Res.rowN] using h1) ⟨?_, by simpa [bl, Res.rowN] using h2, by simpa [bl, Res.rowN] using h3⟩⟩
  intro x hx
  simp at hx; subst hx
  exact hown
theorem St.newE {L : List Res} (s : St w0 o w L) {n : Nat} {xs : List Value} {en : Ending} (h : RowSays 52 4 w (.slice none 0 0) n xs en w') (l' : List Ent) (hn : n = l'.length) (hx : xs = flatE l') :
    ∃ g cap, en = .returned (.slice (some ⟨g, 0, none⟩) n cap) ∧ St w0 o w' (Res.rowE (.slice (some ⟨g, 0, none⟩) n cap) l' :: L) := by
  have s' : St w0 o w (Res.rowE (.slice none 0 0) [] :: L) := by
    refine St.step (X := []) (X' := [Res.rowE (.slice none 0 0) []]) [] L s ⟨rfl, rfl, rfl, Nat.le_refl _, fun _ _ _ => rfl, by simp [bl, Res.rowE, Value.ownBlock]⟩ ⟨?_, by simp [bl, Res.rowE, Value.ownBlock], by simp [bl, Res.rowE, Value.ownBlock]⟩
    intro x hx
    simp at hx; subst hx
    exact World.ownsRow_nil w 0 52 4
  exact St.rowE [] L s' h l' hn hx
theorem St.newN {L : List Res} (s : St w0 o w L) {n : Nat} {xs : List Value} {en : Ending} (h : RowSays 32 1 w (.slice none 0 0) n xs en w') (l' : List Kid) (hn : n = l'.length) (hx : xs = ptrs l') :
    ∃ g cap, en = .returned (.slice (some ⟨g, 0, none⟩) n cap) ∧ St w0 o w' (Res.rowN (.slice (some ⟨g, 0, none⟩) n cap) l' :: L) := by
  have s' : St w0 o w (Res.rowN (.slice none 0 0) [] :: L) := by
    refine St.step (X := []) (X' := [Res.rowN (.slice none 0 0) []]) [] L s ⟨rfl, rfl, rfl, Nat.le_refl _, fun _ _ _ => rfl, by simp [bl, Res.rowN, Value.ownBlock]⟩ ⟨?_, by simp [bl, Res.rowN, Value.ownBlock], by simp [bl, Res.rowN, Value.ownBlock]⟩
    intro x hx
    simp at hx; subst hx
    exact World.ownsRow_nil w 0 32 1
  exact St.rowN [] L s' h l' hn hx
theorem St.nilN {L : List Res} (s : St w0 o w L) : St w0 o w (Res.rowN (.slice none 0 0) [] :: L) := by
  refine St.step (X := []) (X' := [Res.rowN (.slice none 0 0) []]) [] L s ⟨rfl, rfl, rfl, Nat.le_refl _, fun _ _ _ => rfl, by simp [bl, Res.rowN, Value.ownBlock]⟩ ⟨?_, by simp [bl, Res.rowN, Value.ownBlock], by simp [bl, Res.rowN, Value.ownBlock]⟩
  intro x hx
  simp at hx; subst hx
  exact World.ownsRow_nil w 0 32 1

/-- one record of a row is written over -/
theorem St.setE (A B : List Res) {g n cap : Nat} {l : List Ent} (s : St w0 o w (A ++ Res.rowE (.slice (some ⟨g, 0, none⟩) n cap) l :: B)) (hn : n = l.length) (i : Nat) (e : Ent) :
    St w0 o ((((w.setCell ⟨g, i * 4, none⟩ (.string e.key)).setCell ⟨g, i * 4 + 1, none⟩ (.slice e.va e.vl e.vc)).setCell ⟨g, i * 4 + 2, none⟩ (.int .u64 e.rev)).setCell ⟨g, i * 4 + 3, none⟩ (.int .u64 e.lease)) (A ++ Res.rowE (.slice (some ⟨g, 0, none⟩) n cap) (l.set i e) :: B) := by
  subst hn
  have hown : OwnE w 52 (.slice (some ⟨g, 0, none⟩) l.length cap) l := s.h.mid
  obtain ⟨a1, b1⟩ := hown.stored (i * 4) (.string e.key)
  obtain ⟨a2, b2⟩ := a1.stored (i * 4 + 1) (.slice e.va e.vl e.vc)
  obtain ⟨a3, b3⟩ := a2.stored (i * 4 + 2) (.int .u64 e.rev)
  obtain ⟨a4, b4⟩ := a3.stored (i * 4 + 3) (.int .u64 e.lease)
  have hfl : ((((flatE l).set (i * 4) (.string e.key)).set (i * 4 + 1) (.slice e.va e.vl e.vc)).set (i * 4 + 2) (.int .u64 e.rev)).set (i * 4 + 3) (.int .u64 e.lease) = flatE (l.set i e) := by
    clear s hown a1 a2 a3 a4 b1 b2 b3 b4
    induction l generalizing i with
    | nil => simp [flatE]
    | cons x l ih =>
      cases i with
      | zero => simp [flatE, Ent.cells]
      | succ i =>
        have := ih i
        rw [List.set_cons_succ, flatE_cons, flatE_cons, ← this]
        simp only [Ent.cells, List.cons_append, List.nil_append, Nat.add_mul, Nat.one_mul, List.set_cons_succ]
  rw [hfl] at a4
  have hg := grownBy_trans (grownBy_trans (grownBy_trans b1 b2) b3) b4
  obtain ⟨h1, h2, h3⟩ := row_ok (v := .slice (some ⟨g, 0, none⟩) l.length cap) hg a4 (fun b hb => .inl hb)
  refine St.step (X := [Res.rowE (.slice (some ⟨g, 0, none⟩) l.length cap) l]) (X' := [Res.rowE (.slice (some ⟨g, 0, none⟩) l.length cap) (l.set i e)]) A B s (by simpa [bl, Res.rowE] using h1) ⟨?_, by simpa [bl, Res.rowE] using h2, by simpa [bl, Res.rowE] using h3⟩
  intro x hx
  simp at hx; subst hx
  show World.ownsRow _ 0 52 4 _ (l.set i e).length _
  rw [List.length_set]
  exact a4

theorem St.open (A B : List Res) {h : Nat} {k : Kid} (s : St w0 o w (A ++ Res.tree h k :: B)) :
    ∃ rs ks rv kv, St w0 o w (A ++ (parts h k.b rv kv rs ks ++ B)) ∧ k = ⟨k.b, rs.length, weave ks rs, bl (parts h k.b rv kv rs ks)⟩ ∧ rs.length ≤ 63 ∧ KLen h ks rs ∧ ∀ c ∈ ks, 31 ≤ c.r := by
  have t : Tree w h k := s.h.mid
  obtain ⟨rs, ks, rv, kv, hh, hk, h63, hl, hm⟩ := t.open
  refine ⟨rs, ks, rv, kv, ?_, hk, h63, hl, hm⟩
  have ho : bl [Res.tree h k] = bl (parts h k.b rv kv rs ks) := by
    rw [bl_cons, bl_nil, List.append_nil]
    show k.own = _
    conv => lhs; rw [hk]
  exact St.step (X := [Res.tree h k]) A B s (by rw [ho]; exact Fin.refl _ _) hh
theorem St.shut (A B : List Res) {h b : Nat} {rv kv : Value} {rs : List Ent} {ks : List Kid} (s : St w0 o w (A ++ (parts h b rv kv rs ks ++ B))) (hr : rs.length ≤ 63) (hk : KLen h ks rs) (hm : ∀ c ∈ ks, 31 ≤ c.r) :
    ∃ k : Kid, St w0 o w (A ++ Res.tree h k :: B) ∧ k.b = b ∧ k.r = rs.length ∧ k.fl = weave ks rs := by
  have hh : Holds w (parts h b rv kv rs ks) := s.h.sub ((List.sublist_append_left _ _).trans (List.sublist_append_right _ _))
  refine ⟨⟨b, rs.length, weave ks rs, bl (parts h b rv kv rs ks)⟩, ?_, rfl, rfl, rfl⟩
  have t := Tree.shut hh hr hk hm
  exact St.step (X := parts h b rv kv rs ks) (X' := [Res.tree h _]) A B s (by simp only [bl_cons, bl_nil, List.append_nil, Res.tree]; exact Fin.refl _ _) t.holds
end

theorem ptrs_append (a b : List Kid) : ptrs (a ++ b) = ptrs a ++ ptrs b := by simp [ptrs]
theorem ptrs_length (a : List Kid) : (ptrs a).length = a.length := by simp [ptrs]
theorem ptrs_take (a : List Kid) (i : Nat) : (ptrs a).take (i * 1) = ptrs (a.take i) := by simp [ptrs, List.map_take]
theorem ptrs_drop (a : List Kid) (i : Nat) : (ptrs a).drop (i * 1) = ptrs (a.drop i) := by simp [ptrs, List.map_drop]
theorem ptrs_one1 (a : List Kid) : ∀ u ∈ ptrs a, u.oneCell' = true := by
  intro u hu
  simp only [ptrs, List.mem_map] at hu
  obtain ⟨k, _, rfl⟩ := hu
  rfl

theorem OwnN.form {w : World} {v : Value} {l : List Kid} (h : OwnN w v l) : (v = .slice none 0 0 ∧ l = []) ∨ ∃ g cap, v = .slice (some ⟨g, 0, none⟩) l.length cap ∧ g < w.heap.size ∧ l.length ≤ cap ∧ cap ≤ maxLen := by
  rcases h.2 with ⟨h1, h2⟩ | ⟨g, cap, cur, hv, _, hg, hnc, hcm, _⟩
  · exact .inl ⟨h1, List.eq_nil_of_length_eq_zero h2⟩
  · exact .inr ⟨g, cap, hv, (Array.getElem?_eq_some_iff.1 hg).1, hnc, hcm⟩
theorem OwnN.cell {w : World} {g n cap : Nat} {l : List Kid} (h : OwnN w (.slice (some ⟨g, 0, none⟩) n cap) l) (hn : n = l.length) {i : Nat} {k : Kid} (hi : l[i]? = some k) : w.cell? ⟨g, i, none⟩ = some (.pointer (some ⟨k.b, 0, none⟩)) := by
  subst hn
  have hlt : i < l.length := (List.getElem?_eq_some_iff.1 hi).1
  rw [h.cellAt i (by omega)]
  simp [ptrs, hi]

end Go.Proofs.Qxb6601706a
