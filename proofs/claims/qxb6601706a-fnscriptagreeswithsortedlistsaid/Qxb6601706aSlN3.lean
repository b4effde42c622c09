import Derived.Test.Qxb6601706aSlN2
import Derived.Test.Qxb6601706aStc
namespace Go.Proofs.Qxb6601706a
open Go.RowKit
set_option linter.unusedVariables false
set_option linter.unusedSimpArgs false

set_option maxHeartbeats 4000000 in
set_option maxRecDepth 100000 in
/-- slices.Delete -/
theorem delN_in (g n cap i j : Nat) (xs : List Value) (w : World) (hown : w.ownsRow 0 32 1 (.slice (some ⟨g, 0, none⟩) n cap) n xs) (hn : n ≤ 1000) (hij : i < j) (hjn : j ≤ n) (hx1 : ∀ u ∈ xs, u.oneCell' = true) :
    Calls Try.prog 41 #[.slice (some ⟨g, 0, none⟩) n cap, .int .i64 i, .int .i64 j] w (fun en w' => RowSays 32 1 w (.slice (some ⟨g, 0, none⟩) n cap) (i + (n - j)) (xs.take (i * 1) ++ xs.drop (j * 1)) en w' ∧ ∃ cap', en = .returned (.slice (some ⟨g, 0, none⟩) (i + (n - j)) cap')) := by
  obtain ⟨i0, hi, hz0, hz1, hz2⟩ := info_parts Try.info32
  rcases hown.2 with ⟨h, _⟩ | ⟨g', cap', cur, h, _, hg, hnc, hcm, hcs, htk⟩
  · simp at h
  simp only [Value.slice.injEq, Option.some.injEq, Addr.mk.injEq, and_true, true_and] at h
  obtain ⟨rfl, rfl⟩ := h
  have hxl : xs.length = n * 1 := hown.1
  clear hown
  unfold maxLen at hcm
  have hcl : cur.toList.length = cap * 1 := by simpa using hcs
  have hdl : (xs.drop (j * 1)).length = (n - j) * 1 := by rw [List.length_drop, hxl]; omega
  obtain ⟨C1, hC1⟩ : ∃ C1, C1 = (cur.toList.take (i * 1) ++ xs.drop (j * 1) ++ cur.toList.drop (i * 1 + (xs.drop (j * 1)).length)) := ⟨_, rfl⟩
  have hC1l : C1.length = cap * 1 := by rw [hC1, ← hcl]; refine len_take_drop _ _ _ ?_; rw [hdl, hcl]; omega
  have hzc : (Value.cells (.pointer none)).size = 1 := rfl
  obtain ⟨C2, hC2⟩ : ∃ C2, C2 = (C1.take ((i + (n - j)) * 1) ++ (Builtin.zeroCells (Value.cells (.pointer none)) (j - i)).toList ++ C1.drop ((i + (n - j)) * 1 + (j - i) * (Value.cells (.pointer none)).size)) := ⟨_, rfl⟩
  have hC2l : C2.length = cap * 1 := by
    rw [hC2, hzc]
    simp only [List.length_append, List.length_take, List.length_drop, Array.length_toList, size_zeroCells, hzc, hC1l]
    omega
  have hap : ∀ W : World, W.heap = w.heap → ∀ ty o l c, l = n - j → (o = j * 1 ∨ l = 0) → (Builtin.append_ #[36, 36] ty #[.slice (some ⟨g, 0, none⟩) i cap, .slice (some ⟨g, o, none⟩) l c]).run Try.prog W = .ok (.slice (some ⟨g, 0, none⟩) (i + l) cap) (W.setRow g C1.toArray) := by
    intro W hW ty o l c hl ho
    subst hl
    have := run_append_room (P := Try.prog) W 36 ty 32 i0 Try.underlying36 hi g i cap cur (by rw [hW]; exact hg) ⟨g, o, none⟩ (n - j) c (xs.drop (j * 1)) (by rw [hdl, hz1])
      (cells_at (cur := cur) (e := 32) (by rw [hW]; exact hg) _ _ (by
        intro k v hv
        rcases ho with rfl | h0
        · rw [List.getElem?_drop, ← htk, List.getElem?_take] at hv; split at hv; exact hv; cases hv
        · rw [List.getElem?_eq_none (by rw [hdl, h0]; omega)] at hv; cases hv)) (fun v hv => hx1 v (List.mem_of_mem_drop hv)) (by omega) (by rw [hdl, hz1, hcs]; omega)
    rw [this, hC1, hz1]
  have hclr : ∀ W : World, W.heap[g]? = some (.cells C1.toArray 32 (0, 0)) → ∀ ty dc o l, o = (i + (n - j)) * 1 → l = j - i → (Builtin.clear_ #[36] ty #[.slice (some ⟨g, o, none⟩) l dc]).run Try.prog W = .ok (.tuple #[]) (W.setRow g C2.toArray) := by
    intro W hW ty dc o l ho hl
    subst ho hl
    have := run_clear_rowS Try.prog W 36 32 ty i0 (.pointer none) Try.underlying36 hi hz0 (by decide) g ((i + (n - j)) * 1) (j - i) dc (by omega) C1.toArray 32 hW (by rw [hzc]; simp [hC1l]; omega)
    rw [this, hC2]
  have HL : Hid (C2.take ((i + (n - j)) * 1) = xs.take (i * 1) ++ xs.drop (j * 1)) := by
    show C2.take ((i + (n - j)) * 1) = _
    have hl1 : (C1.take ((i + (n - j)) * 1)).length = (i + (n - j)) * 1 := by rw [List.length_take, hC1l]; omega
    rw [hC2, List.append_assoc, List.take_append_of_le_length (by omega), List.take_take, Nat.min_self, hC1]
    have hl2 : (cur.toList.take (i * 1) ++ xs.drop (j * 1)).length = (i + (n - j)) * 1 := by rw [List.length_append, List.length_take, hdl, hcl]; omega
    rw [List.take_append_of_le_length (by omega), List.take_of_length_le (by omega)]
    congr 1
    rw [← htk, List.take_take]
    congr 1
    omega
  have HC : Hid (C2.length = cap * 1) := hC2l
  have HH : Hid ((w.drew.setRow g C1.toArray).heap[g]? = some (.cells C1.toArray 32 (0, 0))) := setRow_heap w.drew g cur _ 32 _ hg
  clear hC1 hC2 hC2l hC1l hdl hcl hcs htk hg hxl hi hz0 hz1 hz2
  have hne : ¬ ((i : Int) = j) := by omega
  have hle : i ≤ j := by omega
  have hlec : i ≤ cap := by omega
  have hb1 : ¬ (cap = i + (n - j)) := by omega
  have hle2 : i + (n - j) ≤ n := by omega
  by_cases hcj : cap = j
  · have hnj : n = j := by omega
    subst hcj hnj
    have hb2 : ¬ (n = i) := by omega
    go_enter Try.func41, Try.ntmps41
    go_wp2_with fail
    go_region_law (refine step_append_runI rfl _ _ 36 36 rfl _ _ (by simp [Act.eval, Act.put]) (by simp [Act.eval, Act.put]) (hap w.drew rfl _ 0 0 0 (by omega) (.inr rfl)) ?_)
    go_wp2_with (refine wpList_clear_runI _ rfl _ 36 rfl _ rfl (hclr _ HH.out _ (n - i) (i) (n - i) (by omega) rfl) ?_)
    go_ret
    refine ⟨⟨g, n, by simp, ⟨?_, .inr ⟨g, n, C2.toArray, by simp, Nat.zero_le _, setRow_heap _ g C1.toArray _ 32 _ HH.out, by omega, by unfold maxLen; omega, by simpa using HC.out, HL.out⟩⟩, ?_, .inl rfl⟩, ?_⟩
    · rw [← HL.out, List.length_take, HC.out]; omega
    · exact grownBy_trans (grownBy_trans (grownBy_drew (grownBy_refl w _)) (grownBy_setRow w.drew g _)) (grownBy_setRow _ g _)
    · exact ⟨_, by simp; first | done | rfl⟩
  · go_enter Try.func41, Try.ntmps41
    go_wp2_with fail
    go_region_law (refine step_append_runI rfl _ _ 36 36 rfl _ _ (by simp [Act.eval, Act.put]) (by simp [Act.eval, Act.put]) (hap w.drew rfl _ (j) (n - j) (cap - j) rfl (.inl (by omega))) ?_)
    go_wp2_with (refine wpList_clear_runI _ rfl _ 36 rfl _ rfl (hclr _ HH.out _ (cap - (i + (n - j))) (i + (n - j)) (n - (i + (n - j))) (by omega) (by omega)) ?_)
    go_ret
    refine ⟨⟨g, cap, by simp, ⟨?_, .inr ⟨g, cap, C2.toArray, by simp, Nat.zero_le _, setRow_heap _ g C1.toArray _ 32 _ HH.out, by omega, by unfold maxLen; omega, by simpa using HC.out, HL.out⟩⟩, ?_, .inl rfl⟩, ?_⟩
    · rw [← HL.out, List.length_take, HC.out]; omega
    · exact grownBy_trans (grownBy_trans (grownBy_drew (grownBy_refl w _)) (grownBy_setRow w.drew g _)) (grownBy_setRow _ g _)
    · exact ⟨_, by simp; first | done | rfl⟩


def RowNIn (w0 : World) (o : List Nat) (A B : List Res) (g : Nat) (l : List Kid) (en : Ending) (w' : World) : Prop :=
  ∃ cap, en = .returned (.slice (some ⟨g, 0, none⟩) l.length cap) ∧ St w0 o w' (A ++ Res.rowN (.slice (some ⟨g, 0, none⟩) l.length cap) l :: B)
theorem delN_st_in {w0 w : World} {o : List Nat} (A B : List Res) {g n cap : Nat} {l1 l2 l3 : List Kid} {i j : Nat} (s : St w0 o w (A ++ Res.rowN (.slice (some ⟨g, 0, none⟩) n cap) (l1 ++ (l2 ++ l3)) :: B)) (hn : n = l1.length + (l2.length + l3.length)) (hl : n ≤ 1000) (hi : l1.length = i) (hj : l1.length + l2.length = j) (h2 : 0 < l2.length) :
    Calls Try.prog 41 #[.slice (some ⟨g, 0, none⟩) n cap, .int .i64 i, .int .i64 j] w (RowNIn w0 o A B g (l1 ++ l3)) := by
  have hx : OwnN w (.slice (some ⟨g, 0, none⟩) n cap) (l1 ++ (l2 ++ l3)) := s.h.mid
  have hx' : w.ownsRow 0 32 1 (.slice (some ⟨g, 0, none⟩) n cap) n (ptrs (l1 ++ (l2 ++ l3))) := by
    have e : n = (l1 ++ (l2 ++ l3)).length := by simp; omega
    unfold OwnN at hx
    rw [← e] at hx
    exact hx
  have := delN_in g n cap i j (ptrs (l1 ++ (l2 ++ l3))) w hx' hl (by omega) (by omega) (ptrs_one1 _)
  refine this.mono ?_
  rintro en w' ⟨hr, cap2, he2⟩
  rw [ptrs_take, ptrs_drop, List.take_left' hi, ← List.append_assoc, List.drop_left' (by simp; omega)] at hr
  obtain ⟨g', cap', he, S⟩ := St.rowN A B s hr (l1 ++ l3) (by simp; omega) (by simp [ptrs_append])
  rw [show i + (n - j) = (l1 ++ l3).length by simp; omega] at he S he2
  have hgg : g' = g := by
    rw [he] at he2
    simp at he2
    exact he2.1
  subst hgg
  exact ⟨cap', he, S⟩

end Go.Proofs.Qxb6601706a
