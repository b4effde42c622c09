import Derived.Test.Qxb6601706aSlN
namespace Go.Proofs.Qxb6601706a
open Go.RowKit
set_option linter.unusedVariables false
set_option linter.unusedSimpArgs false

set_option maxHeartbeats 4000000 in
set_option maxRecDepth 100000 in
/-- slices.Delete -/
theorem delN (g n cap i j : Nat) (xs : List Value) (w : World) (hown : w.ownsRow 0 32 1 (.slice (some ⟨g, 0, none⟩) n cap) n xs) (hn : n ≤ 1000) (hij : i < j) (hjn : j ≤ n) (hx1 : ∀ u ∈ xs, u.oneCell' = true) :
    Calls Try.prog 41 #[.slice (some ⟨g, 0, none⟩) n cap, .int .i64 i, .int .i64 j] w (RowSays 32 1 w (.slice (some ⟨g, 0, none⟩) n cap) (i + (n - j)) (xs.take (i * 1) ++ xs.drop (j * 1))) := by
  obtain ⟨i0, hi, hz0, hz1, hz2⟩ := info_parts Try.info32
  rcases hown.2 with ⟨h, _⟩ | ⟨g', cap', cur, h, _, hg, hnc, hcm, hcs, htk⟩
  · simp at h
  simp only [Value.slice.injEq, Option.some.injEq, Addr.mk.injEq, and_true, true_and] at h
  obtain ⟨rfl, rfl⟩ := h
  have hxl : xs.length = n * 1 := hown.1
  clear hown
  unfold maxLen at hcm
  have hcl : cur.toList.length = cap * 1 := by simpa using hcs
  have hdl : (xs.drop (j * 1)).length = (n - j) * 1 := by rw [List.length_drop, hxl]; omega
  obtain ⟨C1, hC1⟩ : ∃ C1, C1 = (cur.toList.take (i * 1) ++ xs.drop (j * 1) ++ cur.toList.drop (i * 1 + (xs.drop (j * 1)).length)) := ⟨_, rfl⟩
  have hC1l : C1.length = cap * 1 := by rw [hC1, ← hcl]; refine len_take_drop _ _ _ ?_; rw [hdl, hcl]; omega
  have hzc : (Value.cells (.pointer none)).size = 1 := rfl
  obtain ⟨C2, hC2⟩ : ∃ C2, C2 = (C1.take ((i + (n - j)) * 1) ++ (Builtin.zeroCells (Value.cells (.pointer none)) (j - i)).toList ++ C1.drop ((i + (n - j)) * 1 + (j - i) * (Value.cells (.pointer none)).size)) := ⟨_, rfl⟩
  have hC2l : C2.length = cap * 1 := by
    rw [hC2, hzc]
    simp only [List.length_append, List.length_take, List.length_drop, Array.length_toList, size_zeroCells, hzc, hC1l]
    omega
  have hap : ∀ W : World, W.heap = w.heap → ∀ ty o l c, l = n - j → (o = j * 1 ∨ l = 0) → (Builtin.append_ #[36, 36] ty #[.slice (some ⟨g, 0, none⟩) i cap, .slice (some ⟨g, o, none⟩) l c]).run Try.prog W = .ok (.slice (some ⟨g, 0, none⟩) (i + l) cap) (W.setRow g C1.toArray) := by
    intro W hW ty o l c hl ho
    subst hl
    have := run_append_room (P := Try.prog) W 36 ty 32 i0 Try.underlying36 hi g i cap cur (by rw [hW]; exact hg) ⟨g, o, none⟩ (n - j) c (xs.drop (j * 1)) (by rw [hdl, hz1])
      (cells_at (cur := cur) (e := 32) (by rw [hW]; exact hg) _ _ (by
        intro k v hv
        rcases ho with rfl | h0
        · rw [List.getElem?_drop, ← htk, List.getElem?_take] at hv; split at hv; exact hv; cases hv
        · rw [List.getElem?_eq_none (by rw [hdl, h0]; omega)] at hv; cases hv)) (fun v hv => hx1 v (List.mem_of_mem_drop hv)) (by omega) (by rw [hdl, hz1, hcs]; omega)
    rw [this, hC1, hz1]
  have hclr : ∀ W : World, W.heap[g]? = some (.cells C1.toArray 32 (0, 0)) → ∀ ty dc o l, o = (i + (n - j)) * 1 → l = j - i → (Builtin.clear_ #[36] ty #[.slice (some ⟨g, o, none⟩) l dc]).run Try.prog W = .ok (.tuple #[]) (W.setRow g C2.toArray) := by
    intro W hW ty dc o l ho hl
    subst ho hl
    have := run_clear_rowS Try.prog W 36 32 ty i0 (.pointer none) Try.underlying36 hi hz0 (by decide) g ((i + (n - j)) * 1) (j - i) dc (by omega) C1.toArray 32 hW (by rw [hzc]; simp [hC1l]; omega)
    rw [this, hC2]
  have HL : Hid (C2.take ((i + (n - j)) * 1) = xs.take (i * 1) ++ xs.drop (j * 1)) := by
    show C2.take ((i + (n - j)) * 1) = _
    have hl1 : (C1.take ((i + (n - j)) * 1)).length = (i + (n - j)) * 1 := by rw [List.length_take, hC1l]; omega
    rw [hC2, List.append_assoc, List.take_append_of_le_length (by omega), List.take_take, Nat.min_self, hC1]
    have hl2 : (cur.toList.take (i * 1) ++ xs.drop (j * 1)).length = (i + (n - j)) * 1 := by rw [List.length_append, List.length_take, hdl, hcl]; omega
    rw [List.take_append_of_le_length (by omega), List.take_of_length_le (by omega)]
    congr 1
    rw [← htk, List.take_take]
    congr 1
    omega
  have HC : Hid (C2.length = cap * 1) := hC2l
  have HH : Hid ((w.drew.setRow g C1.toArray).heap[g]? = some (.cells C1.toArray 32 (0, 0))) := setRow_heap w.drew g cur _ 32 _ hg
  clear hC1 hC2 hC2l hC1l hdl hcl hcs htk hg hxl hi hz0 hz1 hz2
  have hne : ¬ ((i : Int) = j) := by omega
  have hle : i ≤ j := by omega
  have hlec : i ≤ cap := by omega
  have hb1 : ¬ (cap = i + (n - j)) := by omega
  have hle2 : i + (n - j) ≤ n := by omega
  by_cases hcj : cap = j
  · have hnj : n = j := by omega
    subst hcj hnj
    have hb2 : ¬ (n = i) := by omega
    go_enter Try.func41, Try.ntmps41
    go_wp2_with fail
    go_region_law (refine step_append_runI rfl _ _ 36 36 rfl _ _ (by simp [Act.eval, Act.put]) (by simp [Act.eval, Act.put]) (hap w.drew rfl _ 0 0 0 (by omega) (.inr rfl)) ?_)
    go_wp2_with (refine wpList_clear_runI _ rfl _ 36 rfl _ rfl (hclr _ HH.out _ (n - i) (i) (n - i) (by omega) rfl) ?_)
    go_ret
    refine ⟨g, n, by simp, ⟨?_, .inr ⟨g, n, C2.toArray, by simp, Nat.zero_le _, setRow_heap _ g C1.toArray _ 32 _ HH.out, by omega, by unfold maxLen; omega, by simpa using HC.out, HL.out⟩⟩, ?_, .inl rfl⟩
    · rw [← HL.out, List.length_take, HC.out]; omega
    · exact grownBy_trans (grownBy_trans (grownBy_drew (grownBy_refl w _)) (grownBy_setRow w.drew g _)) (grownBy_setRow _ g _)
  · go_enter Try.func41, Try.ntmps41
    go_wp2_with fail
    go_region_law (refine step_append_runI rfl _ _ 36 36 rfl _ _ (by simp [Act.eval, Act.put]) (by simp [Act.eval, Act.put]) (hap w.drew rfl _ (j) (n - j) (cap - j) rfl (.inl (by omega))) ?_)
    go_wp2_with (refine wpList_clear_runI _ rfl _ 36 rfl _ rfl (hclr _ HH.out _ (cap - (i + (n - j))) (i + (n - j)) (n - (i + (n - j))) (by omega) (by omega)) ?_)
    go_ret
    refine ⟨g, cap, by simp, ⟨?_, .inr ⟨g, cap, C2.toArray, by simp, Nat.zero_le _, setRow_heap _ g C1.toArray _ 32 _ HH.out, by omega, by unfold maxLen; omega, by simpa using HC.out, HL.out⟩⟩, ?_, .inl rfl⟩
    · rw [← HL.out, List.length_take, HC.out]; omega
    · exact grownBy_trans (grownBy_trans (grownBy_drew (grownBy_refl w _)) (grownBy_setRow w.drew g _)) (grownBy_setRow _ g _)

set_option maxHeartbeats 4000000 in
set_option maxRecDepth 100000 in
/-- slices.Clone of a run of a row -/
theorem cloN (g o n cap : Nat) (cur : Array Value) (e : TypeId) (xs : List Value) (w : World) (hg : w.heap[g]? = some (.cells cur e (0, 0))) (hn : n ≤ 1000) (hn0 : 0 < n) (hxl : xs.length = n * 1) (hxs : ∀ j v, xs[j]? = some v → cur.toList[o + j]? = some v) (hx1 : ∀ u ∈ xs, u.oneCell' = true) :
    Calls Try.prog 56 #[.slice (some ⟨g, o, none⟩) n cap] w (RowSays 32 1 w (.slice none 0 0) n xs) := by
  obtain ⟨i0, hi, hz0, hz1, hz2⟩ := info_parts Try.info32
  have hgl : g < w.heap.size := (Array.getElem?_eq_some_iff.1 hg).1
  have hnil := fun w => Lib.run_eql_slice_nil (P := Try.prog) w 36 32 (some ⟨g, o, none⟩) n cap 0 0 Try.underlying36
  have hcv : ∀ j u, xs[j]? = some u → (w.alloc (.cells #[] 32)).cell? ((⟨g, o, none⟩ : Addr).add j) = some u := cells_at (by rw [Below.heap_alloc w _ g hgl]; exact hg) o xs hxs
  have HO : Hid ((w.alloc (.cells #[] 32)).ownsRow 0 32 1 (.slice (some ⟨w.heap.size, 0, none⟩) 0 0) 0 []) := World.ownsRow_made w #[] 0 (Nat.zero_le _) (Nat.zero_le _) (by simp)
  clear hxs hg
  go_enter Try.func56, Try.ntmps56
  go_wp2_with (at_builtin; refine wpList_append_lies _ rfl _ _ 36 rfl 0 32 i0 (.pointer none) 1 8 Try.underlying36 hi hz0 hz1 hz2 rfl (by omega) _ _ _ rfl HO.out ⟨g, o, none⟩ n cap xs rfl (by simpa using hxl) hcv hx1 (by omega) (by unfold maxLen; omega) (by omega) (Nat.zero_le _) _ rfl ?_; intro g1 cap1 w1 hown1 hgrow1 hat1 hlt1)
  go_ret
  simp only [Nat.zero_add, List.nil_append] at hown1 ⊢
  refine ⟨g1, cap1, rfl, hown1, ?_, .inr ?_⟩
  · refine ⟨hgrow1.os, hgrow1.tape, hgrow1.output, ?_, fun k hk _ => ?_⟩
    · have := hgrow1.size; simp at this; omega
    · rw [hgrow1.block k (by simp; omega) (fun h => by have h' : some k = some w.heap.size := h; simp at h'; omega), Below.heap_alloc w _ k hk]
  · rcases hat1 with h | h
    · have h' : some w.heap.size = some g1 := h
      simp at h'; omega
    · have h' : g1 = (w.alloc (.cells #[] 32)).heap.size := h
      simp at h'; omega

end Go.Proofs.Qxb6601706a
