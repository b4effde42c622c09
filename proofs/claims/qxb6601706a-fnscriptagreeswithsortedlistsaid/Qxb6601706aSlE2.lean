import Derived.Test.Qxb6601706aSlE
namespace Go.Proofs.Qxb6601706a
open Go.RowKit
set_option linter.unusedVariables false
set_option linter.unusedSimpArgs false

set_option maxHeartbeats 4000000 in
set_option maxRecDepth 100000 in
/-- slices.Delete -/
theorem delE (g n cap i j : Nat) (xs : List Value) (w : World) (hown : w.ownsRow 0 52 4 (.slice (some ⟨g, 0, none⟩) n cap) n xs) (hn : n ≤ 1000) (hij : i < j) (hjn : j ≤ n) (hx1 : ∀ u ∈ xs, u.oneCell' = true) :
    Calls Try.prog 38 #[.slice (some ⟨g, 0, none⟩) n cap, .int .i64 i, .int .i64 j] w (RowSays 52 4 w (.slice (some ⟨g, 0, none⟩) n cap) (i + (n - j)) (xs.take (i * 4) ++ xs.drop (j * 4))) := by
  obtain ⟨i0, hi, hz0, hz1, hz2⟩ := info_parts Try.info52
  rcases hown.2 with ⟨h, _⟩ | ⟨g', cap', cur, h, _, hg, hnc, hcm, hcs, htk⟩
  · simp at h
  simp only [Value.slice.injEq, Option.some.injEq, Addr.mk.injEq, and_true, true_and] at h
  obtain ⟨rfl, rfl⟩ := h
  have hxl : xs.length = n * 4 := hown.1
  clear hown
  unfold maxLen at hcm
  have hcl : cur.toList.length = cap * 4 := by simpa using hcs
  have hdl : (xs.drop (j * 4)).length = (n - j) * 4 := by rw [List.length_drop, hxl]; omega
  obtain ⟨C1, hC1⟩ : ∃ C1, C1 = (cur.toList.take (i * 4) ++ xs.drop (j * 4) ++ cur.toList.drop (i * 4 + (xs.drop (j * 4)).length)) := ⟨_, rfl⟩
  have hC1l : C1.length = cap * 4 := by rw [hC1, ← hcl]; refine len_take_drop _ _ _ ?_; rw [hdl, hcl]; omega
  have hzc : (Value.cells (.agg #[.string ByteArray.empty, .slice none 0 0, .int .u64 0, .int .u64 0])).size = 4 := rfl
  obtain ⟨C2, hC2⟩ : ∃ C2, C2 = (C1.take ((i + (n - j)) * 4) ++ (Builtin.zeroCells (Value.cells (.agg #[.string ByteArray.empty, .slice none 0 0, .int .u64 0, .int .u64 0])) (j - i)).toList ++ C1.drop ((i + (n - j)) * 4 + (j - i) * (Value.cells (.agg #[.string ByteArray.empty, .slice none 0 0, .int .u64 0, .int .u64 0])).size)) := ⟨_, rfl⟩
  have hC2l : C2.length = cap * 4 := by
    rw [hC2, hzc]
    simp only [List.length_append, List.length_take, List.length_drop, Array.length_toList, size_zeroCells, hzc, hC1l]
    omega
  have hap : ∀ W : World, W.heap = w.heap → ∀ ty o l c, l = n - j → (o = j * 4 ∨ l = 0) → (Builtin.append_ #[35, 35] ty #[.slice (some ⟨g, 0, none⟩) i cap, .slice (some ⟨g, o, none⟩) l c]).run Try.prog W = .ok (.slice (some ⟨g, 0, none⟩) (i + l) cap) (W.setRow g C1.toArray) := by
    intro W hW ty o l c hl ho
    subst hl
    have := run_append_room (P := Try.prog) W 35 ty 52 i0 Try.underlying35 hi g i cap cur (by rw [hW]; exact hg) ⟨g, o, none⟩ (n - j) c (xs.drop (j * 4)) (by rw [hdl, hz1])
      (cells_at (cur := cur) (e := 52) (by rw [hW]; exact hg) _ _ (by
        intro k v hv
        rcases ho with rfl | h0
        · rw [List.getElem?_drop, ← htk, List.getElem?_take] at hv; split at hv; exact hv; cases hv
        · rw [List.getElem?_eq_none (by rw [hdl, h0]; omega)] at hv; cases hv)) (fun v hv => hx1 v (List.mem_of_mem_drop hv)) (by omega) (by rw [hdl, hz1, hcs]; omega)
    rw [this, hC1, hz1]
  have hclr : ∀ W : World, W.heap[g]? = some (.cells C1.toArray 52 (0, 0)) → ∀ ty dc o l, o = (i + (n - j)) * 4 → l = j - i → (Builtin.clear_ #[35] ty #[.slice (some ⟨g, o, none⟩) l dc]).run Try.prog W = .ok (.tuple #[]) (W.setRow g C2.toArray) := by
    intro W hW ty dc o l ho hl
    subst ho hl
    have := run_clear_rowS Try.prog W 35 52 ty i0 (.agg #[.string ByteArray.empty, .slice none 0 0, .int .u64 0, .int .u64 0]) Try.underlying35 hi hz0 (by decide) g ((i + (n - j)) * 4) (j - i) dc (by omega) C1.toArray 52 hW (by rw [hzc]; simp [hC1l]; omega)
    rw [this, hC2]
  have HL : Hid (C2.take ((i + (n - j)) * 4) = xs.take (i * 4) ++ xs.drop (j * 4)) := by
    show C2.take ((i + (n - j)) * 4) = _
    have hl1 : (C1.take ((i + (n - j)) * 4)).length = (i + (n - j)) * 4 := by rw [List.length_take, hC1l]; omega
    rw [hC2, List.append_assoc, List.take_append_of_le_length (by omega), List.take_take, Nat.min_self, hC1]
    have hl2 : (cur.toList.take (i * 4) ++ xs.drop (j * 4)).length = (i + (n - j)) * 4 := by rw [List.length_append, List.length_take, hdl, hcl]; omega
    rw [List.take_append_of_le_length (by omega), List.take_of_length_le (by omega)]
    congr 1
    rw [← htk, List.take_take]
    congr 1
    omega
  have HC : Hid (C2.length = cap * 4) := hC2l
  have HH : Hid ((w.drew.setRow g C1.toArray).heap[g]? = some (.cells C1.toArray 52 (0, 0))) := setRow_heap w.drew g cur _ 52 _ hg
  clear hC1 hC2 hC2l hC1l hdl hcl hcs htk hg hxl hi hz0 hz1 hz2
  have hne : ¬ ((i : Int) = j) := by omega
  have hle : i ≤ j := by omega
  have hlec : i ≤ cap := by omega
  have hb1 : ¬ (cap = i + (n - j)) := by omega
  have hle2 : i + (n - j) ≤ n := by omega
  by_cases hcj : cap = j
  · have hnj : n = j := by omega
    subst hcj hnj
    have hb2 : ¬ (n = i) := by omega
    go_enter Try.func38, Try.ntmps38
    go_wp2_with fail
    go_region_law (refine step_append_runI rfl _ _ 35 35 rfl _ _ (by simp [Act.eval, Act.put]) (by simp [Act.eval, Act.put]) (hap w.drew rfl _ 0 0 0 (by omega) (.inr rfl)) ?_)
    go_wp2_with (refine wpList_clear_runI _ rfl _ 35 rfl _ rfl (hclr _ HH.out _ (n - i) (i * 4) (n - i) (by omega) rfl) ?_)
    go_ret
    refine ⟨g, n, by simp, ⟨?_, .inr ⟨g, n, C2.toArray, by simp, Nat.zero_le _, setRow_heap _ g C1.toArray _ 52 _ HH.out, by omega, by unfold maxLen; omega, by simpa using HC.out, HL.out⟩⟩, ?_, .inl rfl⟩
    · rw [← HL.out, List.length_take, HC.out]; omega
    · exact grownBy_trans (grownBy_trans (grownBy_drew (grownBy_refl w _)) (grownBy_setRow w.drew g _)) (grownBy_setRow _ g _)
  · go_enter Try.func38, Try.ntmps38
    go_wp2_with fail
    go_region_law (refine step_append_runI rfl _ _ 35 35 rfl _ _ (by simp [Act.eval, Act.put]) (by simp [Act.eval, Act.put]) (hap w.drew rfl _ (j * 4) (n - j) (cap - j) rfl (.inl (by omega))) ?_)
    go_wp2_with (refine wpList_clear_runI _ rfl _ 35 rfl _ rfl (hclr _ HH.out _ (cap - (i + (n - j))) ((i + (n - j)) * 4) (n - (i + (n - j))) (by omega) (by omega)) ?_)
    go_ret
    refine ⟨g, cap, by simp, ⟨?_, .inr ⟨g, cap, C2.toArray, by simp, Nat.zero_le _, setRow_heap _ g C1.toArray _ 52 _ HH.out, by omega, by unfold maxLen; omega, by simpa using HC.out, HL.out⟩⟩, ?_, .inl rfl⟩
    · rw [← HL.out, List.length_take, HC.out]; omega
    · exact grownBy_trans (grownBy_trans (grownBy_drew (grownBy_refl w _)) (grownBy_setRow w.drew g _)) (grownBy_setRow _ g _)

set_option maxHeartbeats 4000000 in
set_option maxRecDepth 100000 in
/-- slices.Clone of a run of a row -/
theorem cloE (g o n cap : Nat) (cur : Array Value) (e : TypeId) (xs : List Value) (w : World) (hg : w.heap[g]? = some (.cells cur e (0, 0))) (hn : n ≤ 1000) (hn0 : 0 < n) (hxl : xs.length = n * 4) (hxs : ∀ j v, xs[j]? = some v → cur.toList[o + j]? = some v) (hx1 : ∀ u ∈ xs, u.oneCell' = true) :
    Calls Try.prog 55 #[.slice (some ⟨g, o, none⟩) n cap] w (RowSays 52 4 w (.slice none 0 0) n xs) := by
  obtain ⟨i0, hi, hz0, hz1, hz2⟩ := info_parts Try.info52
  have hgl : g < w.heap.size := (Array.getElem?_eq_some_iff.1 hg).1
  have hnil := fun w => Lib.run_eql_slice_nil (P := Try.prog) w 35 52 (some ⟨g, o, none⟩) n cap 0 0 Try.underlying35
  have hcv : ∀ j u, xs[j]? = some u → (w.alloc (.cells #[] 52)).cell? ((⟨g, o, none⟩ : Addr).add j) = some u := cells_at (by rw [Below.heap_alloc w _ g hgl]; exact hg) o xs hxs
  have HO : Hid ((w.alloc (.cells #[] 52)).ownsRow 0 52 4 (.slice (some ⟨w.heap.size, 0, none⟩) 0 0) 0 []) := World.ownsRow_made w #[] 0 (Nat.zero_le _) (Nat.zero_le _) (by simp)
  clear hxs hg
  go_enter Try.func55, Try.ntmps55
  go_wp2_with (at_builtin; refine wpList_append_lies _ rfl _ _ 35 rfl 0 52 i0 (.agg #[.string ByteArray.empty, .slice none 0 0, .int .u64 0, .int .u64 0]) 4 56 Try.underlying35 hi hz0 hz1 hz2 rfl (by omega) _ _ _ rfl HO.out ⟨g, o, none⟩ n cap xs rfl (by simpa using hxl) hcv hx1 (by omega) (by unfold maxLen; omega) (by omega) (Nat.zero_le _) _ rfl ?_; intro g1 cap1 w1 hown1 hgrow1 hat1 hlt1)
  go_ret
  simp only [Nat.zero_add, List.nil_append] at hown1 ⊢
  refine ⟨g1, cap1, rfl, hown1, ?_, .inr ?_⟩
  · refine ⟨hgrow1.os, hgrow1.tape, hgrow1.output, ?_, fun k hk _ => ?_⟩
    · have := hgrow1.size; simp at this; omega
    · rw [hgrow1.block k (by simp; omega) (fun h => by have h' : some k = some w.heap.size := h; simp at h'; omega), Below.heap_alloc w _ k hk]
  · rcases hat1 with h | h
    · have h' : some w.heap.size = some g1 := h
      simp at h'; omega
    · have h' : g1 = (w.alloc (.cells #[] 52)).heap.size := h
      simp at h'; omega

end Go.Proofs.Qxb6601706a
