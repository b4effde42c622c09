import Derived.Test.Qxb6601706aBase
namespace Go.Proofs.Qxb6601706a
open Go.RowKit
set_option linter.unusedVariables false
set_option linter.unusedSimpArgs false

set_option maxHeartbeats 4000000 in
set_option maxRecDepth 100000 in
/-- slices.Insert, at the end -/
theorem insE_end (v : Value) (n vb : Nat) (xs es : List Value) (tb : TypeId) (w : World) (hown : w.ownsRow 0 52 4 v n xs) (hn : n ≤ 1000) (hes : es.length = 4) (he1 : ∀ u ∈ es, u.oneCell' = true)
    (hvb : w.heap[vb]? = some (.cells es.toArray tb (0, 0))) :
    Calls Try.prog 37 #[v, .int .i64 n, .slice (some ⟨vb, 0, none⟩) 1 1] w (RowSays 52 4 w v (n + 1) (xs ++ es)) := by
  obtain ⟨i0, hi, hz0, hz1, hz2⟩ := info_parts Try.info52
  have hcv : ∀ j u, es[j]? = some u → w.cell? ((⟨vb, 0, none⟩ : Addr).add j) = some u := cells_at hvb 0 es (by intro j v hv; simpa using hv)
  clear hvb
  have HO : Hid (w.ownsRow 0 52 4 v n xs) := hown
  rcases hown.2 with ⟨rfl, rfl⟩ | ⟨g, cap, cur, rfl, _, hg, hnc, hcm, hcs, htk⟩
  · clear hown
    go_enter Try.func37, Try.ntmps37
    go_wp2_with (at_builtin; refine wpList_append_lies _ rfl _ _ 35 rfl 0 52 i0 (.agg #[.string ByteArray.empty, .slice none 0 0, .int .u64 0, .int .u64 0]) 4 56 Try.underlying35 hi hz0 hz1 hz2 rfl (by omega) _ _ _ rfl HO.out ⟨vb, 0, none⟩ 1 1 es rfl (by simpa using hes) hcv he1 (by omega) (by unfold maxLen; omega) (by omega) (Nat.zero_le _) _ rfl ?_; intro g1 cap1 w1 hown1 hgrow1 hat1 hlt1)
    go_ret
    exact ⟨g1, cap1, rfl, hown1, hgrow1, by rcases hat1 with h | h; exact .inl h; exact .inr (by omega)⟩
  · clear hown hg htk
    unfold maxLen at hcm
    go_enter Try.func37, Try.ntmps37
    go_wp2_with (at_builtin; refine wpList_append_lies _ rfl _ _ 35 rfl 0 52 i0 (.agg #[.string ByteArray.empty, .slice none 0 0, .int .u64 0, .int .u64 0]) 4 56 Try.underlying35 hi hz0 hz1 hz2 rfl (by omega) _ _ _ rfl HO.out ⟨vb, 0, none⟩ 1 1 es rfl (by simpa using hes) hcv he1 (by omega) (by unfold maxLen; omega) (by omega) (Nat.zero_le _) _ rfl ?_; intro g1 cap1 w1 hown1 hgrow1 hat1 hlt1)
    all_goals
      go_ret
      exact ⟨g1, cap1, rfl, hown1, hgrow1, by rcases hat1 with h | h; exact .inl h; exact .inr (by omega)⟩


set_option maxHeartbeats 4000000 in
set_option maxRecDepth 100000 in
/-- slices.Insert, in the middle, there is room -/
theorem insE_shift (g n cap i vb : Nat) (xs es : List Value) (tb : TypeId) (w : World) (hown : w.ownsRow 0 52 4 (.slice (some ⟨g, 0, none⟩) n cap) n xs) (hn : n ≤ 1000) (hin : i < n) (hroom : n + 1 ≤ cap) (hes : es.length = 4) (he1 : ∀ u ∈ es, u.oneCell' = true) (hx1 : ∀ u ∈ xs, u.oneCell' = true)
    (hvb : w.heap[vb]? = some (.cells es.toArray tb (0, 0))) (hne : vb ≠ g) :
    Calls Try.prog 37 #[.slice (some ⟨g, 0, none⟩) n cap, .int .i64 i, .slice (some ⟨vb, 0, none⟩) 1 1] w (RowSays 52 4 w (.slice (some ⟨g, 0, none⟩) n cap) (n + 1) (xs.take (i * 4) ++ es ++ xs.drop (i * 4))) := by
  obtain ⟨i0, hi, hz0, hz1, hz2⟩ := info_parts Try.info52
  have hsz : (Try.prog.info? 52).map (·.size) = some 4 := by rw [hi]; simp [hz1]
  have HO : Hid (w.ownsRow 0 52 4 (.slice (some ⟨g, 0, none⟩) n cap) n xs) := hown
  rcases hown.2 with ⟨h, _⟩ | ⟨g', cap', cur, h, _, hg, _, hcm, hcs, htk⟩
  · simp at h
  simp only [Value.slice.injEq, Option.some.injEq, Addr.mk.injEq, and_true, true_and] at h
  obtain ⟨rfl, rfl⟩ := h
  have hxl : xs.length = n * 4 := hown.1
  clear hown
  unfold maxLen at hcm
  have hcl : cur.toList.length = cap * 4 := by simpa using hcs
  obtain ⟨C1, hC1⟩ : ∃ C1, C1 = (cur.toList.take ((i + 1) * 4) ++ xs.drop (i * 4) ++ cur.toList.drop ((i + 1) * 4 + (xs.drop (i * 4)).length)) := ⟨_, rfl⟩
  have hdl : (xs.drop (i * 4)).length = (n - i) * 4 := by rw [List.length_drop, hxl]; omega
  have hC1l : C1.length = cap * 4 := by rw [hC1, ← hcl]; refine len_take_drop _ _ _ ?_; rw [hdl, hcl]; omega
  obtain ⟨C2, hC2⟩ : ∃ C2, C2 = (C1.take (i * 4) ++ es ++ C1.drop (i * 4 + es.length)) := ⟨_, rfl⟩
  have hC2l : C2.length = cap * 4 := by rw [hC2, ← hC1l]; refine len_take_drop _ _ _ ?_; rw [hes, hC1l]; omega
  have hov : ∀ o lb cb, (callFunc 49 #[.slice (some ⟨vb, 0, none⟩) 1 1, .slice (some ⟨g, o, none⟩) lb cb]).run Try.prog w = .ok (.value (.bool false)) w := fun o lb cb => by
    rw [run_callFunc_extern Try.func49 (by kernel_rfl) (by kernel_rfl) (by kernel_rfl) (e := Extern.SlicesOverlaps.overlaps #[35, 35] #[4]) (by kernel_rfl),
      Lib.run_overlaps_apart w 35 4 52 Try.underlying35 4 (by intro w; simp [sizeOf, typeInfo, hi, hz1]) ⟨vb, 0, none⟩ ⟨g, o, none⟩ 1 1 lb cb hne tb 52 4 (cap * 4) (by simp [World.shape?, hvb, hes]) (by simp [World.shape?, hg, hcs]) (by omega) (by simp [World.frozen?, hvb]) (by simp [World.frozen?, hvb])]
    rfl
  have hcp1 : ∀ W : World, W.heap = w.heap → ∀ ty dc sc o1 o2 l1 l2, o1 = (i + 1) * 4 → o2 = i * 4 → l1 = n - i → l2 = n + 1 - i → (Builtin.copy_ #[35, 35] ty #[.slice (some ⟨g, o1, none⟩) l1 dc, .slice (some ⟨g, o2, none⟩) l2 sc]).run Try.prog W = .ok (goInt ((n - i : Nat))) (W.setRow g C1.toArray) := by
    intro W hW ty dc sc o1 o2 l1 l2 e1 e2 e3 e4
    subst e1 e2 e3 e4
    have := run_copy_rowS Try.prog W 35 35 ty 52 4 g ((i + 1) * 4) (n - i) dc ⟨g, i * 4, none⟩ (n + 1 - i) sc cur 52 (xs.drop (i * 4)) Try.underlying35 hsz (by rw [hW]; exact hg) (by rw [hdl]; simp only [Nat.min_def]; split <;> omega)
      (cells_at (by rw [hW]; exact hg) _ _ (by intro j v hv; rw [List.getElem?_drop, ← htk, List.getElem?_take] at hv; split at hv; exact hv; cases hv)) (by rw [hdl, hcs]; omega) (fun v hv => hx1 v (List.mem_of_mem_drop hv))
    rw [this, hC1]
    simp only [Nat.min_def]
    congr 2
    split <;> omega
  have hcp2 : ∀ W : World, W.heap[g]? = some (.cells C1.toArray 52 (0, 0)) → W.heap[vb]? = some (.cells es.toArray tb (0, 0)) → ∀ ty dc o2, o2 = i * 4 → (Builtin.copy_ #[35, 35] ty #[.slice (some ⟨g, o2, none⟩) (n + 1 - i) dc, .slice (some ⟨vb, 0, none⟩) 1 1]).run Try.prog W = .ok (goInt (1 : Nat)) (W.setRow g C2.toArray) := by
    intro W hW1 hW2 ty dc o2 e2
    subst e2
    have := run_copy_rowS Try.prog W 35 35 ty 52 4 g (i * 4) (n + 1 - i) dc ⟨vb, 0, none⟩ 1 1 C1.toArray 52 es Try.underlying35 hsz hW1 (by rw [hes]; simp only [Nat.min_def]; split <;> omega)
      (cells_at hW2 _ _ (by intro j v hv; simpa using hv)) (by rw [hes]; simp [hC1l]; omega) he1
    rw [this, hC2]
    simp only [Nat.min_def]
    congr 2
    split <;> omega
  have HL : Hid (C2.take ((n + 1) * 4) = xs.take (i * 4) ++ es ++ xs.drop (i * 4)) := by
    show C2.take ((n + 1) * 4) = _
    apply List.ext_getElem?
    intro j
    have hxj : ∀ j, j < n * 4 → cur.toList[j]? = xs[j]? := by intro j hj; rw [← htk, List.getElem?_take, if_pos hj]
    rw [hC2]
    have hl1 : (C1.take (i * 4)).length = i * 4 := by rw [List.length_take, hC1l]; omega
    have hl2 : (xs.take (i * 4)).length = i * 4 := by rw [List.length_take, hxl]; omega
    have hl3 : (cur.toList.take ((i + 1) * 4)).length = (i + 1) * 4 := by rw [List.length_take, hcl]; omega
    have hC1a : ∀ j, j < i * 4 → C1[j]? = xs[j]? := by
      intro j hj
      rw [hC1, List.append_assoc, List.getElem?_append_left (by omega), List.getElem?_take, if_pos (by omega), hxj j (by omega)]
    have hC1b : ∀ j, (i + 1) * 4 ≤ j → j < (n + 1) * 4 → C1[j]? = xs[j - 4]? := by
      intro j hj hj2
      rw [hC1, List.append_assoc, List.getElem?_append_right (by omega), hl3, List.getElem?_append_left (by omega), List.getElem?_drop]
      congr 1 <;> omega
    by_cases hj : j < (n + 1) * 4
    · rw [List.getElem?_take, if_pos hj, List.append_assoc, List.append_assoc]
      by_cases h1 : j < i * 4
      · rw [List.getElem?_append_left (by omega), List.getElem?_append_left (by omega), List.getElem?_take, if_pos h1, List.getElem?_take, if_pos h1, hC1a j h1]
      · rw [List.getElem?_append_right (l₁ := C1.take (i * 4)) (by omega), List.getElem?_append_right (l₁ := xs.take (i * 4)) (by omega), hl1, hl2]
        by_cases h2 : j < (i + 1) * 4
        · rw [List.getElem?_append_left (by omega), List.getElem?_append_left (by omega)]
        · rw [List.getElem?_append_right (l₁ := es) (by omega), List.getElem?_append_right (l₁ := es) (by omega), List.getElem?_drop, List.getElem?_drop, hes, show i * 4 + 4 + (j - i * 4 - 4) = j by omega, hC1b j (by omega) hj]
          congr 1 <;> omega
    · rw [List.getElem?_eq_none, List.getElem?_eq_none]
      · simp only [List.length_append, List.length_take, List.length_drop]; omega
      · simp only [List.length_append, List.length_take, List.length_drop]; omega
  have HC : Hid (C2.length = cap * 4) := hC2l
  have HH : Hid (∀ W : World, W.heap = w.heap → (W.setRow g C1.toArray).heap[g]? = some (.cells C1.toArray 52 (0, 0)) ∧ (W.setRow g C1.toArray).heap[vb]? = some (.cells es.toArray tb (0, 0))) := by
    intro W hW
    exact ⟨setRow_heap W g cur _ 52 _ (by rw [hW]; exact hg), by rw [setRow_other W g vb _ hne, hW]; exact hvb⟩
  have HG : Hid (w.heap[g]? = some (.cells cur 52 (0, 0))) := hg
  clear hC1 hC2 hC2l hC1l hdl hcl hcs htk hg hvb hxl hi hz0 hz1 hz2 hsz hes
  have hw1 : IntKind.i64.wrap ((i : Int) + 1) = (i : Int) + 1 := by rw [IntKind.wrap_i64]; omega
  have hp1 : (0 : Int) ≤ (i : Int) + 1 := by omega
  have hle : i ≤ n := by omega
  have htn : ((i : Int) + 1).toNat = i + 1 := by omega
  have hb3 : (i : Int) ≤ (n : Int) + 1 := by omega
  have hb1 : ¬ (cap = i + 1) := by omega
  have hb2 : ¬ (cap = i) := by omega
  go_enter Try.func37, Try.ntmps37
  go_wp2_with (simp only [hov])
  go_region_law (refine step_copy_runI rfl _ _ 35 35 rfl _ _ (by simp [Act.eval, Act.put]) (by simp [Act.eval, Act.put]) (hcp1 w.drew rfl _ (cap - (i + 1)) (cap - i) ((i + 1) * 4) (i * 4) (n - i) (n + 1 - i) (by omega) (by omega) (by omega) (by omega)) ?_)
  go_wp2_with (refine wpList_copy_runI _ rfl _ _ 35 35 rfl _ _ rfl rfl (hcp2 _ (HH.out w.drew rfl).1 (HH.out w.drew rfl).2 _ (cap - i) (i * 4) (by omega)) ?_)
  go_ret
  refine ⟨g, cap, rfl, ⟨?_, .inr ⟨g, cap, C2.toArray, rfl, Nat.zero_le _, setRow_heap _ g C1.toArray _ 52 _ (HH.out w.drew rfl).1, hroom, by unfold maxLen; omega, by simpa using HC.out, HL.out⟩⟩, ?_, .inl rfl⟩
  · rw [← HL.out, List.length_take, HC.out]; omega
  · exact grownBy_trans (grownBy_trans (grownBy_drew (grownBy_refl w _)) (grownBy_setRow w.drew g _)) (grownBy_setRow _ g _)

set_option maxHeartbeats 4000000 in
set_option maxRecDepth 100000 in
/-- slices.Insert, in the middle, no room -/
theorem insE_grow (g n cap i vb : Nat) (xs es : List Value) (tb : TypeId) (w : World) (hown : w.ownsRow 0 52 4 (.slice (some ⟨g, 0, none⟩) n cap) n xs) (hn : n ≤ 1000) (hin : i < n) (hroom : cap < n + 1) (hes : es.length = 4) (he1 : ∀ u ∈ es, u.oneCell' = true) (hx1 : ∀ u ∈ xs, u.oneCell' = true)
    (hvb : w.heap[vb]? = some (.cells es.toArray tb (0, 0))) :
    Calls Try.prog 37 #[.slice (some ⟨g, 0, none⟩) n cap, .int .i64 i, .slice (some ⟨vb, 0, none⟩) 1 1] w (RowSays 52 4 w (.slice (some ⟨g, 0, none⟩) n cap) (n + 1) (xs.take (i * 4) ++ es ++ xs.drop (i * 4))) := by
  obtain ⟨i0, hi, hz0, hz1, hz2⟩ := info_parts Try.info52
  have hsz : (Try.prog.info? 52).map (·.size) = some 4 := by rw [hi]; simp [hz1]
  rcases hown.2 with ⟨h, _⟩ | ⟨g', cap', cur, h, _, hg, hnc, hcm, hcs, htk⟩
  · simp at h
  simp only [Value.slice.injEq, Option.some.injEq, Addr.mk.injEq, and_true, true_and] at h
  obtain ⟨rfl, rfl⟩ := h
  have hcn : cap = n := by omega
  subst hcn
  have hxl : xs.length = cap * 4 := hown.1
  have hvl : vb < w.heap.size := (Array.getElem?_eq_some_iff.1 hvb).1
  have hgl : g < w.heap.size := (Array.getElem?_eq_some_iff.1 hg).1
  clear hown
  unfold maxLen at hcm
  obtain ⟨gc, hgc⟩ : ∃ gc, gc = grownCap w (cap + 1) cap 52 := ⟨_, rfl⟩
  have hgc1 : cap + 1 ≤ gc := by rw [hgc]; exact grownCap_ge _ _ _ _
  have hgc2 : gc ≤ maxLen := by rw [hgc]; exact grownCap_le_maxLen _ _ _ _ (by unfold maxLen; omega)
  have hgc3 : gc ≤ 9223372036854775807 := by unfold maxLen at hgc2; omega
  obtain ⟨D0, hD0⟩ : ∃ D0 : Array Value, D0 = (xs.take (i * 4)).toArray ++ Builtin.zeroCells (Value.cells (.agg #[.string ByteArray.empty, .slice none 0 0, .int .u64 0, .int .u64 0])) (cap + 1 - i) ++ Builtin.zeroCells (Value.cells (.agg #[.string ByteArray.empty, .slice none 0 0, .int .u64 0, .int .u64 0])) (gc - (cap + 1)) := ⟨_, rfl⟩
  have hD0s : D0.size = gc * 4 := by
    rw [hD0]
    have hzc : (Value.cells (.agg #[.string ByteArray.empty, .slice none 0 0, .int .u64 0, .int .u64 0])).size = 4 := rfl
    simp only [Array.size_append, List.size_toArray, List.length_take, size_zeroCells, hzc, hxl]
    omega
  have hD0t : ∀ j, j < i * 4 → D0.toList[j]? = xs[j]? := by
    intro j hj
    rw [hD0, Array.toList_append, Array.toList_append, List.append_assoc, List.getElem?_append_left (by simp [hxl]; omega), List.getElem?_take, if_pos hj]
  obtain ⟨W1, hW1⟩ : ∃ W1, W1 = w.drew.alloc (.cells D0 52) := ⟨_, rfl⟩
  have hap : ∀ ty, (Builtin.append_ #[35, 3] ty #[.slice (some ⟨g, 0, none⟩) i cap, .int .i64 ((cap : Int) + 1 - i)]).run Try.prog w = .ok (.slice (some ⟨w.heap.size, 0, none⟩) (cap + 1) gc) W1 := by
    intro ty
    have hold : (Builtin.firstCells i0.size i (.slice (some ⟨g, 0, none⟩) i cap)).run Try.prog w.drew = .ok (xs.take (i * 4)).toArray w.drew := by
      refine run_firstCells_some w.drew i0.size i ⟨g, 0, none⟩ i cap _ ?_ ?_
      · rw [List.length_take, hz1, hxl]; omega
      · refine cells_at (w := w.drew) (cur := cur) (e := 52) hg 0 _ ?_
        intro j v hv
        rw [List.getElem?_take] at hv
        split at hv
        · rename_i hj
          rw [← htk, List.getElem?_take, if_pos (by omega)] at hv
          simpa using hv
        · cases hv
    have := Lib.run_append_grow_zeros (P := Try.prog) w 35 3 ty 52 i0 (.agg #[.string ByteArray.empty, .slice none 0 0, .int .u64 0, .int .u64 0]) .i64 .i64 Try.underlying35 Try.underlying3 hi hz0 (some ⟨g, 0, none⟩) i cap (xs.take (i * 4)) hold (cap + 1 - i) (by omega) (by rw [hz1]; omega) (by omega) (by omega) (by rw [hz2]; omega) (by rw [hz2]; exact growslice_fits (by omega) (by omega))
    rw [show i + (cap + 1 - i) = cap + 1 by omega, show ((cap + 1 - i : Nat) : Int) = (cap : Int) + 1 - i by omega] at this
    rw [this, hW1, hD0, hgc]
  have hW1h : W1.heap[w.heap.size]? = some (.cells D0 52 (0, 0)) := by rw [hW1]; exact heap_alloc_new w.drew _
  have hW1o : ∀ k, k < w.heap.size → W1.heap[k]? = w.heap[k]? := fun k hk => by rw [hW1]; exact Below.heap_alloc w.drew _ k hk
  have hW1g : w.grownBy W1 (some g) := by rw [hW1]; exact grownBy_trans (grownBy_drew (grownBy_refl w _)) (World.grownBy_alloc w.drew _ _)
  have HWS : Hid (W1.heap.size = w.heap.size + 1) := by show W1.heap.size = _; rw [hW1]; simp
  clear hW1 hD0 hgc
  obtain ⟨H, hH⟩ : ∃ H, H = w.heap.size := ⟨_, rfl⟩
  have hvH : vb ≠ H := by omega
  have hgH : g ≠ H := by omega
  have HHs : Hid (H = w.heap.size) := hH
  rw [← hH] at hW1h hap
  have hDl : D0.toList.length = gc * 4 := by simpa using hD0s
  obtain ⟨C1, hC1⟩ : ∃ C1, C1 = (D0.toList.take (i * 4) ++ es ++ D0.toList.drop (i * 4 + es.length)) := ⟨_, rfl⟩
  have hC1l : C1.length = gc * 4 := by rw [hC1, ← hDl]; refine len_take_drop _ _ _ ?_; rw [hes, hDl]; omega
  have hdl : (xs.drop (i * 4)).length = (cap - i) * 4 := by rw [List.length_drop, hxl]; omega
  obtain ⟨C2, hC2⟩ : ∃ C2, C2 = (C1.take ((i + 1) * 4) ++ xs.drop (i * 4) ++ C1.drop ((i + 1) * 4 + (xs.drop (i * 4)).length)) := ⟨_, rfl⟩
  have hC2l : C2.length = gc * 4 := by rw [hC2, ← hC1l]; refine len_take_drop _ _ _ ?_; rw [hdl, hC1l]; omega
  have hcp1 : ∀ ty dc o1 l1, o1 = i * 4 → l1 = cap + 1 - i → (Builtin.copy_ #[35, 35] ty #[.slice (some ⟨H, o1, none⟩) l1 dc, .slice (some ⟨vb, 0, none⟩) 1 1]).run Try.prog W1 = .ok (goInt (1 : Nat)) (W1.setRow H C1.toArray) := by
    intro ty dc o1 l1 e1 e2
    subst e1 e2
    have := run_copy_rowS Try.prog W1 35 35 ty 52 4 H (i * 4) (cap + 1 - i) dc ⟨vb, 0, none⟩ 1 1 D0 52 es Try.underlying35 hsz hW1h (by rw [hes]; simp only [Nat.min_def]; split <;> omega)
      (cells_at (by rw [hW1o vb hvl]; exact hvb) _ _ (by intro j v hv; simpa using hv)) (by rw [hes, hD0s]; omega) he1
    rw [this, hC1]
    simp only [Nat.min_def]
    congr 2
    split <;> omega
  have hh1 : (W1.setRow H C1.toArray).heap[H]? = some (.cells C1.toArray 52 (0, 0)) := setRow_heap W1 H D0 _ 52 _ hW1h
  have hh2 : (W1.setRow H C1.toArray).heap[g]? = some (.cells cur 52 (0, 0)) := by rw [setRow_other W1 H g _ hgH, hW1o g hgl]; exact hg
  have hcp2 : ∀ W, W.heap = (W1.setRow H C1.toArray).heap → ∀ ty dc sc o1 o2 l1 l2, o1 = (i + 1) * 4 → o2 = i * 4 → l1 = cap - i → l2 = cap - i → (Builtin.copy_ #[35, 35] ty #[.slice (some ⟨H, o1, none⟩) l1 dc, .slice (some ⟨g, o2, none⟩) l2 sc]).run Try.prog W = .ok (goInt (cap - i : Nat)) (W.setRow H C2.toArray) := by
    intro W hW ty dc sc o1 o2 l1 l2 e1 e2 e3 e4
    subst e1 e2 e3 e4
    have := run_copy_rowS Try.prog W 35 35 ty 52 4 H ((i + 1) * 4) (cap - i) dc ⟨g, i * 4, none⟩ (cap - i) sc C1.toArray 52 (xs.drop (i * 4)) Try.underlying35 hsz (by rw [hW]; exact hh1) (by rw [hdl]; simp only [Nat.min_def]; split <;> omega)
      (cells_at (cur := cur) (e := 52) (by rw [hW]; exact hh2) _ _ (by intro j v hv; rw [List.getElem?_drop, ← htk, List.getElem?_take] at hv; split at hv; exact hv; cases hv)) (by rw [hdl]; simp [hC1l]; omega) (fun v hv => hx1 v (List.mem_of_mem_drop hv))
    rw [this, hC2]
    simp only [Nat.min_def]
    congr 2
    split <;> omega
  have HL : Hid (C2.take ((cap + 1) * 4) = xs.take (i * 4) ++ es ++ xs.drop (i * 4)) := by
    show C2.take ((cap + 1) * 4) = _
    apply List.ext_getElem?
    intro j
    have hl1 : (D0.toList.take (i * 4)).length = i * 4 := by rw [List.length_take, hDl]; omega
    have hl2 : (xs.take (i * 4)).length = i * 4 := by rw [List.length_take, hxl]; omega
    have hl3 : (C1.take ((i + 1) * 4)).length = (i + 1) * 4 := by rw [List.length_take, hC1l]; omega
    have hC1a : ∀ j, j < i * 4 → C1[j]? = xs[j]? := by
      intro j hj
      rw [hC1, List.append_assoc, List.getElem?_append_left (by omega), List.getElem?_take, if_pos (by omega), hD0t j hj]
    have hC1b : ∀ j, i * 4 ≤ j → j < (i + 1) * 4 → C1[j]? = es[j - i * 4]? := by
      intro j hj hj2
      rw [hC1, List.append_assoc, List.getElem?_append_right (by omega), hl1, List.getElem?_append_left (by omega)]
    by_cases hj : j < (cap + 1) * 4
    · rw [List.getElem?_take, if_pos hj, hC2, List.append_assoc, List.append_assoc]
      by_cases h1 : j < i * 4
      · rw [List.getElem?_append_left (l₁ := C1.take ((i + 1) * 4)) (by omega), List.getElem?_append_left (l₁ := xs.take (i * 4)) (by omega), List.getElem?_take, if_pos (by omega), List.getElem?_take, if_pos h1, hC1a j h1]
      · rw [List.getElem?_append_right (l₁ := xs.take (i * 4)) (by omega), hl2]
        by_cases h2 : j < (i + 1) * 4
        · rw [List.getElem?_append_left (l₁ := C1.take ((i + 1) * 4)) (by omega), List.getElem?_append_left (l₁ := es) (by omega), List.getElem?_take, if_pos h2, hC1b j (by omega) h2]
        · rw [List.getElem?_append_right (l₁ := C1.take ((i + 1) * 4)) (by omega), hl3, List.getElem?_append_right (l₁ := es) (by omega), List.getElem?_append_left (by omega), hes]
          congr 1 <;> omega
    · rw [List.getElem?_eq_none, List.getElem?_eq_none]
      · simp only [List.length_append, List.length_take, List.length_drop]; omega
      · simp only [List.length_append, List.length_take, List.length_drop]; omega
  have HC : Hid (C2.length = gc * 4) := hC2l
  have HW1 : Hid ((W1.setRow H C1.toArray).heap[H]? = some (.cells C1.toArray 52 (0, 0))) := hh1
  clear hC1 hC2 hC2l hC1l hdl hDl hD0s hD0t hcs htk hg hvb hxl hi hz0 hz1 hz2 hsz hes hh1 hh2 hW1h hW1o hH
  have hw1 : IntKind.i64.wrap ((i : Int) + 1) = (i : Int) + 1 := by rw [IntKind.wrap_i64]; omega
  have hw2 : IntKind.i64.wrap ((cap : Int) + 1 - i) = (cap : Int) + 1 - i := by rw [IntKind.wrap_i64]; omega
  have hp1 : (0 : Int) ≤ (i : Int) + 1 := by omega
  have hle : i ≤ cap := by omega
  have htn : ((i : Int) + 1).toNat = i + 1 := by omega
  have hb3 : (i : Int) ≤ (cap : Int) + 1 := by omega
  have hb1 : ¬ (gc = i + 1) := by omega
  have hb2 : ¬ (gc = i) := by omega
  have hb4 : ¬ (cap = i) := by omega
  go_enter Try.func37, Try.ntmps37
  go_wp2_with (first | (at_builtin; refine wpList_append_runI _ rfl _ _ 35 3 rfl _ _ rfl rfl (hap _) ?_) | (refine wpList_copy_runI _ rfl _ _ 35 35 rfl _ _ rfl rfl (hcp1 _ (gc - i) (i * 4) (cap + 1 - i) (by omega) rfl) ?_))
  go_region_law (refine step_copy_runI rfl _ _ 35 35 rfl _ _ (by simp [Act.eval, Act.put]) (by simp [Act.eval, Act.put]) (hcp2 (W1.setRow H C1.toArray).drew rfl _ (gc - (i + 1)) (cap - i) ((i + 1) * 4) (i * 4) (cap - i) (cap - i) (by omega) (by omega) rfl rfl) ?_)
  go_wp2
  go_ret
  refine ⟨H, gc, rfl, ⟨?_, .inr ⟨H, gc, C2.toArray, rfl, Nat.zero_le _, setRow_heap _ H C1.toArray _ 52 _ HW1.out, hgc1, hgc2, by simpa using HC.out, HL.out⟩⟩, ?_, .inr ?_⟩
  · rw [← HL.out, List.length_take, HC.out]; omega
  · have h1 := HHs.out
    refine ⟨hW1g.os, hW1g.tape, hW1g.output, ?_, fun k hk hr => ?_⟩
    · simpa using hW1g.size
    · rw [setRow_other _ H k _ (by omega), show (W1.setRow H C1.toArray).drew.heap[k]? = (W1.setRow H C1.toArray).heap[k]? from rfl, setRow_other _ H k _ (by omega), hW1g.block k hk hr]
  · have h1 := HHs.out; omega

/-- slices.Insert of one element -/
theorem insE (v : Value) (n i vb : Nat) (xs es : List Value) (tb : TypeId) (w : World) (hown : w.ownsRow 0 52 4 v n xs) (hn : n ≤ 1000) (hin : i ≤ n) (hes : es.length = 4) (he1 : ∀ u ∈ es, u.oneCell' = true) (hx1 : ∀ u ∈ xs, u.oneCell' = true)
    (hvb : w.heap[vb]? = some (.cells es.toArray tb (0, 0))) (hne : v.ownBlock ≠ some vb) :
    Calls Try.prog 37 #[v, .int .i64 i, .slice (some ⟨vb, 0, none⟩) 1 1] w (RowSays 52 4 w v (n + 1) (xs.take (i * 4) ++ es ++ xs.drop (i * 4))) := by
  by_cases e : i = n
  · subst e
    have h1 : xs.take (i * 4) = xs := List.take_of_length_le (by rw [hown.1]; exact Nat.le_refl _)
    have h2 : xs.drop (i * 4) = [] := List.drop_eq_nil_of_le (by rw [hown.1]; exact Nat.le_refl _)
    rw [h1, h2, List.append_nil]
    exact insE_end v i vb xs es tb w hown hn hes he1 hvb
  · obtain ⟨g, cap, rfl, _, _⟩ := hown.form (by omega)
    by_cases hr : n + 1 ≤ cap
    · exact insE_shift g n cap i vb xs es tb w hown hn (by omega) hr hes he1 hx1 hvb (by intro h; exact hne (by simp [Value.ownBlock, h]))
    · exact insE_grow g n cap i vb xs es tb w hown hn (by omega) (by omega) hes he1 hx1 hvb

end Go.Proofs.Qxb6601706a
