import Derived.Test.Qxb6601706aKey
namespace Go.Proofs.Qxb6601706a
open Go.RowKit
set_option linter.unusedVariables false
set_option linter.unusedSimpArgs false

set_option maxHeartbeats 1000000 in
set_option maxRecDepth 100000 in
theorem compare57 (a b : ByteArray) (w : World) : Calls Try.prog 57 #[.string a, .string b] w fun e w' => e = .returned (.int .i64 (cmp a b)) ∧ w' = w := by
  go_enter Try.func57, Try.ntmps57
  go_wp2
  rw [run_callFunc_extern Try.func60 (by kernel_rfl) (by kernel_rfl) (by kernel_rfl) (e := Extern.BytealgCompare.compare) (by kernel_rfl), Lib.run_compareString]
  simp only [Result.andThen]
  rw [Oper.upon_value]
  go_wp2
  go_ret
  exact ⟨rfl, rfl⟩

set_option maxHeartbeats 1000000 in
theorem compare46 (a b : ByteArray) (w : World) : Calls Try.prog 46 #[.string a, .string b] w fun e w' => e = .returned (.int .i64 (cmp a b)) ∧ w' = w := by
  go_enter Try.func46, Try.ntmps46
  go_wp2_with (go_at_call 57; refine (compare57 _ _ _).mono ?_; rintro e w' ⟨rfl, rfl⟩)
  go_ret
  exact ⟨rfl, rfl⟩

set_option maxHeartbeats 1000000 in
/-- the closure of search -/
theorem cmp54 (e : Ent) (key : ByteArray) (w : World) : Calls Try.prog 54 #[.agg #[.string e.key, .slice e.va e.vl e.vc, .int .u64 e.rev, .int .u64 e.lease], .string key] w fun en w' => en = .returned (.int .i64 (cmp e.key key)) ∧ w' = w.alloc (.cells #[.string e.key, .slice e.va e.vl e.vc, .int .u64 e.rev, .int .u64 e.lease] 52) := by
  go_enter Try.func54, Try.ntmps54
  go_wp2_with (go_at_call 46; refine (compare46 _ _ _).mono ?_; rintro e w' ⟨rfl, rfl⟩)
  go_ret
  exact ⟨rfl, rfl⟩

def SearchSays (w : World) (l : List Ent) (key : ByteArray) (en : Ending) (w' : World) : Prop :=
  ∃ (i : Nat) (ok : Bool), en = .returned (.tuple #[.int .i64 i, .bool ok]) ∧ i ≤ l.length ∧ (∀ j x, j < i → l[j]? = some x → Lt x.key key) ∧ (∀ j x, i ≤ j → l[j]? = some x → ¬ Lt x.key key) ∧ (ok = true ↔ ∃ x, l[i]? = some x ∧ x.key = key) ∧ w.grownBy w' none

theorem Sorted.get {l : List Ent} (h : Sorted l) {i j : Nat} {x y : Ent} (hi : l[i]? = some x) (hj : l[j]? = some y) (hij : i < j) : Lt x.key y.key := by
  obtain ⟨h1, rfl⟩ := List.getElem?_eq_some_iff.1 hi
  obtain ⟨h2, rfl⟩ := List.getElem?_eq_some_iff.1 hj
  exact List.pairwise_iff_getElem.1 h i j h1 h2 hij

theorem OwnE.grown {w w' : World} {t : TypeId} {v : Value} {l : List Ent} {r : Option Nat} (h : OwnE w t v l) (hg : w.grownBy w' r) (hr : v.ownBlock = none ∨ v.ownBlock ≠ r) : OwnE w' t v l := World.ownsRow.kept h hg hr

theorem OwnE.quiet {w w' : World} {t : TypeId} {v : Value} {l : List Ent} (h : OwnE w t v l) (hg : w.grownBy w' none) : OwnE w' t v l := h.grown hg (by cases v.ownBlock <;> simp)

theorem grownBy_alloc {a b : World} {r : Option Nat} (h : a.grownBy b r) (o : Obj) : a.grownBy (b.alloc o) r := grownBy_trans h (World.grownBy_alloc b o r)

set_option maxHeartbeats 4000000 in
set_option maxRecDepth 100000 in
theorem bsearch53 (v : Value) (l : List Ent) (key : ByteArray) (w : World) (hown : OwnE w 52 v l) (hn : l.length ≤ 1000) (hs : Sorted l) :
    Calls Try.prog 53 #[v, .string key, .func (.func 54) #[] #[]] w (SearchSays w l key) := by
  rcases hown.form with ⟨rfl, rfl⟩ | ⟨g, cap, rfl, hlt, hnc, hcm⟩
  · clear hown hs
    go_enter Try.func53, Try.ntmps53
    go_wp2
    go_loopw [9, 10] (fun lo hi wr => lo = .int .i64 0 ∧ hi = .int .i64 0 ∧ wr = w) (fun _ _ _ => 0)
    case atStart => exact ⟨rfl, rfl, rfl⟩
    case round =>
      obtain ⟨rfl, rfl, rfl⟩ := hrel
      go_wp2
      go_ret2
      exact ⟨0, false, rfl, Nat.le_refl _, by simp, by simp, by simp, grownBy_refl _ _⟩
  · have HO : Hid (OwnE w 52 (.slice (some ⟨g, 0, none⟩) l.length cap) l) := hown
    have HS : Hid (Sorted l) := hs
    obtain ⟨n, hnl⟩ : ∃ n, n = l.length := ⟨_, rfl⟩
    have HN : Hid (n = l.length) := hnl
    rw [← hnl] at hn hnc ⊢
    clear hown hs hnl
    unfold maxLen at hcm
    go_enter Try.func53, Try.ntmps53
    go_wp2
    go_loopw [9, 10] (fun lo hi wr => ∃ a b : Nat, lo = .int .i64 a ∧ hi = .int .i64 b ∧ a ≤ b ∧ b ≤ n ∧ Hid (∀ j x, j < a → l[j]? = some x → Lt x.key key) ∧ Hid (∀ j x, b ≤ j → l[j]? = some x → ¬ Lt x.key key) ∧ w.grownBy wr none) (fun lo hi _ => (intOf hi).toNat - (intOf lo).toNat)
    case atStart => exact ⟨0, n, rfl, rfl, Nat.zero_le _, Nat.le_refl _, by intro j x hj; omega, by intro j x hj hx; rw [HN.out, List.getElem?_eq_none (by have := HN.out; omega)] at *; simp_all, grownBy_refl _ _⟩
    case round =>
      obtain ⟨a, b, rfl, rfl, hab, hbn, HA, HB, hgr⟩ := hrel
      by_cases hlt : a < b
      · obtain ⟨m, hm⟩ : ∃ m, m = (a + b) / 2 := ⟨_, rfl⟩
        have hmn : m < n := by omega
        have hma : a ≤ m := by omega
        have hmb : m < b := by omega
        obtain ⟨x, hx⟩ : ∃ x, l[m]? = some x := ⟨_, List.getElem?_eq_getElem (by have := HN.out; omega)⟩
        obtain ⟨c0, c1, c2, c3⟩ := OwnE.cell (HO.out.quiet hgr) (rfl) hx
        have HX : Hid (l[m]? = some x) := hx
        have HG : Hid (w.grownBy wr none) := hgr
        subst hm
        clear hx hgr
        rcases cmp_three x.key key with h3 | h3 | h3
        · have hlt3 : Lt x.key key := h3
          go_wp2_with (go_at_call 54; refine (cmp54 x key _).mono ?_; rintro e w' ⟨rfl, rfl⟩)
          go_roundw
          case rel =>
            refine ⟨(a + b) / 2 + 1, b, by go_num, rfl, by omega, hbn, ?_, HB, grownBy_alloc HG.out _⟩
            intro j y hj hy
            by_cases e : j = (a + b) / 2
            · subst e
              rw [HX.out] at hy
              injection hy with hy
              rw [← hy]; exact hlt3
            · exact (HS.out.get hy HX.out (by omega)).trans hlt3
          case measure => simp [intOf]; omega
        · have hnl3 : ¬ Lt x.key key := by unfold Lt; omega
          go_wp2_with (go_at_call 54; refine (cmp54 x key _).mono ?_; rintro e w' ⟨rfl, rfl⟩)
          go_roundw
          case rel =>
            refine ⟨a, (a + b) / 2, rfl, by go_num, by omega, by omega, HA, ?_, grownBy_alloc HG.out _⟩
            intro j y hj hy
            by_cases e : j = (a + b) / 2
            · subst e
              rw [HX.out] at hy
              injection hy with hy
              rw [← hy]; exact hnl3
            · exact fun hl => hnl3 ((HS.out.get HX.out hy (by omega)).trans hl)
          case measure => simp [intOf]; omega
        · have hnl3 : ¬ Lt x.key key := by unfold Lt; omega
          go_wp2_with (go_at_call 54; refine (cmp54 x key _).mono ?_; rintro e w' ⟨rfl, rfl⟩)
          go_roundw
          case rel =>
            refine ⟨a, (a + b) / 2, rfl, by go_num, by omega, by omega, HA, ?_, grownBy_alloc HG.out _⟩
            intro j y hj hy
            by_cases e : j = (a + b) / 2
            · subst e
              rw [HX.out] at hy
              injection hy with hy
              rw [← hy]; exact hnl3
            · exact fun hl => hnl3 ((HS.out.get HX.out hy (by omega)).trans hl)
          case measure => simp [intOf]; omega
      · have hab' : a = b := by omega
        subst hab'
        by_cases han : a < n
        · obtain ⟨x, hx⟩ : ∃ x, l[a]? = some x := ⟨_, List.getElem?_eq_getElem (by have := HN.out; omega)⟩
          obtain ⟨c0, c1, c2, c3⟩ := OwnE.cell (HO.out.quiet hgr) (rfl) hx
          have HX : Hid (l[a]? = some x) := hx
          have HG : Hid (w.grownBy wr none) := hgr
          clear hx hgr
          rcases cmp_three x.key key with h3 | h3 | h3
          · have hne3 : Hid (x.key ≠ key) := Lt.ne h3
            go_wp2_with (go_at_call 54; refine (cmp54 x key _).mono ?_; rintro e w' ⟨rfl, rfl⟩)
            go_ret2
            exact ⟨a, false, rfl, by have := HN.out; omega, HA, HB, by rw [HX.out]; constructor; intro h; cases h; rintro ⟨y, hy, e⟩; injection hy with hy; subst hy; exact absurd e hne3.out, grownBy_alloc HG.out _⟩
          · have he3 : Hid (x.key = key) := cmp_zero.1 h3
            go_wp2_with (go_at_call 54; refine (cmp54 x key _).mono ?_; rintro e w' ⟨rfl, rfl⟩)
            go_ret2
            exact ⟨a, true, rfl, by have := HN.out; omega, HA, HB, ⟨fun _ => ⟨x, HX.out, he3.out⟩, fun _ => rfl⟩, grownBy_alloc HG.out _⟩
          · have hne3 : Hid (x.key ≠ key) := (Lt.ne (cmp_one.1 h3)).symm
            go_wp2_with (go_at_call 54; refine (cmp54 x key _).mono ?_; rintro e w' ⟨rfl, rfl⟩)
            go_ret2
            exact ⟨a, false, rfl, by have := HN.out; omega, HA, HB, by rw [HX.out]; constructor; intro h; cases h; rintro ⟨y, hy, e⟩; injection hy with hy; subst hy; exact absurd e hne3.out, grownBy_alloc HG.out _⟩
        · have han' : a = n := by omega
          have HG : Hid (w.grownBy wr none) := hgr
          clear hgr
          subst han'
          go_wp2
          go_ret2
          exact ⟨a, false, rfl, by have := HN.out; omega, HA, HB, by rw [List.getElem?_eq_none (by have := HN.out; omega)]; simp, HG.out⟩

end Go.Proofs.Qxb6601706a
