import Derived.Test.Qxb6601706aFlat
import Derived.Test.Qxb6601706aDelP
namespace Go.Proofs.Qxb6601706a
open Go.RowKit
set_option linter.unusedVariables false
set_option linter.unusedSimpArgs false

def ModelDSays (w : World) (l : List Ent) (key : ByteArray) (en : Ending) (w' : World) : Prop :=
  ∃ v' ok, en = .returned (.tuple #[v', .bool ok]) ∧ OwnE w' 57 v' (deleteL key l) ∧ w.grownBy w' none ∧ (ok = true ↔ Has key l)
def MdRel (w : World) (key : ByteArray) (l : List Ent) (n : Nat) (ov pv cv : Value) (wr : World) : Prop :=
  ∃ (c : Nat) (p : Bool), pv = .bool p ∧ cv = .int .i64 c ∧ c ≤ n ∧ FlMid w (.slice none 0 0) (deleteL key (l.take c)) ov wr ∧ (p = true ↔ Has key (l.take c))
theorem deleteL_len (k : ByteArray) (l : List Ent) : (deleteL k l).length ≤ l.length := List.length_filter_le _ _
theorem deleteL_other {k : ByteArray} {x : Ent} (h : x.key ≠ k) : deleteL k [x] = [x] := deleteL_ne (by intro y hy; simp at hy; subst hy; exact h)

set_option maxHeartbeats 2000000 in
set_option maxRecDepth 100000 in
theorem modelDelete26 {w : World} {v : Value} {l : List Ent} (key : ByteArray) (ho : OwnE w 57 v l) (hlen : l.length ≤ 2000000) : Calls Try.prog 26 #[v, .string key] w (ModelDSays w l key) := by
  obtain ⟨i0, hi, hz0, hz1, hz2⟩ := info_parts Try.info57
  obtain ⟨n, hn⟩ : ∃ n, n = l.length := ⟨_, rfl⟩
  obtain ⟨va, vc, hv⟩ : ∃ va vc, v = .slice va n vc := by
    rcases ho.form with ⟨h1, h2⟩ | ⟨g, c, h1, _⟩
    · exact ⟨none, 0, by rw [h1, hn, h2]; rfl⟩
    · exact ⟨_, c, by rw [h1, hn]⟩
  subst hv
  have HR : Hid (∀ wx, w.grownBy wx none → ∀ (c : Nat) (x : Ent), l[c]? = some x → ∃ g, va = some ⟨g, 0, none⟩ ∧ wx.cell? ⟨g, c * 4, none⟩ = some (.string x.key) ∧ wx.cell? ⟨g, c * 4 + 1, none⟩ = some (.slice x.va x.vl x.vc) ∧ wx.cell? ⟨g, c * 4 + 2, none⟩ = some (.int .u64 x.rev) ∧ wx.cell? ⟨g, c * 4 + 3, none⟩ = some (.int .u64 x.lease)) := by
    intro wx hg c x hx
    have h2 : OwnE wx 57 (.slice va n vc) l := World.ownsRow.kept ho hg (by cases h : (Value.slice va n vc).ownBlock <;> simp)
    rcases h2.form with ⟨_, h3⟩ | ⟨g, c', h3, _⟩
    · rw [h3] at hx; simp at hx
    · simp only [Value.slice.injEq] at h3
      obtain ⟨rfl, _, rfl⟩ := h3
      exact ⟨g, rfl, h2.cell hn hx⟩
  have HF : Hid (n = l.length) := hn
  have hn2 : n ≤ 2000000 := by omega
  clear ho hlen hn
  go_enter Try.func26, Try.ntmps26
  go_wp2_with (at_make; refine wpList_make_own _ rfl _ _ 26 rfl 0 57 i0 (.agg #[.string ByteArray.empty, .slice none 0 0, .int .u64 0, .int .u64 0]) 4 Try.under26 hi hz0 hz1 .i64 .i64 _ n rfl rfl rfl (by rw [hz2]; omega) (by unfold maxLen; omega) (Nat.zero_le _) ?_; intro w1 hown1 hgrow1; have HST : Hid (FlMid w (.slice none 0 0) [] (.slice (some ⟨w.heap.size, 0, none⟩) 0 n) w1) := ⟨hown1, hgrow1, by intro b hb; simp [Value.ownBlock] at hb; exact .inr (by omega)⟩; clear hown1 hgrow1)
  go_loopw [6, 7, 8] (MdRel w key l n) (fun _ _ cv _ => n - (intOf cv).toNat)
  case atStart => exact ⟨0, false, rfl, rfl, Nat.zero_le _, HST.out, by simp [Has]⟩
  case round =>
    clear HST
    obtain ⟨c, p, rfl, rfl, hc, hmid, hp⟩ := hrel
    have HM : Hid (FlMid w (.slice none 0 0) (deleteL key (l.take c)) _ wr) := hmid
    have HP : Hid (p = true ↔ Has key (l.take c)) := hp
    clear hmid hp
    by_cases hlt : c < n
    · have hlti : (c : Int) < n := by omega
      obtain ⟨x, hx⟩ : ∃ x, l[c]? = some x := ⟨_, List.getElem?_eq_getElem (by have := HF.out; omega)⟩
      obtain ⟨g, hva, x0, x1, x2, x3⟩ := HR.out wr HM.out.2.1 c x hx
      subst hva
      have HX : Hid (l.take (c + 1) = l.take c ++ [x]) := by rw [List.take_add_one, hx]; rfl
      have HLN : Hid ((deleteL key (l.take c)).length ≤ 4000000) := by have h1 := deleteL_len key (l.take c); have h2 := List.length_take_le c l; show _ ≤ _; omega
      clear hx
      by_cases hk : x.key = key
      · have heq : (x.key.toList == key.toList) = true := (same_iff _ _).2 hk
        have HK : Hid (x.key = key) := hk
        clear hk
        as_aux_lemma =>
          go_wp2_with fail
          go_roundw
          case rel =>
            refine ⟨c + 1, true, rfl, by go_num, by omega, ?_, ?_⟩
            · rw [HX.out, deleteL_append, deleteL_eq HK.out, List.append_nil]; exact HM.out
            · simp only [true_iff]
              rw [HX.out]
              exact ⟨x, by simp, HK.out⟩
          case measure => simp [intOf] <;> omega
      · have hne : (x.key.toList == key.toList) = false := by rw [Bool.eq_false_iff]; intro h'; exact hk ((same_iff _ _).1 h')
        have HK : Hid (x.key ≠ key) := hk
        clear hk
        as_aux_lemma =>
          go_wp2_with (at_builtin; refine wpList_app57 _ rfl _ _ rfl _ (deleteL key (l.take c)) rfl (HM.out.grow (World.grownBy_alloc _ _ none)).1 wr.heap.size x rfl (heap_alloc_new _ _) HLN.out ?_; intro g7 cap7 w7 ho3 hg3 hb3; have HM7 : Hid (FlMid w (.slice none 0 0) (deleteL key (l.take c) ++ [x]) _ w7) := (HM.out.grow (World.grownBy_alloc _ _ none)).app ho3 hg3 hb3; clear ho3 hg3 hb3)
          go_roundw
          case rel =>
            refine ⟨c + 1, p, rfl, by go_num, by omega, ?_, ?_⟩
            · rw [HX.out, deleteL_append, deleteL_other HK.out]; exact HM7.out
            · rw [HP.out, HX.out]
              constructor
              · rintro ⟨y, hy, e⟩; exact ⟨y, by simp [hy], e⟩
              · rintro ⟨y, hy, e⟩
                rcases List.mem_append.1 hy with hy | hy
                · exact ⟨y, hy, e⟩
                · simp at hy; subst hy; exact absurd e HK.out
          case measure => simp [intOf] <;> omega
    · have hcn : c = n := by omega
      subst hcn
      as_aux_lemma =>
        go_wp2_with fail
        go_ret2
        have h1 := HM.out.1
        have h2 := HP.out
        rw [List.take_of_length_le (by have := HF.out; omega)] at h1 h2
        exact ⟨_, p, rfl, h1, HM.out.2.1, h2⟩

end Go.Proofs.Qxb6601706a
