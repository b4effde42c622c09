import Derived.Test.Qxb6601706aFlatT
import Derived.Test.Qxb6601706aShapeT
namespace Go.Proofs.Qxb6601706a
open Go.RowKit
set_option linter.unusedVariables false
set_option linter.unusedSimpArgs false

def ValidSays (T : NT 8) (w : World) (e : Ending) (w' : World) : Prop :=
  ∃ (H : Nat) (ok : Bool), e = .returned (.tuple #[.int .i64 H, .bool ok]) ∧ w.grownBy w' none ∧ (ok = true → ∃ h : Nat, H = h + 1 ∧ ShOk 8 T h ∧ Sorted (flatT 8 T))
theorem ValidSays.no {T : NT 8} {w w' : World} (h : w.grownBy w' none) : ValidSays T w (.returned (.tuple #[.int .i64 0, .bool false])) w' := ⟨0, false, rfl, h, fun h => by cases h⟩

theorem Sorted.snoc {l : List Ent} {k : Nat} {x y : Ent} (hs : Sorted (l.take (k + 1))) (hx : l[k]? = some x) (hy : l[k + 1]? = some y) (hxy : Lt x.key y.key) : Sorted (l.take (k + 2)) := by
  rw [List.take_add_one, hy]
  refine List.pairwise_append.2 ⟨hs, by simp, ?_⟩
  intro a ha b hb
  simp at hb; subst hb
  rw [List.take_add_one, hx] at ha hs
  rcases List.mem_append.1 ha with h | h
  · exact (hs.cross h (by simp)).trans hxy
  · simp at h; subst h; exact hxy

theorem neless {a b : ByteArray} (h : ¬ Lt a b) : Op.bytesLess a.toList b.toList = false := by
  rw [Bool.eq_false_iff]; intro h'; exact h ((less_iff a b).1 h')

theorem sh_weak {T : NT 8} {H : Nat} {ok ir : Bool} (hok : ok = true → ∃ h : Nat, H = h + 1 ∧ ShOk 8 T h ∧ (ir = false → 31 ≤ recs 8 T)) : ok = true → ∃ h : Nat, H = h + 1 ∧ ShOk 8 T h := fun h => by
  obtain ⟨h1, h2, h3, _⟩ := hok h
  exact ⟨h1, h2, h3⟩

def VdRel (w : World) (l : List Ent) (kv : Value) (wr : World) : Prop := ∃ k : Nat, kv = .int .i64 ((k : Int) + 1) ∧ (k = 0 ∨ k + 1 ≤ l.length) ∧ w.grownBy wr none ∧ Sorted (l.take (k + 1))

set_option maxHeartbeats 8000000 in
set_option maxRecDepth 100000 in
theorem valid9 (rd : Rd) (N : Nat) (v : Value) (T : NT 8) (w : World) (hat : At rd 8 v T) (hrd : Reads rd w) (hdom : ∀ a x, rd a = some x → a.block < N) (hN : N ≤ w.heap.size) (hcnt : cntT 8 T ≤ 2000000) :
    Calls Try.prog 9 #[v] w (ValidSays T w) := by
  by_cases hT : T = none
  · subst hT
    have hv : v = .pointer none := hat
    subst hv
    clear hat hrd hdom hN hcnt
    go_enter Try.func9, Try.ntmps9
    go_wp2
    go_returns
    exact ValidSays.no (grownBy_refl _ _)
  · have HS : Hid (Calls Try.prog 31 #[v, .bool true, .int .i64 8] w (ShSays 8 T true w)) := shape31 8 rd v T w true hat hrd (by omega)
    obtain ⟨q, hq⟩ := At.pointer 8 v T hat
    have hqs : ∃ a, q = some a := by
      cases T with
      | none => exact absurd rfl hT
      | some n => have := hat.1; rw [hq] at this; exact ⟨_, by injection this⟩
    obtain ⟨a, rfl⟩ := hqs
    subst hq
    have HFL : Hid (∀ m h, ShOk 8 T h → Calls Try.prog 11 #[.pointer (some a), .slice none 0 0, .int .i64 8] (w.drewN m) (RowsSays (w.drewN m) (.slice none 0 0) (flatT 8 T))) := by
      intro m h hsh
      have := flat11 8 rd N (.pointer (some a)) T (w.drewN m) (.slice none 0 0) [] h hat (hrd.drewN m) hdom (World.ownsRow_nil _ 0 57 4) (by simp [Value.ownBlock]) hN hsh (by omega) (by rw [flat_cnt 8 T h hsh]; simpa using hcnt)
      simpa using this
    have HCN : Hid (∀ h, ShOk 8 T h → (flatT 8 T).length ≤ 2000000) := fun h hsh => by rw [flat_cnt 8 T h hsh]; exact hcnt
    clear hat hrd hdom hN hcnt hT
    go_enter Try.func9, Try.ntmps9
    go_upto_if 16 with (go_at_call 31; refine HS.out.mono ?_; rintro e w' ⟨H, ok, rfl, ⟨m, rfl⟩, hH9, hok⟩; have HO : Hid (ok = true → ∃ h : Nat, H = h + 1 ∧ ShOk 8 T h) := sh_weak hok; clear hok)
    cases ok with
    | false =>
      go_wp2
      go_returns
      exact ValidSays.no (grownBy_drewN w m none)
    | true =>
      obtain ⟨h, hH, hsh⟩ := HO.out rfl
      subst hH
      have HSH : Hid (ShOk 8 T h) := hsh
      have HC : Hid (Calls Try.prog 11 #[.pointer (some a), .slice none 0 0, .int .i64 8] (w.drewN m) (RowsSays (w.drewN m) (.slice none 0 0) (flatT 8 T))) := HFL.out m h hsh
      have hl2 := HCN.out h hsh
      obtain ⟨l, hl⟩ : ∃ l, l = flatT 8 T := ⟨_, rfl⟩
      rw [← hl] at HC hl2
      have HL : Hid (l = flatT 8 T) := hl
      clear HO HFL HCN hsh hl
      go_wp2_with (go_at_call 11; refine HC.out.mono ?_; rintro e w1 ⟨v1, rfl, ho1, hg1, _⟩; obtain ⟨n, hn⟩ : ∃ n, n = l.length := ⟨_, rfl⟩; obtain ⟨va, vc, hv⟩ : ∃ va vc, v1 = .slice va n vc := (by
          rcases ho1.form with ⟨h1, h2⟩ | ⟨g, c, h1, _⟩
          · exact ⟨none, 0, by rw [h1, hn, h2]; rfl⟩
          · exact ⟨_, c, by rw [h1, hn]⟩); subst hv; have HO1 : Hid (OwnE w1 57 (.slice va n vc) l) := ho1; have HG1 : Hid (w.grownBy w1 none) := grownBy_trans (grownBy_drewN w m none) hg1; have HN1 : Hid (n = l.length) := hn; have hn2 : n ≤ 2000000 := (by omega); clear ho1 hg1 hn)
      have HR : Hid (∀ wx, w1.grownBy wx none → ∀ (c : Nat) (x : Ent), l[c]? = some x → ∃ g, va = some ⟨g, 0, none⟩ ∧ wx.cell? ⟨g, c * 4, none⟩ = some (.string x.key)) := by
        intro wx hg c x hx
        have h2 : OwnE wx 57 (.slice va n vc) l := World.ownsRow.kept HO1.out hg (by cases h : (Value.slice va n vc).ownBlock <;> simp)
        rcases h2.form with ⟨_, h3⟩ | ⟨g, c', h3, _⟩
        · rw [h3] at hx; simp at hx
        · simp only [Value.slice.injEq] at h3
          obtain ⟨rfl, _, rfl⟩ := h3
          exact ⟨g, rfl, (h2.cell HN1.out hx).1⟩
      go_loopw [7] (VdRel w1 l) (fun kv _ => n + 1 - (intOf kv).toNat)
      case atStart =>
        refine ⟨0, rfl, .inl rfl, grownBy_refl _ _, ?_⟩
        cases l with
        | nil => simp [Sorted]
        | cons x t => simp [Sorted]
      case round =>
        obtain ⟨k, rfl, hk, hg, hso⟩ := hrel
        have HGW : Hid (w1.grownBy wr none) := hg
        have HSO : Hid (Sorted (l.take (k + 1))) := hso
        have hk' : k = 0 ∨ k + 1 ≤ n := by have := HN1.out; omega
        clear hg hso hk
        have hkb : k ≤ 2000000 := by omega
        by_cases hlt : k + 1 < n
        · obtain ⟨x, hx⟩ : ∃ x, l[k]? = some x := ⟨_, List.getElem?_eq_getElem (by have := HN1.out; omega)⟩
          obtain ⟨y, hy⟩ : ∃ y, l[k + 1]? = some y := ⟨_, List.getElem?_eq_getElem (by have := HN1.out; omega)⟩
          obtain ⟨g, hva, px⟩ := HR.out wr HGW.out k x hx
          subst hva
          obtain ⟨g', hva', py⟩ := HR.out wr HGW.out (k + 1) y hy
          simp only [Option.some.injEq, Addr.mk.injEq, and_true] at hva'
          subst hva'
          have HXY : Hid (l[k]? = some x ∧ l[k + 1]? = some y) := ⟨hx, hy⟩
          clear hx hy
          have hlti : (k : Int) + 1 < n := by omega
          by_cases hxy : Lt x.key y.key
          · have hb : Op.bytesLess x.key.toList y.key.toList = true := (less_iff _ _).2 hxy
            have HK : Hid (Lt x.key y.key) := hxy
            clear hxy
            as_aux_lemma =>
              go_upto_region 10 with (fail)
              go_quiet (fail)
              go_wp2
              go_roundw
              case rel => exact ⟨k + 1, by go_num, .inr (by have := HN1.out; omega), grownBy_trans HGW.out (grownBy_drewN _ _ none), Sorted.snoc HSO.out HXY.out.1 HXY.out.2 HK.out⟩
              case measure => simp [intOf] <;> omega
          · have hb : Op.bytesLess x.key.toList y.key.toList = false := neless hxy
            clear hxy
            as_aux_lemma =>
              go_upto_region 10 with (fail)
              go_quiet (fail)
              go_wp2
              go_returns
              exact ValidSays.no (grownBy_trans HG1.out (grownBy_trans HGW.out (grownBy_drewN _ _ none)))
        · have hnl : ¬ ((k : Int) + 1 < n) := by omega
          as_aux_lemma =>
            go_wp2
            go_returns
            refine ⟨h + 1, true, rfl, grownBy_trans HG1.out HGW.out, fun _ => ⟨h, rfl, HSH.out, ?_⟩⟩
            have := HSO.out
            rw [List.take_of_length_le (by have := HN1.out; omega)] at this
            rw [← HL.out]; exact this

end Go.Proofs.Qxb6601706a
