import Derived.Test.Qxb6601706aScrD
import Derived.Test.Qxb6601706aCloSB
import Derived.Test.Qxb6601706aBytes
namespace Go.Proofs.Qxb6601706a
open Go.RowKit
set_option linter.unusedVariables false
set_option linter.unusedSimpArgs false

theorem grown_cell {w w' : World} {a : Addr} {v : Value} (h : w.grownBy w' none) (hc : w.cell? a = some v) : w'.cell? a = some v := by
  rw [World.cell?_of_block (h.block a.block (World.block_lt_of_cell? w a hc) (by simp)), hc]
def Cells {α : Type} (f : α → Value) (l : List α) (va : Option Addr) (w : World) : Prop := ∀ (j : Nat) (x : α), l[j]? = some x → ∃ g o, va = some ⟨g, o, none⟩ ∧ w.cell? ⟨g, o + j, none⟩ = some (f x)
theorem Cells.grown {α : Type} {f : α → Value} {l : List α} {va : Option Addr} {w w' : World} (h : Cells f l va w) (hg : w.grownBy w' none) : Cells f l va w' := by
  intro j x hx
  obtain ⟨g, o, h1, h2⟩ := h j x hx
  exact ⟨g, o, h1, grown_cell hg h2⟩
theorem CloSSays.cells {w w' : World} {vl : Nat} {bs : List ByteArray} {va : Option Addr} {vc : Nat} (hl : vl = bs.length) (h : vl = 0 ∨ ∃ g, va = some ⟨g, 0, none⟩ ∧ w.heap.size ≤ g ∧ w'.ownsRow w.heap.size 9 1 (.slice va vl vc) vl (bs.map bvS)) : Cells Value.string bs va w' := by
  intro j x hx
  have hj : j < bs.length := (List.getElem?_eq_some_iff.1 hx).1
  rcases h with h | ⟨g, rfl, _, ho⟩
  · omega
  · refine ⟨g, 0, rfl, ?_⟩
    rw [Nat.zero_add, ho.cellAt j (by omega), List.getElem?_map, hx]
    rfl
theorem CloLSays.cells {w w' : World} {vl : Nat} {bs : List Bool} {va : Option Addr} {vc : Nat} (hl : vl = bs.length) (h : vl = 0 ∨ ∃ g, va = some ⟨g, 0, none⟩ ∧ w.heap.size ≤ g ∧ w'.ownsRow w.heap.size 4 1 (.slice va vl vc) vl (bs.map bvL)) : Cells Value.bool bs va w' := by
  intro j x hx
  have hj : j < bs.length := (List.getElem?_eq_some_iff.1 hx).1
  rcases h with h | ⟨g, rfl, _, ho⟩
  · omega
  · refine ⟨g, 0, rfl, ?_⟩
    rw [Nat.zero_add, ho.cellAt j (by omega), List.getElem?_map, hx]
    rfl

theorem Inv7.step {w0 w : World} {k b : Nat} {mv : Value} (p : Inv7 w0 w k b mv) : Inv7 w0 w (k + 1) b mv := by
  obtain ⟨h, c, l, h1, h2, h3, h4, h5, h6, h7⟩ := p
  exact ⟨h, c, l, h1, h2, h3, h4, h5, by omega, h7⟩
def SumRel (w : World) (n : Nat) (av kv : Value) (wr : World) : Prop := ∃ (k a : Nat), av = .int .i64 a ∧ kv = .int .i64 k ∧ k ≤ n ∧ a ≤ 2000000 ∧ wr = w
def Rel7 (w0 : World) (n : Nat) (v7 v8 v9 : Value) (wr : World) : Prop := ∃ (s b : Nat), v7 = .pointer (some ⟨b, 0, none⟩) ∧ v9 = .int .i64 s ∧ s ≤ n ∧ Inv7 w0 wr s b v8
def Yes (w : World) (e : Ending) (w' : World) : Prop := e = .returned (.bool true) ∧ w.grownBy w' none

set_option maxHeartbeats 8000000 in
set_option maxRecDepth 100000 in
theorem law7 (w : World) (ka : Option Addr) (kn kc : Nat) (da : Option Addr) (dn dc : Nat) (ks : List ByteArray) (ds : List Bool) (hkl : kn = ks.length) (hdl : dn = ds.length) (hkn : kn ≤ maxLen) (hdn : dn ≤ maxLen) (hfk : ka = none → kn = 0) (hfd : da = none → dn = 0) (hck : Cells Value.string ks ka w) (hcd : Cells Value.bool ds da w) :
    Calls Try.prog 7 #[.slice ka kn kc, .slice da dn dc] w (Yes w) := by
  have HK : Hid (Cells Value.string ks ka w) := hck
  have HD : Hid (Cells Value.bool ds da w) := hcd
  have HL : Hid (kn = ks.length ∧ dn = ds.length ∧ (ka = none → kn = 0) ∧ (da = none → dn = 0)) := ⟨hkl, hdl, hfk, hfd⟩
  have HC27 : Hid (Calls Try.prog 27 #[.slice ka kn kc, .slice da dn dc] w (AnyBool w)) := bytes27 w ka kn kc da dn dc hkn hdn (fun i hi => by
    obtain ⟨g, o, h1, h2⟩ := hck i _ (List.getElem?_eq_getElem (by omega : i < ks.length))
    exact ⟨g, o, _, h1, h2⟩)
  unfold maxLen at hkn hdn
  clear hck hcd hkl hdl hfk hfd
  go_enter Try.func7, Try.ntmps7
  go_upto_if 25 with (go_at_call 27; refine HC27.out.mono ?_; rintro e w1 ⟨ok, rfl, hw1⟩; replace hw1 := hw1.symm; subst hw1)
  clear HC27
  cases ok with
  | false =>
    as_aux_lemma =>
      go_wp2
      go_returns
      exact ⟨rfl, grownBy_refl _ _⟩
  | true =>
    by_cases h1 : kn ≤ 4096
    · have h1' : ¬ (4096 < (kn : Int)) := by omega
      by_cases h2 : dn ≤ 1048576
      · have h2' : ¬ (1048576 < (dn : Int)) := by omega
        go_wp2_with fail
        go_loopw [5, 6] (SumRel w kn) (fun _ kv _ => kn - (intOf kv).toNat)
        case atStart => exact ⟨0, 16 * kn + dn, by go_num, rfl, Nat.zero_le _, by omega, rfl⟩
        case round =>
          obtain ⟨k, a, rfl, rfl, hkk, ha, hwr⟩ := hrel
          replace hwr := hwr.symm
          subst hwr
          by_cases hlt : k < kn
          · obtain ⟨g, o, hka, hc⟩ := HK.out k _ (List.getElem?_eq_getElem (by have := HL.out.1; omega))
            subst hka
            obtain ⟨s, hs⟩ : ∃ s, s = ks[k]'(by have := HL.out.1; omega) := ⟨_, rfl⟩
            rw [← hs] at hc
            clear hs
            by_cases hs : s.size ≤ 1048576
            · have hs' : ¬ (1048576 < (s.size : Int)) := by omega
              by_cases hb : a + s.size ≤ 1048576
              · have hb' : ¬ (1048576 < (a : Int) + (s.size : Int)) := by omega
                as_aux_lemma =>
                  go_wp2
                  go_roundw
                  case rel => exact ⟨k + 1, a + s.size, by go_num, by go_num, by omega, by omega, rfl⟩
                  case measure => simp [intOf] <;> omega
              · have hb' : (1048576 < (a : Int) + (s.size : Int)) := by omega
                as_aux_lemma =>
                  go_wp2
                  go_returns
                  exact ⟨rfl, grownBy_refl _ _⟩
            · have hs' : (1048576 < (s.size : Int)) := by omega
              as_aux_lemma =>
                go_wp2
                go_returns
                exact ⟨rfl, grownBy_refl _ _⟩
          · have hkn' : k = kn := by omega
            subst hkn'
            have HC28 : Hid (Calls Try.prog 28 #[.slice ka k kc] w (CloSSays w k ks)) := cloneS28 w ka k kc ks HL.out.1 (by omega) HL.out.2.2.1 HK.out
            have HC29 : Hid (∀ wx, w.grownBy wx none → Calls Try.prog 29 #[.slice da dn dc] wx (CloLSays wx dn ds)) := fun wx hg => cloneL29 wx da dn dc ds HL.out.2.1 (by omega) HL.out.2.2.2 (HD.out.grown hg)
            go_wp2_with (first
              | (go_at_call 28; refine HC28.out.mono ?_; rintro e w1 ⟨ka', kc', rfl, hg1, hr1⟩; have HK1 : Hid (Cells Value.string ks ka' w1) := CloSSays.cells HL.out.1 hr1; have HG1 : Hid (w.grownBy w1 none) := hg1; clear hr1 hg1 HC28)
              | (go_at_call 29; refine (HC29.out _ HG1.out).mono ?_; rintro e w2 ⟨da', dc', rfl, hg2, hr2⟩; have HD2 : Hid (Cells Value.bool ds da' w2) := CloLSays.cells HL.out.2.1 hr2; have HK2 : Hid (Cells Value.string ks ka' w2) := HK1.out.grown hg2; have HG2 : Hid (w.grownBy w2 none) := grownBy_trans HG1.out hg2; clear hr2 hg2 HC29 HK1 HG1)
              | (go_at_call 30; refine (new7 w2).mono ?_; rintro e w3 ⟨b0, rfl, hi3⟩; have HI3 : Hid (Inv7 w2 w3 0 b0 (.slice none 0 0)) := hi3; clear hi3))
            clear HK HD
            have HL2 : Hid (k = ks.length ∧ dn = ds.length) := ⟨HL.out.1, HL.out.2.1⟩
            clear HL
            go_loopw [7, 8, 9] (Rel7 w2 k) (fun _ _ sv _ => k - (intOf sv).toNat)
            case atStart => exact ⟨0, b0, rfl, rfl, Nat.zero_le _, HI3.out⟩
            case round =>
              clear HI3
              obtain ⟨s, b, rfl, rfl, hsk, hinv⟩ := hrel
              have HI : Hid (Inv7 w2 wr s b u8) := hinv
              clear hinv
              by_cases hlt : s < k
              · obtain ⟨key, hkey⟩ : ∃ key, ks[s]? = some key := ⟨_, List.getElem?_eq_getElem (by have := HL2.out.1; omega)⟩
                obtain ⟨g, o, hka, hc⟩ := HK2.out s key hkey
                replace hc := grown_cell HI.out.grown hc
                subst hka
                clear hkey
                have hlti : (s : Int) < k := by omega
                by_cases hsd : s < dn
                · obtain ⟨d, hd⟩ : ∃ d, ds[s]? = some d := ⟨_, List.getElem?_eq_getElem (by have := HL2.out.2; omega)⟩
                  obtain ⟨g2, o2, hda, hc2⟩ := HD2.out s d hd
                  replace hc2 := grown_cell HI.out.grown hc2
                  subst hda
                  clear hd
                  have hsdi : (s : Int) < dn := by omega
                  cases d with
                  | true =>
                    as_aux_lemma =>
                      have HC25 : Hid (Calls Try.prog 25 #[.pointer (some ⟨b, 0, none⟩), .string key] wr (Del7Says w2 s key b u8)) := HI.out.del key
                      clear HI HK2 HD2 HG2 HL2
                      go_upto_region 27 with (first
                        | (go_at_call 25; refine HC25.out.mono ?_; rintro e w4 ⟨ok, rfl, hd4⟩; have HC26 : Hid (Calls Try.prog 26 #[u8, .string key] w4 (Mdl7Says w2 s b ok)) := hd4.model (by omega); clear hd4)
                        | (go_at_call 26; refine HC26.out.mono ?_; rintro e w5 ⟨mv, rfl, ha5⟩; have HC14 : Hid (Calls Try.prog 14 #[.pointer (some ⟨b, 0, none⟩)] w5 (FldD7Says w2 s b mv)) := ha5.fields; clear ha5))
                      clear HC25 HC26
                      have hbne : (ok != ok) = false := by cases ok <;> rfl
                      go_upto_region 30 with (go_at_call 14; refine HC14.out.mono ?_; rintro e w6 ⟨a', n, ca, a'', n', ca', rfl, hn, hn', hA, hB⟩; have HA : Hid (¬ (n = 0 ∧ n' = 1) → Inv7 w2 w6 s b mv) := hA; have HB : Hid (n = 0 → n' = 1 → ∃ g q, a'' = some ⟨g, 0, none⟩ ∧ w6.cell? ⟨g, 0, none⟩ = some (.pointer (some ⟨q, 0, none⟩)) ∧ Inv7 w2 w6 s q mv) := hB; clear hA hB)
                      clear HC14
                      by_cases h0 : n = 0
                      · subst h0
                        by_cases h1n : n' = 1
                        · subst h1n
                          obtain ⟨g3, q, rfl, hq, hi⟩ := HB.out rfl rfl
                          have HQ : Hid (Inv7 w2 w6 s q mv) := hi
                          clear HA HB hi
                          go_wp2_with fail
                          go_roundw
                          case rel => exact ⟨s + 1, q, rfl, by go_num, by omega, HQ.out.step⟩
                          case measure => simp [intOf] <;> omega
                        · have HQ : Hid (Inv7 w2 w6 s b mv) := HA.out (fun h => h1n h.2)
                          have h1' : ((n' : Int) == 1) = false := by simp; omega
                          clear HA HB
                          go_wp2_with fail
                          go_roundw
                          case rel => exact ⟨s + 1, b, rfl, by go_num, by omega, HQ.out.step⟩
                          case measure => simp [intOf] <;> omega
                      · have HQ : Hid (Inv7 w2 w6 s b mv) := HA.out (fun h => h0 h.1)
                        have h1' : ((n : Int) == 0) = false := by simp; omega
                        clear HA HB
                        go_wp2_with fail
                        go_roundw
                        case rel => exact ⟨s + 1, b, rfl, by go_num, by omega, HQ.out.step⟩
                        case measure => simp [intOf] <;> omega
                  | false =>
                    as_aux_lemma =>
                      have HC14 : Hid (Calls Try.prog 14 #[.pointer (some ⟨b, 0, none⟩)] wr (Fld7Says w2 s b u8)) := HI.out.fields
                      clear HI HK2 HD2 HG2 HL2
                      go_upto_region 33 with (go_at_call 14; refine HC14.out.mono ?_; rintro e w4 ⟨a', n, ca, kv, rfl, hn, hp, hf⟩; have HP : Hid (n < 63 → Pre7 w2 w4 s b u8) := hp; have HFU : Hid (63 ≤ n → Full7 w2 w4 s b u8) := hf; clear hp hf)
                      clear HC14
                      by_cases hn63 : n < 63
                      · have HPR : Hid (Pre7 w2 w4 s b u8) := HP.out hn63
                        have hn' : ¬ (63 ≤ (n : Int)) := by omega
                        clear HP HFU
                        go_upto_region 38 with (first
                          | (go_at_call 23; refine (makeEntry23 (EN key ((s : Int) + 1))).mono ?_; rintro e w7 ⟨rfl, hg7⟩; have HC22 : Hid (Calls Try.prog 22 #[.pointer (some ⟨b, 0, none⟩), EAgg (EN key ((s : Int) + 1))] w7 (Set7Says w2 s key ((s : Int) + 1) b u8)) := HPR.out.set hg7 key _; clear hg7)
                          | (go_at_call 22; refine HC22.out.mono ?_; rintro e w8 ⟨ok, rfl, hs8⟩; have HC24 : Hid (Calls Try.prog 24 #[u8, EAgg (EN key ((s : Int) + 1))] w8 (Mod7Says w2 s b ok)) := hs8.model (by omega); clear hs8)
                          | (go_at_call 24; refine HC24.out.mono ?_; rintro e w9 ⟨mv, rfl, hi9⟩; have HI9 : Hid (Inv7 w2 w9 (s + 1) b mv) := hi9; clear hi9))
                        have hbne : (ok != ok) = false := by cases ok <;> rfl
                        clear HC22 HC24 HPR
                        go_wp2_with fail
                        go_roundw
                        case rel => exact ⟨s + 1, b, rfl, by go_num, by omega, HI9.out⟩
                        case measure => simp [intOf] <;> omega
                      · have HFL : Hid (Full7 w2 w4 s b u8) := HFU.out (by omega)
                        have hn' : 63 ≤ (n : Int) := by omega
                        have HC30 : Hid (Calls Try.prog 30 #[.slice none 0 0, .slice (some ⟨w4.heap.size, 0, none⟩) 1 1] (w4.alloc (.cells #[.pointer (some ⟨b, 0, none⟩)] 32)) (Up7Says w2 s u8)) := HFL.out.up
                        clear HP HFU HFL
                        go_upto_region 35 with (go_at_call 30; refine HC30.out.mono ?_; rintro e w5 ⟨b', rfl, hp5⟩; have HPR : Hid (Pre7 w2 w5 s b' u8) := hp5; clear hp5)
                        clear HC30
                        go_upto_region 38 with (first
                          | (go_at_call 23; refine (makeEntry23 (EN key ((s : Int) + 1))).mono ?_; rintro e w7 ⟨rfl, hg7⟩; have HC22 : Hid (Calls Try.prog 22 #[.pointer (some ⟨b', 0, none⟩), EAgg (EN key ((s : Int) + 1))] w7 (Set7Says w2 s key ((s : Int) + 1) b' u8)) := HPR.out.set hg7 key _; clear hg7)
                          | (go_at_call 22; refine HC22.out.mono ?_; rintro e w8 ⟨ok, rfl, hs8⟩; have HC24 : Hid (Calls Try.prog 24 #[u8, EAgg (EN key ((s : Int) + 1))] w8 (Mod7Says w2 s b' ok)) := hs8.model (by omega); clear hs8)
                          | (go_at_call 24; refine HC24.out.mono ?_; rintro e w9 ⟨mv, rfl, hi9⟩; have HI9 : Hid (Inv7 w2 w9 (s + 1) b' mv) := hi9; clear hi9))
                        have hbne : (ok != ok) = false := by cases ok <;> rfl
                        clear HC22 HC24 HPR
                        go_wp2_with fail
                        go_roundw
                        case rel => exact ⟨s + 1, b', rfl, by go_num, by omega, HI9.out⟩
                        case measure => simp [intOf] <;> omega
                · have hsdi : ¬ ((s : Int) < dn) := by omega
                  as_aux_lemma =>
                    have HC14 : Hid (Calls Try.prog 14 #[.pointer (some ⟨b, 0, none⟩)] wr (Fld7Says w2 s b u8)) := HI.out.fields
                    clear HI HK2 HD2 HG2 HL2
                    go_upto_region 33 with (go_at_call 14; refine HC14.out.mono ?_; rintro e w4 ⟨a', n, ca, kv, rfl, hn, hp, hf⟩; have HP : Hid (n < 63 → Pre7 w2 w4 s b u8) := hp; have HFU : Hid (63 ≤ n → Full7 w2 w4 s b u8) := hf; clear hp hf)
                    clear HC14
                    by_cases hn63 : n < 63
                    · have HPR : Hid (Pre7 w2 w4 s b u8) := HP.out hn63
                      have hn' : ¬ (63 ≤ (n : Int)) := by omega
                      clear HP HFU
                      go_upto_region 38 with (first
                        | (go_at_call 23; refine (makeEntry23 (EN key ((s : Int) + 1))).mono ?_; rintro e w7 ⟨rfl, hg7⟩; have HC22 : Hid (Calls Try.prog 22 #[.pointer (some ⟨b, 0, none⟩), EAgg (EN key ((s : Int) + 1))] w7 (Set7Says w2 s key ((s : Int) + 1) b u8)) := HPR.out.set hg7 key _; clear hg7)
                        | (go_at_call 22; refine HC22.out.mono ?_; rintro e w8 ⟨ok, rfl, hs8⟩; have HC24 : Hid (Calls Try.prog 24 #[u8, EAgg (EN key ((s : Int) + 1))] w8 (Mod7Says w2 s b ok)) := hs8.model (by omega); clear hs8)
                        | (go_at_call 24; refine HC24.out.mono ?_; rintro e w9 ⟨mv, rfl, hi9⟩; have HI9 : Hid (Inv7 w2 w9 (s + 1) b mv) := hi9; clear hi9))
                      have hbne : (ok != ok) = false := by cases ok <;> rfl
                      clear HC22 HC24 HPR
                      go_wp2_with fail
                      go_roundw
                      case rel => exact ⟨s + 1, b, rfl, by go_num, by omega, HI9.out⟩
                      case measure => simp [intOf] <;> omega
                    · have HFL : Hid (Full7 w2 w4 s b u8) := HFU.out (by omega)
                      have hn' : 63 ≤ (n : Int) := by omega
                      have HC30 : Hid (Calls Try.prog 30 #[.slice none 0 0, .slice (some ⟨w4.heap.size, 0, none⟩) 1 1] (w4.alloc (.cells #[.pointer (some ⟨b, 0, none⟩)] 32)) (Up7Says w2 s u8)) := HFL.out.up
                      clear HP HFU HFL
                      go_upto_region 35 with (go_at_call 30; refine HC30.out.mono ?_; rintro e w5 ⟨b', rfl, hp5⟩; have HPR : Hid (Pre7 w2 w5 s b' u8) := hp5; clear hp5)
                      clear HC30
                      go_upto_region 38 with (first
                        | (go_at_call 23; refine (makeEntry23 (EN key ((s : Int) + 1))).mono ?_; rintro e w7 ⟨rfl, hg7⟩; have HC22 : Hid (Calls Try.prog 22 #[.pointer (some ⟨b', 0, none⟩), EAgg (EN key ((s : Int) + 1))] w7 (Set7Says w2 s key ((s : Int) + 1) b' u8)) := HPR.out.set hg7 key _; clear hg7)
                        | (go_at_call 22; refine HC22.out.mono ?_; rintro e w8 ⟨ok, rfl, hs8⟩; have HC24 : Hid (Calls Try.prog 24 #[u8, EAgg (EN key ((s : Int) + 1))] w8 (Mod7Says w2 s b' ok)) := hs8.model (by omega); clear hs8)
                        | (go_at_call 24; refine HC24.out.mono ?_; rintro e w9 ⟨mv, rfl, hi9⟩; have HI9 : Hid (Inv7 w2 w9 (s + 1) b' mv) := hi9; clear hi9))
                      have hbne : (ok != ok) = false := by cases ok <;> rfl
                      clear HC22 HC24 HPR
                      go_wp2_with fail
                      go_roundw
                      case rel => exact ⟨s + 1, b', rfl, by go_num, by omega, HI9.out⟩
                      case measure => simp [intOf] <;> omega
              · as_aux_lemma =>
                  have hse : s = k := by omega
                  subst hse
                  have HC15 : Hid (Calls Try.prog 15 #[.pointer (some ⟨b, 0, none⟩), .bool true, .bool false, .int .i64 8] wr (Shp7Says w2 s b u8)) := HI.out.shape (by omega)
                  clear HI HK2 HD2 HL2
                  go_upto_if 150 with (go_at_call 15; refine HC15.out.mono ?_; rintro e w4 ⟨x, rfl, hi4⟩; have HC17 : Hid (Calls Try.prog 17 #[.pointer (some ⟨b, 0, none⟩), .slice none 0 0, .int .i64 8] w4 (Flt7Says w2 u8)) := hi4.flat (by omega); clear hi4)
                  clear HC15
                  go_wp2_with (first
                    | (go_at_call 17; refine HC17.out.mono ?_; rintro e w5 ⟨v, rfl, hc5⟩; have HC16 : Hid (Calls Try.prog 16 #[v, u8] w5 fun e w2' => e = .returned (.bool true) ∧ w2.grownBy w2' none) := hc5; clear hc5)
                    | (go_at_call 16; refine HC16.out.mono ?_; rintro e w6 ⟨rfl, hg6⟩; have HG6 : Hid (w.grownBy w6 none) := grownBy_trans HG2.out hg6; clear hg6))
                  try go_returns
                  exact ⟨rfl, HG6.out⟩
      · have h2' : (1048576 < (dn : Int)) := by omega
        as_aux_lemma =>
          go_wp2
          go_returns
          exact ⟨rfl, grownBy_refl _ _⟩
    · have h1' : (4096 < (kn : Int)) := by omega
      as_aux_lemma =>
        go_wp2
        go_returns
        exact ⟨rfl, grownBy_refl _ _⟩

end Go.Proofs.Qxb6601706a
