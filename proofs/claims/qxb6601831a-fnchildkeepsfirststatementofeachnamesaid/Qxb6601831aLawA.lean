import Derived.Test.Qxb6601831aPh
namespace Go.Proofs.Qxb6601831a
open Go.RowKit
set_option linter.unusedVariables false
set_option linter.unusedSimpArgs false

set_option maxRecDepth 100000 in
set_option maxHeartbeats 4000000 in
theorem law3 (a : Option Addr) (n cap : Nat) (P : Nat → Int) (nm : Nat → ByteArray) (K O : Nat → Int) (w : World) (hr : Scr w a n cap P nm K O) :
    Calls Try.prog 3 #[.slice a n cap] w fun e w' => TrueSays w e w' := by
  have hl := hr.lenLe
  have hm := hr.capLe
  have HSM : Hid (∀ i, i < n → (nm i).size ≤ maxLen) := hr.small
  unfold maxLen at hm
  go_enter Try.func3, Try.ntmps3
  go_wp2_with fail
  refine (bytes4_any a n cap P nm K O w hr).mono ?_
  rintro e w' ⟨ok, rfl, rfl, hsmall⟩
  cases ok
  · go_wp2_with fail
    go_ret
    exact ⟨rfl, Below.refl _ _⟩
  · by_cases hn : 4096 < n
    · go_wp2_with fail
      go_ret
      exact ⟨rfl, Below.refl _ _⟩
    · have hcs := hr.cells
      have hz := hsmall rfl
      clear hsmall
      have HR : Hid (Scr w' a n cap P nm K O) := hr
      clear hr
      go_wp2_with fail
      go_loop [3, 4] (fun z i => ∃ (k : Nat) (m : Int), k ≤ n ∧ i = .int .i64 k ∧ z = .int .i64 m ∧ 0 ≤ m ∧ m ≤ 1048576) (fun _ i => n - (intOf i).toNat)
      case atStart => exact ⟨0, 0, Nat.zero_le _, rfl, rfl, by omega, by omega⟩
      case round =>
        obtain ⟨k, m, hk, rfl, rfl, h0, h1⟩ := hrel
        by_cases hlt : k < n
        · obtain ⟨b, off, rfl, hbw, _, hc1, _, _⟩ := hcs k hlt
          have hsz := hz k hlt
          clear hcs hz
          generalize nm k = s at hc1 hsz
          go_wp2_with fail
          · go_ret
            exact ⟨rfl, Below.refl _ _⟩
          · go_round
            case rel => exact ⟨k + 1, m + (40 + s.size), by omega, by go_num, by go_num, by omega, by omega⟩
            case measure => simp [intOf]; omega
        · clear hcs hz
          go_wp2_with fail
          refine (copy5_any a n cap P nm K O _ HR.out (by omega)).mono ?_
          rintro e w1 ⟨a1, cap1, rfl, hr1, hb1⟩
          go_wp2_with fail
          refine (root6 w1).mono ?_
          rintro e w2 ⟨rfl, hw2⟩
          have hrow2 : w2.rowIs w1.heap.size 40 7 (nodeCells none ByteArray.empty 0 1 none) := by rw [hw2]; exact node_alloc w1 none ByteArray.empty 0 1
          have hbel2 : Below w1.heap.size w1 w2 := by rw [hw2]; exact (Below.refl _ _).alloc (Nat.le_refl _) _
          clear hw2
          obtain ⟨i0, hi, hz0, hz1, hz2⟩ := info_parts Try.info27
          obtain ⟨j0, gi, gz0, gz1, gz2⟩ := info_parts Try.info3
          go_wp2_with (first
            | (at_make; refine wpList_make_full _ rfl (.tmp 54) (.tmp 54) 29 rfl 0 27 i0 (.pointer none) 1 Try.underlying29 hi hz0 hz1 .i64 .i64 _ _ n rfl rfl rfl rfl (by rw [hz2]; omega) (by unfold maxLen; omega) (Nat.zero_le _) ?_; intro w3 hown3 hgrow3)
            | (at_make; refine wpList_make_full _ rfl (.tmp 56) (.tmp 56) 30 rfl 0 3 j0 (.int .i64 0) 1 Try.underlying30 gi gz0 gz1 .i64 .i64 _ _ n rfl rfl rfl rfl (by rw [gz2]; omega) (by unfold maxLen; omega) (Nat.zero_le _) ?_; intro w4 hown4 hgrow4)
            | (at_make; refine wpList_make_full _ rfl (.tmp 58) (.tmp 58) 30 rfl 0 3 j0 (.int .i64 0) 1 Try.underlying30 gi gz0 gz1 .i64 .i64 _ _ n rfl rfl rfl rfl (by rw [gz2]; omega) (by unfold maxLen; omega) (Nat.zero_le _) ?_; intro w5 hown5 hgrow5))
          have hst := St.start nm K O hrow2 hbel2 hown3 hgrow3 hown4 hgrow4 hown5 hgrow5
          have HSC : Hid (Scr w1 a1 n cap1 P nm K O) := hr1
          have HB1 : Hid (Below w'.heap.size w' w1) := hb1
          clear hi hz0 hz1 hz2 gi gz0 gz1 gz2 hown3 hgrow3 hown4 hgrow4 hown5 hgrow5 hrow2 hbel2 hr1 hb1 HR
          generalize hB : w1.heap.size = B at *
          have HBE : Hid (w1.heap.size = B) := hB
          clear hB
          generalize w2.heap.size = bg at *
          generalize w3.heap.size = br at *
          generalize w4.heap.size = bp at *
          clear w2 w3 w4
          go_loopg [10] n (fun q i wr => ∃ (k : Nat) (rep : Nat → Nat) (par : Nat → Option Nat) (g : Nat → Nat) (mp : Option Nat → Option Nat), k + q = n ∧ i = .int .i64 k ∧ St w1 wr B n k k k bg br bp nm K O rep par g mp)
          case atStart => exact ⟨0, _, _, _, _, by omega, rfl, hst⟩
          case round =>
            obtain ⟨k, rep, par, g, mp, hkq, rfl, hS⟩ := hrel
            have HS : Hid (St w1 wr B n k k k bg br bp nm K O rep par g mp) := hS
            have HKQ : Hid (k + gk = n) := hkq
            clear hst hkq hS
            by_cases hlt2 : k < n
            · as_aux_lemma =>
                obtain ⟨cb, co, rfl, hcb, hc1, hc2, hc3, hc4⟩ := (HSC.out.cells k hlt2)
                have hcB : cb < B := by rw [← HBE.out]; exact hcb
                have HC2 : Hid (w1.cell? ⟨cb, co + k * 4 + 1, none⟩ = some (.string (nm k))) := hc2
                have HC3 : Hid (w1.cell? ⟨cb, co + k * 4 + 2, none⟩ = some (.int .i64 (K k))) := hc3
                have HC4 : Hid (w1.cell? ⟨cb, co + k * 4 + 3, none⟩ = some (.int .i64 (O k))) := hc4
                replace hc1 := (HS.out.bel.cell (p := ⟨cb, _, none⟩) hcB).trans hc1
                replace hc2 := (HS.out.bel.cell (p := ⟨cb, _, none⟩) hcB).trans hc2
                replace hc3 := (HS.out.bel.cell (p := ⟨cb, _, none⟩) hcB).trans hc3
                replace hc4 := (HS.out.bel.cell (p := ⟨cb, _, none⟩) hcB).trans hc4
                clear hcb
                go_upto_region 24 with (fail)
                go_cut [77] (fun s wx => s = .bool (decide (0 ≤ P k ∧ P k < k)) ∧ wx = wr)
                case first =>
                  as_aux_lemma =>
                    by_cases hp0 : 0 ≤ P k
                    · by_cases hp1 : P k < k
                      · have HD : Hid (decide (0 ≤ P k ∧ P k < k) = true) := decide_eq_true ⟨hp0, hp1⟩
                        go_wp2_with fail
                        go_meet
                        case rel => exact ⟨by rw [HD.out], rfl⟩
                      · have HD : Hid (decide (0 ≤ P k ∧ P k < k) = false) := decide_eq_false (fun h => hp1 h.2)
                        go_wp2_with fail
                        go_meet
                        case rel => exact ⟨by rw [HD.out], rfl⟩
                    · have HD : Hid (decide (0 ≤ P k ∧ P k < k) = false) := decide_eq_false (fun h => hp0 h.1)
                      go_wp2_with fail
                      go_meet
                      case rel => exact ⟨by rw [HD.out], rfl⟩
                case rest =>
                obtain ⟨rfl, rfl⟩ := hcut
                go_upto_if 77 with (fail)
                go_cut [11, 12, 13] (fun _ s12 s13 wx => ∃ x : Option Nat, s12 = .int .i64 (parI x) ∧ s13 = .pointer (some ⟨blk B g x, 0, none⟩) ∧ valid k rep x ∧ wx = wc)
                case first =>
                  as_aux_lemma =>
                    by_cases hpp : 0 ≤ P k ∧ P k < k
                    · rw [decide_eq_true hpp]
                      obtain ⟨hp0, hp1⟩ := hpp
                      obtain ⟨pn, hpn⟩ := Int.eq_ofNat_of_zero_le hp0
                      have hpk : pn < k := by omega
                      have hcr := HS.out.repr.at pn hpk (by omega)
                      have hcg := HS.out.got.at pn hpk (by omega)
                      simp only [intAt, ptrAt] at hcr hcg
                      have hi1 : (pn : Int) < (n : Int) := by omega
                      rw [hpn] at hc1 hp0 hp1 ⊢
                      clear hpn
                      go_wp2_with fail
                      go_meet
                      case rel => exact ⟨some (rep pn), rfl, by rw [show blk B g (some (rep pn)) = g pn from HS.out.inv.rg pn hpk], ⟨by have := HS.out.inv.rle pn hpk; omega, HS.out.inv.rrep pn hpk⟩, rfl⟩
                    · rw [decide_eq_false hpp]
                      go_wp2_with fail
                      go_meet
                      case rel => exact ⟨none, rfl, rfl, trivial, rfl⟩
                case rest =>
                obtain ⟨x, rfl, rfl, hvx, rfl⟩ := hcut
                have hnode := HS.out.inv.node x hvx
                obtain ⟨⟨oldg, hog⟩, hfg, hlg⟩ := HS.out.got.spot hlt2
                have hi1 : (k : Int) < (n : Int) := by omega
                have hne1 : ¬ cb = bg := by have := HS.out.lo; omega
                have hne2 : ¬ bg = cb := by have := HS.out.lo; omega
                go_upto_region 27 with (fail)
                go_cut [] (fun wx => ∃ (rep' : Nat → Nat) (par' : Nat → Option Nat) (g' : Nat → Nat) (mp' : Option Nat → Option Nat), par' k = x ∧ St w1 wx B n (k + 1) (k + 1) k bg br bp nm K O rep' par' g' mp')
                case first =>
                  as_aux_lemma =>
                    have HN : Hid (NodeIs wc (blk B g x) (pOf B g par x) (nOf nm x) (oOf O x) (kOf K x) (mp x) (kidsOf k rep par g nm x)) := hnode
                    clear hnode
                    cases hlk : lookIn (kidsOf k rep par g nm x) (nm k) with
                    | none =>
                      have HLK : Hid (lookIn (kidsOf k rep par g nm x) (nm k) = none) := hlk
                      clear hlk hog hfg hlg
                      go_region_held3 (fun w' => w'.cell? ⟨cb, co + k * 4 + 1, none⟩ = some (.string (nm k)) ∧ w'.cell? ⟨cb, co + k * 4 + 2, none⟩ = some (.int .i64 (K k)) ∧ w'.cell? ⟨cb, co + k * 4 + 3, none⟩ = some (.int .i64 (O k))) (go_keep) ((go_at_call 7; refine (zz7_new HN.out.drew (nm k) (K k) (O k) HLK.out).mono ?_; rintro e w2 hs; obtain ⟨c, rep', par', g', mp', rfl, hgk, hpk, hS2⟩ := HS.out.drew.new x hvx HLK.out hs; have HF : Hid (g' k = c ∧ par' k = x ∧ St w1 w2 B n (k + 1) k k bg br bp nm K O rep' par' g' mp') := ⟨hgk, hpk, hS2⟩; have q2 := (hS2.bel.cell (p := ⟨cb, co + k * 4 + 1, none⟩) hcB).trans HC2.out; have q3 := (hS2.bel.cell (p := ⟨cb, co + k * 4 + 2, none⟩) hcB).trans HC3.out; have q4 := (hS2.bel.cell (p := ⟨cb, co + k * 4 + 3, none⟩) hcB).trans HC4.out; obtain ⟨⟨oldg, hog⟩, hfg, hlg⟩ := hS2.got.spot hlt2; clear hs hgk hpk hS2))
                      go_wp2_with fail
                      go_meet
                      case rel => exact ⟨rep', par', g', mp', HF.out.2.1, by have := HF.out.2.2.setGot; rw [ptrAt, HF.out.1] at this; exact this⟩
                    | some c =>
                      obtain ⟨rep', par', g', hg', hp', hS'⟩ := HS.out.old x hvx c hlk
                      have HF : Hid (g' k = c ∧ par' k = x ∧ St w1 wc B n (k + 1) k k bg br bp nm K O rep' par' g' mp) := ⟨hg', hp', hS'⟩
                      have HLK : Hid (lookIn (kidsOf k rep par g nm x) (nm k) = some c) := hlk
                      clear hg' hp' hS' hlk
                      go_region_held3 (fun w' => w'.cell? ⟨cb, co + k * 4 + 1, none⟩ = some (.string (nm k)) ∧ w'.cell? ⟨cb, co + k * 4 + 2, none⟩ = some (.int .i64 (K k)) ∧ w'.cell? ⟨cb, co + k * 4 + 3, none⟩ = some (.int .i64 (O k))) (go_keep) ((go_at_call 7; refine (zz7_old HN.out.drew (nm k) (K k) (O k) c HLK.out).mono ?_; rintro e w2 ⟨rfl, rfl⟩))
                      go_wp2_with fail
                      go_meet
                      case rel => exact ⟨rep', par', g', mp, HF.out.2.1, by have := HF.out.2.2.setGot.drew; rw [ptrAt, HF.out.1] at this; exact this⟩
                case rest =>
                obtain ⟨rep', par', g', mp', hpx, hS2⟩ := hcut
                have HPX : Hid (par' k = x) := hpx
                have HS2 : Hid (St w1 wc B n (k + 1) (k + 1) k bg br bp nm K O rep' par' g' mp') := hS2
                clear hpx hS2 hc1 hc2 hc3 hc4 hnode hog hfg hlg
                clear HS
                go_upto_block 4 with (fail)
                go_cut [14, 15] (fun s14 _ wx => s14 = .int .i64 (rep' k) ∧ ∃ m, wx = wc.drewN m)
                case first =>
                  as_aux_lemma =>
                    go_wp2_with fail
                    go_loopg [14, 15] k (fun q s14 j wr => ∃ (i m : Nat), i + q = k ∧ s14 = .int .i64 k ∧ j = .int .i64 i ∧ wr = wc.drewN m ∧ Hid (∀ t, t < i → ¬ (rep' t = t ∧ par' t = par' k ∧ nm t = nm k)))
                    case atStart => exact ⟨0, 0, by omega, rfl, rfl, rfl, by intro t ht; omega⟩
                    case round =>
                      obtain ⟨i, m, hiq, rfl, rfl, rfl, HNO⟩ := hrel
                      have HIQ : Hid (i + gk = k) := hiq
                      clear hiq
                      by_cases hik : i < k
                      · have hrr := HS2.out.repr.at i hik (by omega)
                        have hpp := HS2.out.parr.at i hik (by omega)
                        simp only [intAt, parAt] at hrr hpp
                        obtain ⟨cb', co', hx', _, _, hn1, _, _⟩ := HSC.out.cells i (by omega)
                        injection hx' with hx'
                        injection hx' with hx1 hx2
                        subst hx1 hx2
                        replace hn1 := (HS2.out.bel.cell (p := ⟨cb, _, none⟩) hcB).trans hn1
                        have hn2 := (HS2.out.bel.cell (p := ⟨cb, _, none⟩) hcB).trans HC2.out
                        have hi2 : (i : Int) < (n : Int) := by omega
                        have hstep : ¬ (rep' i = i ∧ par' i = par' k ∧ nm i = nm k) → Hid (∀ t, t < i + 1 → ¬ (rep' t = t ∧ par' t = par' k ∧ nm t = nm k)) := by
                          intro hno t ht
                          by_cases e : t = i
                          · subst e; exact hno
                          · exact HNO.out t (by omega)
                        by_cases e1 : rep' i = i
                        · have b1 : (((rep' i : Nat) : Int) == (i : Int)) = true := by rw [e1]; simp
                          by_cases e2 : par' i = par' k
                          · have b2 : (parI (par' i) == parI x) = true := by rw [parI_eq, ← HPX.out]; simp [e2]
                            by_cases e3 : nm i = nm k
                            · have b3 : ((nm i).toList == (nm k).toList) = true := by rw [str_eq]; simp [e3]
                              have HF : Hid (rep' k = i) := HS2.out.inv.found i hik e1 e2 e3
                              clear hstep e1 e2 e3
                              go_wp2_with fail
                              go_quiet (fail)
                              go_wp2_with fail
                              go_meet
                              case rel => exact ⟨by rw [HF.out], m + nq, by rw [World.drewN_drewN]⟩
                            · have b3 : ((nm i).toList == (nm k).toList) = false := by rw [str_eq]; simp [e3]
                              have HF := hstep (fun h => e3 h.2.2)
                              clear hstep e1 e2 e3
                              go_wp2_with fail
                              go_quiet (fail)
                              go_wp2_with fail
                              go_roundg (gk - 1)
                              case measure => have := HIQ.out; omega
                              case rel => exact ⟨i + 1, _, by have := HIQ.out; omega, rfl, by go_num, rfl, HF⟩
                          · have b2 : (parI (par' i) == parI x) = false := by rw [parI_eq, ← HPX.out]; simp [e2]
                            have HF := hstep (fun h => e2 h.2.1)
                            clear hstep e1 e2
                            go_wp2_with fail
                            go_quiet (fail)
                            go_wp2_with fail
                            go_roundg (gk - 1)
                            case measure => have := HIQ.out; omega
                            case rel => exact ⟨i + 1, _, by have := HIQ.out; omega, rfl, by go_num, rfl, HF⟩
                        · have b1 : (((rep' i : Nat) : Int) == (i : Int)) = false := by simp; omega
                          have HF := hstep (fun h => e1 h.1)
                          clear hstep e1
                          go_wp2_with fail
                          go_quiet (fail)
                          go_wp2_with fail
                          go_roundg (gk - 1)
                          case measure => have := HIQ.out; omega
                          case rel => exact ⟨i + 1, _, by have := HIQ.out; omega, rfl, by go_num, rfl, HF⟩
                      · as_aux_lemma =>
                          have hike : i = k := by have := HIQ.out; omega
                          subst hike
                          have HF : Hid (rep' i = i) := HS2.out.inv.missed HNO.out
                          go_wp2_with fail
                          go_meet
                          case rel => exact ⟨by rw [HF.out], _, rfl⟩
                case rest =>
                obtain ⟨rfl, m2, rfl⟩ := hcut
                have HS3 : Hid (St w1 (wc.drewN m2) B n (k + 1) (k + 1) k bg br bp nm K O rep' par' g' mp') := HS2.out.drewN m2
                obtain ⟨⟨or, hor⟩, hfr, hlr⟩ := HS2.out.repr.spot hlt2
                obtain ⟨⟨op, hop⟩, hfp, hlp⟩ := HS2.out.parr.spot hlt2
                have hi1 : (k : Int) < (n : Int) := by omega
                have hne3 : ¬ br = bp := by have := HS2.out.rp; omega
                have hne4 : ¬ bp = br := by have := HS2.out.rp; omega
                go_wp2_with fail
                go_roundg (gk - 1)
                case measure => have := HKQ.out; omega
                case rel => exact ⟨k + 1, rep', par', g', mp', by have := HKQ.out; omega, by go_num, by have := HS3.out.setRep; rw [parAt, HPX.out] at this; exact this⟩
            · as_aux_lemma =>
                have hke : k = n := by have := HKQ.out; omega
                subst hke
                obtain ⟨j0, gi, gz0, gz1, gz2⟩ := info_parts Try.info3
                go_wp2_with (at_make; refine wpList_make_full _ rfl (.tmp 148) (.tmp 148) 30 rfl 0 3 j0 (.int .i64 0) 1 Try.underlying30 gi gz0 gz1 .i64 .i64 _ _ k rfl rfl rfl rfl (by rw [gz2]; omega) (by unfold maxLen; omega) (Nat.zero_le _) ?_; intro w6 hown6 hgrow6)
                have hph := Ph.start HS.out hown6 hgrow6
                clear gi gz0 gz1 gz2 hown6 hgrow6 HS HKQ
                generalize wr.heap.size = bc at *
                go_loopg [17, 18] k (fun q s17 s18 wr => ∃ i, i + q = k ∧ s18 = .int .i64 i ∧ s17 = .int .i64 (cntTo i rep par none) ∧ Ph w1 wr B k i bg br bp bc nm K O rep par g mp)
                case atStart => exact ⟨0, by omega, rfl, rfl, hph⟩
                case round =>
                  obtain ⟨i, hiq, rfl, rfl, hp⟩ := hrel
                  have HP : Hid (Ph w1 wr B k i bg br bp bc nm K O rep par g mp) := hp
                  obtain ⟨gko, rfl⟩ : ∃ gko : Nat, gko = gk := ⟨_, rfl⟩
                  have HIQ : Hid (i + gko = k) := hiq
                  clear hph hiq hp
                  by_cases hik : i < k
                  · as_aux_lemma =>
                      have hI := HP.out.st.inv
                      have hri := hI.rle i hik
                      have hrr := HP.out.st.repr.at i hik (by omega)
                      have hpp := HP.out.st.parr.at i hik (by omega)
                      have hgg := HP.out.st.got.at i hik (by omega)
                      have hgr := HP.out.st.got.at (rep i) (by omega) (by omega)
                      simp only [intAt, parAt, ptrAt] at hrr hpp hgg hgr
                      rw [hI.rg i hik] at hgr
                      have hvr : valid k rep (some (rep i)) := ⟨by omega, hI.rrep i hik⟩
                      have hnode := hI.node (some (rep i)) hvr
                      rw [show blk B g (some (rep i)) = g i from hI.rg i hik] at hnode
                      have hroot := hI.node none trivial
                      have hgB : g i ≠ B := by
                        intro e
                        have := hI.inj (some (rep i)) none hvr trivial (by rw [show blk B g (some (rep i)) = g i from hI.rg i hik]; exact e)
                        cases this
                      have hq1 := ptr_other hnode.row hroot.row hgB
                      rw [show blk B g none = B from rfl] at hq1
                      have hq2 := neq_same
                      obtain ⟨cb, co, rfl, hcb, hc1, hc2, hc3, hc4⟩ := (HSC.out.cells (rep i) (by omega))
                      have hcB : cb < B := by rw [← HBE.out]; exact hcb
                      replace hc2 := (HP.out.st.bel.cell (p := ⟨cb, _, none⟩) hcB).trans hc2
                      replace hc3 := (HP.out.st.bel.cell (p := ⟨cb, _, none⟩) hcB).trans hc3
                      replace hc4 := (HP.out.st.bel.cell (p := ⟨cb, _, none⟩) hcB).trans hc4
                      have hi1 : (i : Int) < (k : Int) := by omega
                      have hi2 : ((rep i : Nat) : Int) < (k : Int) := by omega
                      have HN : Hid (NodeIs wr (g i) (pOf B g par (some (rep i))) (nm (rep i)) (O (rep i)) (K (rep i)) (mp (some (rep i))) (kidsOf k rep par g nm (some (rep i)))) := hnode
                      have HI : Hid (Inv wr B B k nm K O rep par g mp) := hI
                      clear hc1 hcb hnode hroot hI
                      go_upto_region 45 with (fail)
                      go_quiet ((first | (go_at_call 8; exact Calls.quiet_of_same ((name8 (HN.out.drewN _)).mono fun _ _ h => h)) | (go_at_call 9; exact Calls.quiet_of_same ((kind9 (HN.out.drewN _)).mono fun _ _ h => h)) | (go_at_call 10; exact Calls.quiet_of_same ((offset10 (HN.out.drewN _)).mono fun _ _ h => h)) | (go_at_call 11; exact Calls.quiet_of_same ((index11 (HN.out.drewN _)).mono fun _ _ h => h)) | (go_at_call 12; exact Calls.quiet_of_same ((elems12 (HN.out.drewN _)).mono fun _ _ h => h))))
                      go_upto_if 221 with (fail)
                      go_cut [21] (fun s21 wx => s21 = .pointer (some ⟨blk B g (par i), 0, none⟩) ∧ wx = wr.drewN nq)
                      case first =>
                        as_aux_lemma =>
                          cases hpi : par i with
                          | none =>
                            rw [hpi] at hpp
                            have HPI : Hid (par i = none) := hpi
                            clear hpi
                            simp only [parI] at hpp ⊢
                            go_wp2_with fail
                            go_meet
                            case rel => exact ⟨by rw [HPI.out]; rfl, rfl⟩
                          | some z =>
                            have hzi := (HI.out.pv i z hik hpi).1
                            have hgz := HP.out.st.got.at z (by omega) (by omega)
                            simp only [ptrAt] at hgz
                            rw [hpi] at hpp
                            have HPI : Hid (par i = some z) := hpi
                            clear hpi
                            simp only [parI] at hpp ⊢
                            have hz1 : (z : Int) < (k : Int) := by omega
                            go_wp2_with fail
                            go_meet
                            case rel => exact ⟨by rw [HPI.out]; rfl, rfl⟩
                      case rest =>
                      obtain ⟨rfl, rfl⟩ := hcut
                      have hpv : valid k rep (par i) := by
                        cases hpi : par i with
                        | none => trivial
                        | some z => exact ⟨by have := (HI.out.pv i z hik hpi).1; omega, (HI.out.pv i z hik hpi).2⟩
                      have HNP : Hid (NodeIs (wr.drewN nq) (blk B g (par i)) (pOf B g par (par i)) (nOf nm (par i)) (oOf O (par i)) (kOf K (par i)) (mp (par i)) (kidsOf k rep par g nm (par i))) := (HI.out.node (par i) hpv).drewN nq
                      have HPP : Hid (pOf B g par (some (rep i)) = some ⟨blk B g (par i), 0, none⟩) := by
                        show some (⟨blk B g (par (rep i)), 0, none⟩ : Addr) = _
                        rw [HI.out.rpar i hik]
                      have HLK : Hid (lookIn (kidsOf k rep par g nm (par i)) (nm (rep i)) = some (g i)) := by
                        have := HI.out.look (rep i) (by omega) (HI.out.rrep i hik)
                        rw [HI.out.rpar i hik, HI.out.rg i hik] at this
                        exact this
                      have HPW : Hid (Ph w1 (wr.drewN nq) B k i bg br bp bc nm K O rep par g mp) := HP.out.drewN nq
                      go_wp2_with fail
                      refine (parent13 (HN.out.drewN nq)).mono ?_
                      rintro e w7 ⟨rfl, rfl⟩
                      rw [HPP.out]
                      go_wp2_with fail
                      refine (at14 HNP.out (nm (rep i))).mono ?_
                      rintro e w7 ⟨rfl, rfl⟩
                      rw [HLK.out]
                      go_upto_if 252 with (fail)
                      have hci := cntTo_le i rep par none
                      clear hc2 hc3 hc4 hrr hgg hgr hq1 hq2 hpp
                      by_cases er : rep i = i
                      · have b1 : (((rep i : Nat) : Int) == (i : Int)) = true := by rw [er]; simp
                        have HER : Hid (rep i = i) := er
                        clear er
                        have hpp := HPW.out.st.parr.at i hik (by omega)
                        simp only [parAt] at hpp
                        generalize wr.drewN nq = W at hpp HPW ⊢
                        go_upto_if 257 with (fail)
                        go_cut [17, 21] (fun s17 _ wx => s17 = .int .i64 (cntTo (i + 1) rep par none) ∧ Ph w1 wx B k (i + 1) bg br bp bc nm K O rep par g mp)
                        case first =>
                          as_aux_lemma =>
                            cases hpi : par i with
                            | none =>
                              rw [hpi] at hpp
                              have HF : Hid (cntTo (i + 1) rep par none = cntTo i rep par none + 1) := by rw [Hid, cntTo_succ, isKid_yes HER.out hpi]; rfl
                              have HG : Hid (Ph w1 W B k (i + 1) bg br bp bc nm K O rep par g mp) := HPW.out.skip (fun x h => by rw [hpi] at h; cases h.2)
                              clear hpi
                              simp only [parI] at hpp ⊢
                              go_wp2_with fail
                              go_meet
                              case rel => exact ⟨by rw [HF.out]; go_num, HG.out⟩
                            | some z =>
                              have hzi := (HI.out.pv i z hik hpi).1
                              have hcc := HPW.out.cnt.cell (i := z) (by omega)
                              have hfc := HPW.out.cnt.frozen z
                              have hlc := HPW.out.cnt.lt
                              have hcz := cntTo_le i rep par (some z)
                              simp only [cntAt] at hcc
                              rw [hpi] at hpp
                              have HF : Hid (cntTo (i + 1) rep par none = cntTo i rep par none) := by rw [Hid, cntTo_succ, isKid_no (fun h => by rw [hpi] at h; cases h.2)]; rfl
                              have HG : Hid (Ph w1 (W.setCell ⟨bc, z, none⟩ (.int .i64 ((cntTo i rep par (some z) : Int) + 1))) B k (i + 1) bg br bp bc nm K O rep par g mp) := HPW.out.bump z HER.out hpi
                              clear hpi
                              simp only [parI] at hpp ⊢
                              have hz1 : (z : Int) < (k : Int) := by omega
                              go_wp2_with fail
                              go_meet
                              case rel => exact ⟨by rw [HF.out], HG.out⟩
                        case rest =>
                        obtain ⟨rfl, hp2⟩ := hcut
                        have HP2 : Hid (Ph w1 wc B k (i + 1) bg br bp bc nm K O rep par g mp) := hp2
                        clear hp2 hpp
                        go_wp2_with fail
                        go_loopg [24] i (fun q s wr => ∃ j, j + q = i ∧ s = .int .i64 j ∧ wr = wc)
                        case atStart => exact ⟨0, by omega, rfl, rfl⟩
                        case round =>
                          obtain ⟨j, hjq, rfl, rfl⟩ := hrel
                          have HJQ : Hid (j + gk = i) := hjq
                          clear hjq
                          by_cases hji : j < i
                          · have hrj := HP2.out.st.repr.at j (by omega) (by omega)
                            have hgj := HP2.out.st.got.at j (by omega) (by omega)
                            simp only [intAt, ptrAt] at hrj hgj
                            have hj1 : (j : Int) < (k : Int) := by omega
                            by_cases ej : rep j = j
                            · as_aux_lemma =>
                                have b2 : (((rep j : Nat) : Int) == (j : Int)) = true := by rw [ej]; simp
                                have hvj : valid k rep (some j) := ⟨by omega, ej⟩
                                have hvi : valid k rep (some i) := ⟨hik, HER.out⟩
                                have hgne : g j ≠ g i := fun e => by
                                  have := HP2.out.st.inv.inj (some j) (some i) hvj hvi e
                                  injection this with this
                                  omega
                                have hq3 := ptr_other (HP2.out.st.inv.node (some j) hvj).row (HP2.out.st.inv.node (some i) hvi).row hgne
                                simp only [blk] at hq3
                                clear ej
                                go_wp2_with fail
                                go_roundg (gk - 1)
                                case measure => have := HJQ.out; omega
                                case rel => exact ⟨j + 1, by have := HJQ.out; omega, by go_num, rfl⟩
                            · have b2 : (((rep j : Nat) : Int) == (j : Int)) = false := by simp; omega
                              clear ej
                              go_wp2_with fail
                              go_roundg (gk - 1)
                              case measure => have := HJQ.out; omega
                              case rel => exact ⟨j + 1, by have := HJQ.out; omega, by go_num, rfl⟩
                          · go_wp2_with fail
                            go_roundg (gko - 1)
                            case measure => have := HIQ.out; omega
                            case rel => exact ⟨i + 1, by have := HIQ.out; omega, by go_num, rfl, HP2.out⟩
                      · have b1 : (((rep i : Nat) : Int) == (i : Int)) = false := by simp; omega
                        have HF : Hid (cntTo (i + 1) rep par none = cntTo i rep par none) := by rw [Hid, cntTo_succ, isKid_no (fun h => er h.1)]; rfl
                        have HG : Hid (Ph w1 (wr.drewN nq) B k (i + 1) bg br bp bc nm K O rep par g mp) := HPW.out.skip (fun x h => er h.1)
                        clear er
                        go_wp2_with fail
                        go_roundg (gko - 1)
                        case measure => have := HIQ.out; omega
                        case rel => exact ⟨i + 1, by have := HIQ.out; omega, by go_num, by rw [HF.out], HG.out⟩
                  · have hike : i = k := by have := HIQ.out; omega
                    subst hike
                    have hroot := HP.out.st.inv.node none trivial
                    have HRT : Hid (NodeIs wr B none ByteArray.empty 0 1 (mp none) (kidsOf i rep par g nm none)) := hroot
                    have HKL : Hid (_ = _) := kids_len i rep par g nm none
                    clear hroot
                    go_wp2_with fail
                    refine (count15 HRT.out).mono ?_
                    rintro e w7 ⟨rfl, rfl⟩
                    rw [HKL.out]
                    have hb0 : ((cntTo i rep par none : Int) != (cntTo i rep par none : Int)) = false := by simp
                    go_wp2_with fail
                    refine (parent13 HRT.out).mono ?_
                    rintro e w7 ⟨rfl, rfl⟩
                    go_wp2_with fail
                    go_loopg [25] i (fun q s wr => ∃ j, j + q = i ∧ s = .int .i64 j ∧ Ph w1 wr B i i bg br bp bc nm K O rep par g mp)
                    case atStart => exact ⟨0, by omega, rfl, HP.out⟩
                    case round =>
                      obtain ⟨j, hjq, rfl, hpj⟩ := hrel
                      have HPJ : Hid (Ph w1 wr B i i bg br bp bc nm K O rep par g mp) := hpj
                      have HJQ : Hid (j + gk = i) := hjq
                      clear hjq hpj HP HRT
                      by_cases hji : j < i
                      · have hrj := HPJ.out.st.repr.at j (by omega) (by omega)
                        have hgj := HPJ.out.st.got.at j (by omega) (by omega)
                        have hcj := HPJ.out.cnt.cell (i := j) (by omega)
                        simp only [intAt, ptrAt, cntAt] at hrj hgj hcj
                        have hj1 : (j : Int) < (i : Int) := by omega
                        by_cases ej : rep j = j
                        · have b2 : (((rep j : Nat) : Int) == (j : Int)) = true := by rw [ej]; simp
                          have hnode := HPJ.out.st.inv.node (some j) ⟨hji, ej⟩
                          have HN : Hid (NodeIs wr (g j) (pOf B g par (some j)) (nm j) (O j) (K j) (mp (some j)) (kidsOf i rep par g nm (some j))) := hnode
                          have HKJ : Hid (_ = _) := kids_len i rep par g nm (some j)
                          have hct : ∀ m, Calls Try.prog 15 #[.pointer (some ⟨g j, 0, none⟩)] (wr.drewN m) fun e w' => e = .returned (.int .i64 (cntTo i rep par (some j))) ∧ w' = wr.drewN m := fun m => (count15 (HN.out.drewN m)).mono (fun e w' h => by rw [← HKJ.out]; exact h)
                          have HCT : Hid (∀ m, Calls Try.prog 15 #[.pointer (some ⟨g j, 0, none⟩)] (wr.drewN m) fun e w' => e = .returned (.int .i64 (cntTo i rep par (some j))) ∧ w' = wr.drewN m) := hct
                          clear ej hnode hct
                          go_wp2_with fail
                          go_quiet ((go_at_call 15; exact Calls.quiet_of_same (HCT.out _)))
                          go_wp2_with fail
                          go_roundg (gk - 1)
                          case measure => have := HJQ.out; omega
                          case rel => exact ⟨j + 1, by have := HJQ.out; omega, by go_num, HPJ.out.drewN _⟩
                        · have b2 : (((rep j : Nat) : Int) == (j : Int)) = false := by simp; omega
                          clear ej
                          go_wp2_with fail
                          go_quiet (fail)
                          go_wp2_with fail
                          go_roundg (gk - 1)
                          case measure => have := HJQ.out; omega
                          case rel => exact ⟨j + 1, by have := HJQ.out; omega, by go_num, HPJ.out.drewN _⟩
                      · go_wp2_with fail
                        go_ret
                        refine ⟨rfl, HB1.out.trans (HPJ.out.st.bel.mono ?_)⟩
                        rw [← HBE.out]
                        exact HB1.out.size

end Go.Proofs.Qxb6601831a
