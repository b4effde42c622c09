import Derived.Test.Qxb6601706aLawP
namespace Go.Proofs.Qxb6601706a
open Go.RowKit
set_option linter.unusedVariables false
set_option linter.unusedSimpArgs false

/-- what stands behind the clone, the build and the listing -/
structure Mid (w w6 : World) (h : Nat) (v6 : Value) (l : List Ent) (k : Kid) (va : Option Addr) (vl : Nat) (bs : List UInt8) : Prop where
  st : St w [] w6 [Res.row57 v6 l, Res.tree h k]
  same : SameL w6 l k.fl
  val : ValIs w6 va vl bs
  sorted : Sorted l
  len : l.length ≤ 20000
  r63 : k.r < 63
  r1 : h ≠ 0 → 1 ≤ k.r
  h8 : h < 8

theorem Mid.set {w w6 w7 : World} {h : Nat} {v6 : Value} {l : List Ent} {k : Kid} {va : Option Addr} {vl vc : Nat} {bs : List UInt8} (m : Mid w w6 h v6 l k va vl bs) (hg : w6.grownBy w7 none) (key : ByteArray) (rev lease : Int) :
    Calls Try.prog 22 #[.pointer (some ⟨k.b, 0, none⟩), EAgg ⟨key, va, vl, vc, rev, lease⟩] w7 fun en w8 => ∃ (ok : Bool) (c' : Kid), en = .returned (.bool ok) ∧ St w [] w8 [Res.row57 v6 l, Res.tree h c'] ∧ c'.b = k.b ∧ SameL w8 c'.fl (insertL ⟨key, va, vl, vc, rev, lease⟩ l) ∧ (h ≠ 0 → 1 ≤ c'.r) ∧ (ok = true ↔ ¬ Has key l) ∧ c'.fl.length ≤ 40001 := by
  have S7 := m.st.grow hg
  have t7 : Tree w7 h k := S7.h.ok (Res.tree h k) (by simp)
  obtain ⟨rs, ks, rv, kv, S8, hk, hr63, hkl, hkm⟩ := St.open [Res.row57 v6 l] [] S7
  have hkr : k.r = rs.length := by rw [hk]
  have hkf : k.fl = weave ks rs := by rw [hk]
  have hown : k.own = bl (parts h k.b rv kv rs ks) := congrArg Kid.own hk
  have hh : Holds w7 (parts h k.b rv kv rs ks) := S8.h.sub (by
    show (parts h k.b rv kv rs ks).Sublist ([Res.row57 v6 l] ++ (parts h k.b rv kv rs ks ++ []))
    rw [List.append_nil]; exact List.sublist_cons_self _ _)
  have hsk : Sorted (weave ks rs) := by rw [← hkf]; exact m.sorted.keys m.same.keys
  refine (set22 (w := w7) ⟨key, va, vl, vc, rev, lease⟩ hh (by have := m.r63; omega) hkl hkm (fun h0 hn => by have := m.r1 h0; rw [hkr, hn] at this; simp at this) hsk).mono ?_
  rintro en w8 ⟨ok, c', he, S, hb, hf, hge, h1, hok⟩
  have hbk : BKept w7 w8 := bkept_tree t7 (by rw [hown]; exact S.f)
  have hbk6 : BKept w6 w8 := (BKept.grown hg).trans hbk
  have S9 : St w [] w8 ([Res.row57 v6 l] ++ ([Res.tree h c'] ++ [])) := St.step (X := parts h k.b rv kv rs ks) (X' := [Res.tree h c']) [Res.row57 v6 l] [] S8 S.f S.h
  have hs8 : SameL w8 k.fl l := (m.same.same hbk6).symm
  have he8 : SameE w8 ⟨key, va, vl, vc, rev, lease⟩ ⟨key, va, vl, vc, rev, lease⟩ := ⟨rfl, rfl, rfl, bs, m.val.same hbk6, m.val.same hbk6⟩
  have hins : SameL w8 c'.fl (insertL ⟨key, va, vl, vc, rev, lease⟩ l) := by rw [hf, ← hkf]; exact hs8.insert he8
  refine ⟨ok, c', he, S9, hb, hins, h1, ?_, ?_⟩
  · rw [hok, ← hkf]
    exact not_congr (Has.keys m.same.keys.symm)
  · rw [hins.1]
    unfold insertL
    have h1 := List.length_filter_le (fun x : Ent => ltb x.key key) l
    have h2 := List.length_filter_le (fun x : Ent => ltb key x.key) l
    have := m.len
    simp only [List.length_append, List.length_cons]
    omega

/-- behind the clone -/
structure Cl (w2 w3 : World) (q : Option Addr) (T T' : NT 8) : Prop where
  g : w2.grownBy w3 none
  at' : At (fresh w2.heap.size w3) 8 (.pointer q) T'
  er' : er 8 T' = er 8 T
  v : VT (Val w2.heap.size w3) 8 T'
theorem Cl.sh {w2 w3 : World} {q : Option Addr} {T T' : NT 8} (c : Cl w2 w3 q T T') {h : Nat} (hs : ShOk 8 T h) : ShOk 8 T' h := by
  rw [← er_sh, c.er', er_sh]; exact hs
theorem Cl.build {w2 w3 w4 : World} {q : Option Addr} {T T' : NT 8} (c : Cl w2 w3 q T T') (hg : w3.grownBy w4 none) {h : Nat} (hs : ShOk 8 T h) : Calls Try.prog 12 #[.pointer q, .int .i64 8] w4 (BldSays 8 T' h w4) :=
  build12 8 (fresh w2.heap.size w3) (.pointer q) T' w4 h c.at' ((fresh_reads _ _).below hg (fun a x b ha hb => by cases hb)) (c.sh hs) (VT.mono (fun e he => by obtain ⟨bs, h1, _⟩ := he.same (grown_bytes hg); exact ⟨bs, h1⟩) 8 T' c.v) (by omega)
theorem Cl.flat {w2 w3 w5 : World} {q : Option Addr} {T T' : NT 8} (c : Cl w2 w3 q T T') (hg : w3.grownBy w5 none) {h : Nat} (hs : ShOk 8 T h) (hc : cntT 8 T ≤ 20000) : Calls Try.prog 11 #[.pointer q, .slice none 0 0, .int .i64 8] w5 (RowsSays w5 (.slice none 0 0) (flatT 8 T')) := by
  have hl : (flatT 8 T').length ≤ 20000 := by rw [er_cnt c.er', flat_cnt 8 T h hs]; exact hc
  have := flat11 8 (fresh w2.heap.size w3) w3.heap.size (.pointer q) T' w5 (.slice none 0 0) [] h c.at' ((fresh_reads _ _).below hg (fun a x b ha hb => by cases hb)) (fun a x ha => (fresh_dom ha).2) (World.ownsRow_nil _ 0 57 4) (by simp [Value.ownBlock]) hg.size (c.sh hs) (by omega) (by simp; omega)
  simpa using this
theorem Cl.mid {w w2 w3 w4 w5 w6 : World} {q : Option Addr} {T T' : NT 8} (c : Cl w2 w3 q T T') (hg2 : w.grownBy w2 none) (hg4 : w3.grownBy w4 none) {va' : Option Addr} {vl : Nat} {bs : List UInt8} (hv4 : ValIs w4 va' vl bs) {h : Nat} (hs : ShOk 8 T h) (hso : Sorted (flatT 8 T)) (hc : cntT 8 T ≤ 20000)
    {k : Kid} (hS5 : St w4 [] w5 [Res.tree h k]) (hkr : k.r = recs 8 T') (hsame : SameL w5 (flatT 8 T') k.fl) {v6 : Value} (ho6 : OwnE w6 57 v6 (flatT 8 T')) (hg6 : w5.grownBy w6 none) (hb6 : ∀ b, v6.ownBlock = some b → (Value.slice none 0 0).ownBlock = some b ∨ w5.heap.size ≤ b) (hr : recs 8 T < 63) :
    Mid w w6 h v6 (flatT 8 T') k va' vl bs := by
  have S4 : St w [] w4 [] := St.grow (St.grow (St.grow (St.start (w := w) (L := []) ⟨by simp, by simp [bl], by simp [bl]⟩) hg2) c.g) hg4
  have S5 : St w [] w5 [Res.tree h k] := St.step (X := []) (X' := [Res.tree h k]) [] [] S4 hS5.f hS5.h
  have S6 : St w [] w6 [Res.row57 v6 (flatT 8 T'), Res.tree h k] := S5.made hg6 (Res.row57 v6 (flatT 8 T')) ho6 rfl (v := v6) (fun b hb => by
    refine ⟨?_, (ho6.lt b hb).2⟩
    rcases hb6 b hb with h | h
    · simp [Value.ownBlock] at h
    · exact h)
  have hrr : recs 8 T' = recs 8 T := by rw [← er_recs, c.er', er_recs]
  refine ⟨S6, hsame.same (grown_bytes hg6), (hv4.same (grown_bytes hS5.grown)).same (grown_bytes hg6), hso.keys (er_keys c.er').symm, ?_, by omega, fun h0 => ?_, ShOk.lt 8 T h hs⟩
  · rw [er_cnt c.er', flat_cnt 8 T h hs]; exact hc
  · rw [hkr]; exact (c.sh hs).one h0

set_option maxHeartbeats 16000000 in
set_option maxRecDepth 100000 in
theorem law5 (rd : Rd) (v0 : Value) (T : NT 8) (key : ByteArray) (va : Option Addr) (vl vc : Nat) (bs : List UInt8) (rev lease : Int) (w : World) (hat : At rd 8 v0 T) (hrd : Reads rd w) (hvl : vl = bs.length) (hvm : vl ≤ maxLen) (hform : va = none → vl = 0)
    (hcs : ∀ (j : Nat) (b : UInt8), bs[j]? = some b → ∃ g o, va = some ⟨g, o, none⟩ ∧ rd ⟨g, o + j, none⟩ = some (.int .u8 b.toNat)) :
    Calls Try.prog 5 #[v0, .string key, .slice va vl vc, .int .u64 rev, .int .u64 lease] w fun e w' => e = .returned (.bool true) ∧ w.grownBy w' none := by
  have HREAD : Hid (∀ wx, w.grownBy wx none → Reads rd wx) := fun wx hg => hrd.below hg (fun a x b ha hb => by cases hb)
  have HDOM : Hid (∀ a x, rd a = some x → a.block < w.heap.size) := fun a x ha => World.block_lt_of_cell? w a (hrd a x ha)
  have HCB : Hid (∀ wx, w.grownBy wx none → vl ≤ 1048576 → Calls Try.prog 21 #[.slice va vl vc] wx (CloBSays wx vl bs)) := fun wx hg hle => cloneBytes21 wx va vl vc bs hvl hle hform (fun j b hb => by
    obtain ⟨g, o, h1, h2⟩ := hcs j b hb
    exact ⟨g, o, h1, HREAD.out wx hg _ _ h2⟩)
  have HAT : Hid (At rd 8 v0 T) := hat
  obtain ⟨q0, hq0⟩ := At.pointer 8 v0 T hat
  subst hq0
  unfold maxLen at hvm
  clear hat hrd hvl hform hcs
  by_cases hks : key.size ≤ 1048576
  · have hks' : ¬ (1048576 < (key.size : Int)) := by omega
    by_cases hvs : vl ≤ 1048576
    · have hvs' : ¬ (1048576 < (vl : Int)) := by omega
      have HSZ : Hid (Calls Try.prog 8 #[.pointer q0, .int .i64 ((key.size : Int) + (vl : Int)), .int .i64 8] w (SizeSays 8 T (key.size + vl) w)) := by
        have := size8 8 rd (.pointer q0) T w (key.size + vl) HAT.out (HREAD.out w (grownBy_refl _ _)) (by omega) (by omega)
        rw [show ((key.size + vl : Nat) : Int) = (key.size : Int) + (vl : Int) by omega] at this
        exact this
      go_enter Try.func5, Try.ntmps5
      go_upto_if 35 with (go_at_call 8; refine HSZ.out.mono ?_; rintro e w1 ⟨r, rfl, ⟨m, rfl⟩, hr1, hr2⟩; have HR2 : Hid (r ≤ 1048576 → key.size + vl + cntT 8 T * 56 ≤ r ∧ ValT 8 T) := hr2; clear hr2)
      clear HSZ
      by_cases hrs : r ≤ 1048576
      · have hrs' : ¬ (1048576 < (r : Int)) := by omega
        obtain ⟨hc1, hc2⟩ := HR2.out hrs
        have HCN : Hid (cntT 8 T ≤ 20000 ∧ ValT 8 T) := ⟨by omega, hc2⟩
        clear HR2 hc1 hc2
        have HVD : Hid (Calls Try.prog 9 #[.pointer q0] (w.drewN m) (ValidSays T (w.drewN m))) := valid9 rd w.heap.size (.pointer q0) T (w.drewN m) HAT.out (HREAD.out _ (grownBy_drewN w m none)) HDOM.out (Nat.le_refl _) (by have := HCN.out.1; omega)
        go_upto_region 6 with (go_at_call 9; refine HVD.out.mono ?_; rintro e w2 ⟨H, ok, rfl, hg2, hok⟩; have HG2 : Hid (w.grownBy w2 none) := grownBy_trans (grownBy_drewN w m none) hg2; have HOK : Hid (ok = true → ∃ h : Nat, H = h + 1 ∧ ShOk 8 T h ∧ Sorted (flatT 8 T)) := hok; clear hok hg2)
        clear HVD
        cases ok with
        | false =>
          as_aux_lemma =>
            go_wp2
            go_returns
            exact ⟨rfl, HG2.out⟩
        | true =>
          obtain ⟨h, hH, hsh, hsort⟩ := HOK.out rfl
          subst hH
          have hh8 := ShOk.lt 8 T h hsh
          have HSH : Hid (ShOk 8 T h ∧ Sorted (flatT 8 T)) := ⟨hsh, hsort⟩
          obtain ⟨n, hn⟩ := hsh.isNode
          subst hn
          clear HOK hsh hsort
          obtain ⟨hv, a1, a2, a3, a4, a5, a6⟩ := HAT.out
          have c0 := HREAD.out w2 HG2.out _ _ a1
          simp only [Value.pointer.injEq] at hv
          subst hv
          clear a1 a2 a4 a5 a6
          unfold maxLen at a3
          obtain ⟨nr, hnr⟩ : ∃ nr, nr = n.rs.length := ⟨_, rfl⟩
          rw [← hnr] at c0 a3
          have HNR : Hid (nr = n.rs.length) := hnr
          clear hnr
          by_cases hr63 : nr < 63
          · have hr63' : ¬ (63 ≤ (nr : Int)) := by omega
            have HC1 : Hid (Calls Try.prog 10 #[.pointer (some ⟨n.b, n.o, none⟩), .int .i64 8] w2 (CloTSays 8 (some n) w2)) := clone10 8 rd _ (some n) w2 h HAT.out (HREAD.out w2 HG2.out) HSH.out.1 HCN.out.2 (by omega)
            have HRC : Hid (recs 8 (some n) < 63) := by show n.rs.length < 63; rw [← HNR.out]; exact hr63
            go_upto_region 12 with (first
              | (go_at_call 10; refine HC1.out.mono ?_; rintro e w3 ⟨q, T', rfl, hg3, hat3, her3, hv3⟩; have HCL : Hid (Cl w2 w3 q (some n) T') := ⟨hg3, hat3, her3, hv3⟩; have HC2 : Hid (Calls Try.prog 21 #[.slice va vl vc] w3 (CloBSays w3 vl bs)) := HCB.out w3 (grownBy_trans HG2.out hg3) hvs; clear hg3 hat3 her3 hv3)
              | (go_at_call 21; refine HC2.out.mono ?_; rintro e w4 ⟨va', vc', rfl, hv4, hg4, _⟩; have HX4 : Hid (w3.grownBy w4 none ∧ ValIs w4 va' vl bs) := ⟨hg4, hv4⟩; have HC3 : Hid (Calls Try.prog 12 #[.pointer q, .int .i64 8] w4 (BldSays 8 T' h w4)) := HCL.out.build hg4 HSH.out.1; clear hg4 hv4)
              | (go_at_call 12; refine HC3.out.mono ?_; rintro e w5 ⟨k, rfl, hS5, hkr, hsame5⟩; have HX5 : Hid (St w4 [] w5 [Res.tree h k] ∧ k.r = recs 8 T' ∧ SameL w5 (flatT 8 T') k.fl) := ⟨hS5, hkr, hsame5⟩; have HC4 : Hid (Calls Try.prog 11 #[.pointer q, .slice none 0 0, .int .i64 8] w5 (RowsSays w5 (.slice none 0 0) (flatT 8 T'))) := HCL.out.flat (grownBy_trans HX4.out.1 hS5.grown) HSH.out.1 HCN.out.1; clear hS5 hkr hsame5)
              | (go_at_call 11; refine HC4.out.mono ?_; rintro e w6 ⟨v6, rfl, ho6, hg6, hb6⟩; have HM : Hid (Mid w w6 h v6 (flatT 8 T') k va' vl bs) := HCL.out.mid HG2.out HX4.out.1 HX4.out.2 HSH.out.1 HSH.out.2 HCN.out.1 HX5.out.1 HX5.out.2.1 HX5.out.2.2 ho6 hg6 hb6 HRC.out; clear ho6 hg6 hb6))
            clear HC1 HC2 HC3 HC4 HCL HX4 HX5 HRC HNR HSH HCN HG2 HCB HREAD HDOM HAT c0 a3 hr63 hr63'
            obtain ⟨l, hl⟩ : ∃ l, l = flatT 8 T' := ⟨_, rfl⟩
            rw [← hl] at HM
            clear hl
            go_upto_if 78 with (first
              | (go_at_call 23; refine (makeEntry23 ⟨key, va', vl, vc', rev, lease⟩).mono ?_; rintro e w7 ⟨rfl, hg7⟩; have HC22 : Hid (Calls Try.prog 22 #[.pointer (some ⟨k.b, 0, none⟩), EAgg ⟨key, va', vl, vc', rev, lease⟩] w7 _) := HM.out.set hg7 key rev lease; clear hg7)
              | (go_at_call 22; refine HC22.out.mono ?_; rintro e w8 ⟨ok8, c', rfl, hS8, hb8, hs8, h18, hok8, hl8⟩; have HX8 : Hid (St w [] w8 [Res.row57 v6 l, Res.tree h c'] ∧ c'.b = k.b ∧ SameL w8 c'.fl (insertL ⟨key, va', vl, vc', rev, lease⟩ l) ∧ (h ≠ 0 → 1 ≤ c'.r) ∧ (ok8 = true ↔ ¬ Has key l) ∧ c'.fl.length ≤ 40001) := ⟨hS8, hb8, hs8, h18, hok8, hl8⟩; have HC24 : Hid (Calls Try.prog 24 #[v6, EAgg ⟨key, va', vl, vc', rev, lease⟩] w8 (ModelSays w8 l ⟨key, va', vl, vc', rev, lease⟩)) := model24 _ (hS8.h.ok (Res.row57 v6 l) (by simp)) HM.out.sorted (by have := HM.out.len; omega); clear hS8 hb8 hs8 h18 hok8 hl8)
              | (go_at_call 24; refine HC24.out.mono ?_; rintro e w9 ⟨v9, ok9, rfl, ho9, hg9, hok9⟩; have heq9 : ok9 = ok8 := (Bool.eq_iff_iff.2 (hok9.trans HX8.out.2.2.2.2.1.symm)); subst heq9; have HX9 : Hid (OwnE w9 57 v9 (insertL ⟨key, va', vl, vc', rev, lease⟩ l) ∧ w8.grownBy w9 none) := ⟨ho9, hg9⟩; clear ho9 hg9 hok9))
            clear HC22 HC24
            have HS9 : Hid (St w [] w9 [Res.tree h c'] ∧ OwnE w9 57 v9 (insertL ⟨key, va', vl, vc', rev, lease⟩ l) ∧ SameL w9 c'.fl (insertL ⟨key, va', vl, vc', rev, lease⟩ l)) := ⟨(HX8.out.1.grow HX9.out.2).sub (List.sublist_cons_self _ _), HX9.out.1, HX8.out.2.2.1.same (grown_bytes HX9.out.2)⟩
            have HC15 : Hid (Calls Try.prog 15 #[.pointer (some ⟨k.b, 0, none⟩), .bool true, .bool false, .int .i64 8] w9 fun e w' => e = .returned (.tuple #[.int .i64 ((h : Int) + 1), .bool true]) ∧ ∃ m, w' = w9.drewN m) := by
              rw [← HX8.out.2.1]
              exact shape15 h w9 c' true false 8 (HS9.out.1.h.ok (Res.tree h c') (by simp)) HM.out.h8 (by omega) (fun h => by cases h) (fun _ _ h0 => HX8.out.2.2.2.1 h0)
            have HC17 : Hid (∀ m, Calls Try.prog 17 #[.pointer (some ⟨k.b, 0, none⟩), .slice none 0 0, .int .i64 8] (w9.drewN m) (RowsSays (w9.drewN m) (.slice none 0 0) c'.fl)) := by
              intro m
              rw [← HX8.out.2.1]
              have := flat17 h (w9.drewN m) c' (.slice none 0 0) [] 8 ((HS9.out.1.h.ok (Res.tree h c') (by simp) : Tree w9 h c').drewN m) (World.ownsRow_nil _ 0 57 4) HM.out.h8 (by omega) (by have := HX8.out.2.2.2.2.2; simp; omega)
              simpa using this
            have HL : Hid (c'.fl.length ≤ 4000000) := by have h1 := HX8.out.2.2.2.2.2; show c'.fl.length ≤ 4000000; omega
            clear HX8 HX9 HM
            have hbne : (ok9 != ok9) = false := by cases ok9 <;> rfl
            go_upto_if 90 with (first
              | (go_at_call 15; refine HC15.out.mono ?_; rintro e w10 ⟨rfl, m10, rfl⟩))
            clear HC15
            go_wp2_with (first
              | (go_at_call 17; refine (HC17.out _).mono ?_; rintro e w11 ⟨v11, rfl, ho11, hg11, _⟩; have hgw : w9.grownBy w11 none := grownBy_trans (grownBy_drewN w9 _ none) hg11; have HC16 : Hid (Calls Try.prog 16 #[v11, v9] w11 fun e w' => e = .returned (.bool true) ∧ w11.grownBy w' none) := sameList16 ho11 (World.ownsRow.kept HS9.out.2.1 hgw (by cases hh : v9.ownBlock <;> simp)) (HS9.out.2.2.same (grown_bytes hgw)) HL.out; have HGW : Hid (w.grownBy w11 none) := grownBy_trans HS9.out.1.grown hgw; clear ho11 hg11 hgw)
              | (go_at_call 16; refine HC16.out.mono ?_; rintro e w12 ⟨rfl, hg12⟩; have HG12 : Hid (w.grownBy w12 none) := grownBy_trans HGW.out hg12; clear hg12))
            try go_returns
            exact ⟨rfl, HG12.out⟩
          · as_aux_lemma =>
              have hr63' : (63 ≤ (nr : Int)) := by omega
              go_wp2
              go_returns
              exact ⟨rfl, HG2.out⟩
      · as_aux_lemma =>
          have hrs' : (1048576 < (r : Int)) := by omega
          go_wp2
          go_returns
          exact ⟨rfl, grownBy_drewN w m none⟩
    · have hvs' : (1048576 < (vl : Int)) := by omega
      go_enter Try.func5, Try.ntmps5
      go_wp2
      go_returns
      exact ⟨rfl, grownBy_refl _ _⟩
  · have hks' : (1048576 < (key.size : Int)) := by omega
    go_enter Try.func5, Try.ntmps5
    go_wp2
    go_returns
    exact ⟨rfl, grownBy_refl _ _⟩

end Go.Proofs.Qxb6601706a
