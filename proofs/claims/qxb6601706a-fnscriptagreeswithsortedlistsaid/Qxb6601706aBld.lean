import Derived.Test.Qxb6601706aBldP
namespace Go.Proofs.Qxb6601706a
open Go.RowKit
set_option linter.unusedVariables false
set_option linter.unusedSimpArgs false

def BldSays (d : Nat) (T : NT d) (h : Nat) (w : World) (e : Ending) (w' : World) : Prop :=
  ∃ k : Kid, e = .returned (.pointer (some ⟨k.b, 0, none⟩)) ∧ St w [] w' [Res.tree h k] ∧ k.r = recs d T ∧ SameL w' (flatT d T) k.fl
def HasVal (w : World) (e : Ent) : Prop := ∃ bs, ValIs w e.va e.vl bs
def BldStmt (d : Nat) : Prop := ∀ (rd : Rd) (v : Value) (T : NT d) (w : World) (h : Nat), At rd d v T → Reads rd w → ShOk d T h → VT (HasVal w) d T → d ≤ 8 → Calls Try.prog 12 #[v, .int .i64 d] w (BldSays d T h w)

def BldR (w : World) (rs : List Ent) (rv : Value) (wx : World) : Prop :=
  ∃ es, St w [] wx [Res.rowE rv es] ∧ SameL wx rs es ∧ BKept w wx
def BldR1 (w : World) (rs : List Ent) (n : Nat) (rv kv : Value) (wx : World) : Prop :=
  ∃ (k : Nat) (es : List Ent), kv = .int .i64 k ∧ k ≤ n ∧ es.length = k ∧ St w [] wx [Res.rowE rv es] ∧ SameL wx (rs.take k) es ∧ BKept w wx
def BldK (d : Nat) (w : World) (h : Nat) (rv : Value) (es rs : List Ent) (kds : List (NT d)) (n : Nat) (nv kv : Value) (wx : World) : Prop :=
  ∃ (k : Nat) (ks : List Kid), kv = .int .i64 k ∧ k ≤ n ∧ ks.length = k ∧ St w [] wx (Res.rowN nv ks :: Res.rowE rv es :: trees (h - 1) ks) ∧ SameL wx rs es ∧ BKept w wx ∧ SameK wx ((kds.take k).map (kidOf d)) ks ∧ ∀ c ∈ ks, 31 ≤ c.r

theorem HasVal.same {w w' : World} {e : Ent} (h : HasVal w e) (hk : BKept w w') : HasVal w' e := by
  obtain ⟨bs, h1⟩ := h
  exact ⟨bs, h1.same hk⟩
theorem SameK.same {w w' : World} {a b : List Kid} (h : SameK w a b) (hk : BKept w w') : SameK w' a b := ⟨h.1, fun i x y hx hy => (h.2 i x y hx hy).same hk⟩
theorem BKept.grown {w w' : World} (h : w.grownBy w' none) : BKept w w' := grown_bytes h

set_option maxHeartbeats 8000000 in
set_option maxRecDepth 100000 in
theorem build12_step (d : Nat) (IH : BldStmt d) : BldStmt (d + 1) := by
  have HIH : Hid (BldStmt d) := IH
  clear IH
  intro rd v0 T w h hat hrd hsh hval hd
  obtain ⟨n0, rfl⟩ := hsh.isNode
  obtain ⟨hv, h1, h2, h3, h4, h5, h6⟩ := hat
  subst hv
  have hlens := hsh.len
  have hklen := hsh.klen
  have HKID : Hid (∀ k ∈ n0.ks, ShOk d k (h - 1) ∧ VT (HasVal w) d k ∧ 31 ≤ recs d k) := fun k hk => ⟨(hsh.kid hk).2.1, hval.2 k hk, (hsh.kid hk).2.2⟩
  have HVL : Hid (∀ e ∈ n0.rs, HasVal w e) := hval.1
  have HFT : Hid (flatT (d + 1) (some n0) = weave (n0.ks.map (kidOf d)) n0.rs) := flatT_some d n0
  obtain ⟨b, o, rh, rc, kh, kc, rs, kds⟩ := n0
  simp only at h1 h2 h3 h4 h5 h6 hlens hklen HKID HVL HFT ⊢
  have hreads : ∀ wx, w.grownBy wx none → Reads rd wx := fun wx hg => hrd.below hg (fun a x b ha hb => by cases hb)
  have HRD : Hid (∀ wx, w.grownBy wx none → Reads rd wx) := hreads
  have HRE : Hid (∀ wx, w.grownBy wx none → ∀ (c : Nat) (e : Ent), rs[c]? = some e → ∃ g og, rh = some ⟨g, og, none⟩ ∧ wx.cell? ⟨g, og + c * 4, none⟩ = some (.string e.key) ∧ wx.cell? ⟨g, og + c * 4 + 1, none⟩ = some (.slice e.va e.vl e.vc) ∧ wx.cell? ⟨g, og + c * 4 + 2, none⟩ = some (.int .u64 e.rev) ∧ wx.cell? ⟨g, og + c * 4 + 3, none⟩ = some (.int .u64 e.lease) ∧ BytesAt rd e) := by
    intro wx hg c e he
    obtain ⟨g, og, e1, e2, e3, e4, e5, e6⟩ := h5 c e he
    exact ⟨g, og, e1, hreads wx hg _ _ e2, hreads wx hg _ _ e3, hreads wx hg _ _ e4, hreads wx hg _ _ e5, e6⟩
  have HRN : Hid (∀ (c : Nat) (k : NT d), kds[c]? = some k → ∃ g og q, kh = some ⟨g, og, none⟩ ∧ rd ⟨g, og + c, none⟩ = some (.pointer q) ∧ At rd d (.pointer q) k) := by
    intro c k hk
    obtain ⟨g, og, u, e1, e2, e3⟩ := h6 c k hk
    obtain ⟨q, rfl⟩ := At.pointer d u k e3
    exact ⟨g, og, q, e1, e2, e3⟩
  have HND : Hid (∀ wx, w.grownBy wx none → wx.cell? ⟨b, o, none⟩ = some (.slice (adr rh) rs.length rc) ∧ wx.cell? ⟨b, o + 1, none⟩ = some (.slice (adr kh) kds.length kc)) := fun wx hg => ⟨hreads wx hg _ _ h1, hreads wx hg _ _ h2⟩
  have HR0 : Hid (rh = none → rs = []) := by
    intro hn
    cases rs with
    | nil => rfl
    | cons e t => obtain ⟨g, og, e1, _⟩ := h5 0 e rfl; rw [hn] at e1; cases e1
  have HK0 : Hid (kh = none → kds = []) := by
    intro hn
    cases kds with
    | nil => rfl
    | cons e t => obtain ⟨g, og, u, e1, _⟩ := h6 0 e rfl; rw [hn] at e1; cases e1
  obtain ⟨r, hr⟩ : ∃ r, r = rs.length := ⟨_, rfl⟩
  obtain ⟨n, hn⟩ : ∃ n, n = kds.length := ⟨_, rfl⟩
  rw [← hr, ← hn] at HND
  have hr63 : r ≤ 63 := by omega
  have hn64 : n ≤ 64 := by omega
  have HN : Hid (r = rs.length ∧ n = kds.length ∧ KLen h (kds.map (kidOf d)) rs) := ⟨hr, hn, hklen⟩
  rw [show ((d + 1 : Nat) : Int) = (d : Int) + 1 by omega]
  have hd0 : ¬ ((d : Int) + 1 ≤ 0) := by omega
  have HS0 : Hid (St w [] w []) := St.start (w := w) (L := []) ⟨by simp, by simp [bl], by simp [bl]⟩
  clear h1 h2 h3 h4 h5 h6 hrd hsh hval hlens hklen hreads hr hn
  obtain ⟨i0, hi, hz0, hz1, hz2⟩ := info_parts Try.info52
  obtain ⟨j0, gi, gz0, gz1, gz2⟩ := info_parts Try.info32
  have hnil1 := fun w => Lib.run_eql_slice_nil (P := Try.prog) w 26 57 (adr rh) r rc 0 0 Try.under26
  have hnil2 := fun w => Lib.run_eql_slice_nil (P := Try.prog) w 27 22 (adr kh) n kc 0 0 Try.under27
  obtain ⟨nd0, nd1⟩ := HND.out w (grownBy_refl _ _)
  go_enter Try.func12, Try.ntmps12
  go_upto_if 20 with (fail)
  go_cut [5] (fun rv wx => BldR w rs rv wx)
  case first =>
    cases rh with
    | none =>
      as_aux_lemma =>
        simp only [adr, Option.map_none, Option.isSome_none] at nd0 ⊢
        go_wp2_with fail
        go_meet
        case rel =>
          have h0 := HR0.out (by trivial)
          subst h0
          exact ⟨[], HS0.out.made (v := .slice none 0 0) (grownBy_refl _ _) (Res.rowE (.slice none 0 0) []) (World.ownsRow_nil _ 0 52 4) rfl (by simp [Value.ownBlock]), SameL.nil _, fun g cur hg => rfl⟩
    | some gp =>
      obtain ⟨rg0, ro0, rsp⟩ := gp
      as_aux_lemma =>
        simp only [adr, Option.map_some, Option.isSome_some] at nd0 hnil1 ⊢
        go_wp2_with (at_make; refine wpList_make_own _ rfl _ _ 35 rfl 0 52 i0 (.agg #[.string ByteArray.empty, .slice none 0 0, .int .u64 0, .int .u64 0]) 4 Try.under35 hi hz0 hz1 .i64 .i64 _ r rfl rfl rfl (by rw [hz2]; omega) (by unfold maxLen; omega) (Nat.zero_le _) ?_; intro w1 hown1 hgrow1; have HB1 : Hid (BldR1 w rs r (.slice (some ⟨w.heap.size, 0, none⟩) 0 r) (.int .i64 0) w1) := ⟨0, [], rfl, Nat.zero_le _, rfl, HS0.out.made (v := .slice (some ⟨w.heap.size, 0, none⟩) 0 r) hgrow1 (Res.rowE (.slice (some ⟨w.heap.size, 0, none⟩) 0 r) []) hown1 rfl (by intro b hb; simp only [Value.ownBlock, Option.some.injEq] at hb; subst hb; exact ⟨Nat.le_refl _, (hown1.lt _ (by simp [Value.ownBlock])).2⟩), SameL.nil _, grown_bytes hgrow1⟩; clear hown1 hgrow1)
        clear nd0 nd1
        go_loopw [5, 6] (BldR1 w rs r) (fun _ kv _ => r - (intOf kv).toNat)
        case atStart => exact HB1.out
        case round =>
          clear HB1
          obtain ⟨k, es, rfl, hk, hesl, hS, hsame, hbk⟩ := hrel
          have HS : Hid (St w [] wr [Res.rowE u5 es]) := hS
          have HE : Hid (es.length = k ∧ SameL wr (rs.take k) es ∧ BKept w wr) := ⟨hesl, hsame, hbk⟩
          obtain ⟨nd0, nd1⟩ := HND.out wr hS.grown
          simp only [adr, Option.map_some] at nd0
          clear hS hsame hbk hesl
          by_cases hlt : k < r
          · obtain ⟨e0, he0⟩ : ∃ e0, rs[k]? = some e0 := ⟨_, List.getElem?_eq_getElem (by have := HN.out.1; omega)⟩
            obtain ⟨g, og, hrh, p0, p1, p2, p3, pb⟩ := HRE.out wr HS.out.grown k e0 he0
            simp only [Option.some.injEq, Addr.mk.injEq] at hrh
            obtain ⟨rfl, rfl, rfl⟩ := hrh
            have HE0 : Hid (rs[k]? = some e0) := he0
            clear he0 pb
            obtain ⟨rv, hrv⟩ : ∃ rv, rv = u5 := ⟨_, rfl⟩
            subst hrv
            go_upto_region 10 with (fail)
            obtain ⟨tb, htb⟩ : ∃ tb, tb = wr.heap.size := ⟨_, rfl⟩
            obtain ⟨W1, hW1⟩ : ∃ W1, W1 = wr.alloc (.cells #[.string e0.key, .slice e0.va e0.vl e0.vc, .int .u64 e0.rev, .int .u64 e0.lease] 57) := ⟨_, rfl⟩
            have S3 := (HS.out.alloc (.cells #[.string e0.key, .slice e0.va e0.vl e0.vc, .int .u64 e0.rev, .int .u64 e0.lease] 57)).drew
            have hgW : wr.grownBy W1.drew none := by rw [hW1]; exact grownBy_drew (World.grownBy_alloc _ _ _)
            rw [← htb, ← hW1] at S3
            rw [← htb, ← hW1]
            clear hW1 htb
            obtain ⟨y0, y1, y2, y3⟩ := at57_cells (S3.h.ok (Res.at tb (.cells #[.string e0.key, .slice e0.va e0.vl e0.vc, .int .u64 e0.rev, .int .u64 e0.lease] 57)) (by simp))
            refine region_lexS [0, 1, 2, 3, 4, 6, 7, 8, 9] [5, 10, 11, 12, 13] (fun w' => w'.cell? ⟨tb, 0, none⟩ = some (.string e0.key) ∧ w'.cell? ⟨tb, 0 + 1, none⟩ = some (.slice e0.va e0.vl e0.vc) ∧ w'.cell? ⟨tb, 0 + 2, none⟩ = some (.int .u64 e0.rev) ∧ w'.cell? ⟨tb, 0 + 3, none⟩ = some (.int .u64 e0.lease)) (by kernel_rfl) (by kernel_rfl) (fun _ _ d _ _ h => by cases d <;> exact h) ⟨y0, y1, y2, y3⟩ ?_
            refine reads_cons (rv) (fun w' hw' => rfl) ?_
            simp only [Act.put, List.setIfInBounds_toArray, List.set_cons_succ, List.set_cons_zero]
            refine reads_cons (.pointer (some ⟨tb, 0, none⟩)) (fun w' hw' => rd_field (fld57_0 tb 0 w') rfl rfl) ?_
            simp only [Act.put, List.setIfInBounds_toArray, List.set_cons_succ, List.set_cons_zero]
            refine reads_cons (.string e0.key) (fun w' hw' => rd_load (ld9 hw'.1) rfl rfl) ?_
            simp only [Act.put, List.setIfInBounds_toArray, List.set_cons_succ, List.set_cons_zero]
            refine reads_cons (.pointer (some ⟨tb, 0 + 1, none⟩)) (fun w' hw' => rd_field (fld57_1 tb 0 w') rfl rfl) ?_
            simp only [Act.put, List.setIfInBounds_toArray, List.set_cons_succ, List.set_cons_zero]
            refine reads_cons (.slice e0.va e0.vl e0.vc) (fun w' hw' => rd_load (ld45 hw'.2.1) rfl rfl) ?_
            simp only [Act.put, List.setIfInBounds_toArray, List.set_cons_succ, List.set_cons_zero]
            refine reads_cons (.pointer (some ⟨tb, 0 + 2, none⟩)) (fun w' hw' => rd_field (fld57_2 tb 0 w') rfl rfl) ?_
            simp only [Act.put, List.setIfInBounds_toArray, List.set_cons_succ, List.set_cons_zero]
            refine reads_cons (.int .u64 e0.rev) (fun w' hw' => rd_load (ld46 hw'.2.2.1) rfl rfl) ?_
            simp only [Act.put, List.setIfInBounds_toArray, List.set_cons_succ, List.set_cons_zero]
            refine reads_cons (.pointer (some ⟨tb, 0 + 3, none⟩)) (fun w' hw' => rd_field (fld57_3 tb 0 w') rfl rfl) ?_
            simp only [Act.put, List.setIfInBounds_toArray, List.set_cons_succ, List.set_cons_zero]
            refine reads_cons (.int .u64 e0.lease) (fun w' hw' => rd_load (ld46 hw'.2.2.2) rfl rfl) ?_
            simp only [Act.put, List.setIfInBounds_toArray, List.set_cons_succ, List.set_cons_zero]
            refine reads_nil ?_
            have he0 := HE0.out
            obtain ⟨bs, hvb⟩ := (HVL.out e0 (List.mem_of_getElem? he0)).same (HE.out.2.2.trans (BKept.grown hgW))
            refine sS_call 21 #[.slice e0.va e0.vl e0.vc] _ (by go_simp) (cloneBytes21 W1.drew e0.va e0.vl e0.vc bs hvb.1 (by rw [hvb.1]; exact hvb.2.1) (by
              intro hn
              by_cases h0 : 0 < bs.length
              · obtain ⟨g, b', h1, _⟩ := hvb.cells h0; rw [hn] at h1; cases h1
              · rw [hvb.1]; omega) (fun j b hb => by
                obtain ⟨g, b', h1, h2, h3⟩ := hvb.cells (List.getElem?_eq_some_iff.1 hb).1
                rw [hb] at h2
                obtain rfl : b = b' := by injection h2
                exact ⟨g, 0, h1, by rw [Nat.zero_add]; exact h3⟩)) ?_
            rintro e w3 ⟨va', vc', rfl, hv3, hg3, hfr3⟩
            have S4 := S3.grow hg3
            obtain ⟨y0', y1', y2', y3'⟩ := at57_cells (S4.h.ok (Res.at tb (.cells #[.string e0.key, .slice e0.va e0.vl e0.vc, .int .u64 e0.rev, .int .u64 e0.lease] 57)) (by simp))
            refine ⟨_, rfl, ⟨y0', y1', y2', y3'⟩, ?_⟩
            simp only [Act.put, List.setIfInBounds_toArray, List.set_cons_succ, List.set_cons_zero]
            refine sS_call 23 #[.string e0.key, .slice va' e0.vl vc', .int .u64 e0.rev, .int .u64 e0.lease] _ (by go_simp) (makeEntry23 ⟨e0.key, va', e0.vl, vc', e0.rev, e0.lease⟩) ?_
            rintro e w4 ⟨rfl, hg4⟩
            have S5 := S4.grow hg4
            obtain ⟨y0'', y1'', y2'', y3''⟩ := at57_cells (S5.h.ok (Res.at tb (.cells #[.string e0.key, .slice e0.va e0.vl e0.vc, .int .u64 e0.rev, .int .u64 e0.lease] 57)) (by simp))
            refine ⟨_, rfl, ⟨y0'', y1'', y2'', y3''⟩, ?_⟩
            simp only [Act.put, List.setIfInBounds_toArray, List.set_cons_succ, List.set_cons_zero]
            have S6 := S5.alloc (.cells #[.string e0.key, .slice va' e0.vl vc', .int .u64 e0.rev, .int .u64 e0.lease] 52)
            obtain ⟨z0, z1, z2, z3⟩ := at57_cells (S6.h.ok (Res.at tb (.cells #[.string e0.key, .slice e0.va e0.vl e0.vc, .int .u64 e0.rev, .int .u64 e0.lease] 57)) (by simp))
            refine sS_value (.slice (some ⟨w4.heap.size, 0, none⟩) 1 1) _ (rd_build (bs35 _ _ _ _ _ rfl rfl rfl rfl) rfl rfl) ⟨z0, z1, z2, z3⟩ ?_
            simp only [Act.put, List.setIfInBounds_toArray, List.set_cons_succ, List.set_cons_zero]
            refine sS_op (wp_app52 _ _ _ rfl rv es rfl (S6.h.ok (Res.rowE rv es) (by simp)) w4.heap.size ⟨e0.key, va', e0.vl, vc', e0.rev, e0.lease⟩ rfl (heap_alloc_new _ _) (by have := HE.out.1; omega) ?_)
            intro g7 cap7 w7 ho7 hg7 hb7
            obtain ⟨g8, cap8, he8, S7⟩ := St.rowE [Res.at w4.heap.size (.cells #[.string e0.key, .slice va' e0.vl vc', .int .u64 e0.rev, .int .u64 e0.lease] 52), Res.at tb (.cells #[.string e0.key, .slice e0.va e0.vl e0.vc, .int .u64 e0.rev, .int .u64 e0.lease] 57)] [] S6 (n := es.length + 1) (xs := flatE (es ++ [⟨e0.key, va', e0.vl, vc', e0.rev, e0.lease⟩])) (en := .returned (.slice (some ⟨g7, 0, none⟩) (es.length + 1) cap7)) ⟨g7, cap7, rfl, by have h := ho7; unfold OwnE at h; rw [List.length_append] at h; exact h, hg7, hb7⟩ (es ++ [⟨e0.key, va', e0.vl, vc', e0.rev, e0.lease⟩]) (by simp) rfl
            simp only [Ending.returned.injEq, Value.slice.injEq, Option.some.injEq, Addr.mk.injEq, and_true, true_and] at he8
            obtain ⟨rfl, rfl⟩ := he8
            obtain ⟨t0, t1, t2, t3⟩ := at57_cells (S7.h.ok (Res.at tb (.cells #[.string e0.key, .slice e0.va e0.vl e0.vc, .int .u64 e0.rev, .int .u64 e0.lease] 57)) (by simp))
            refine ⟨⟨t0, t1, t2, t3⟩, ?_⟩
            simp only [Act.put, List.setIfInBounds_toArray, List.set_cons_succ, List.set_cons_zero]
            refine sS_value (.slice (some ⟨g7, 0, none⟩) (es.length + 1) cap7) w7 rfl ⟨t0, t1, t2, t3⟩ ?_
            simp only [Act.put, List.setIfInBounds_toArray, List.set_cons_succ, List.set_cons_zero]
            refine sS_nil ?_
            have HFIN : Hid (BldR1 w rs r (.slice (some ⟨g7, 0, none⟩) (es.length + 1) cap7) (.int .i64 ((k + 1 : Nat) : Int)) w7) := by
              obtain ⟨m1, m2, m3⟩ := HE.out
              have b1 : BKept wr W1.drew := BKept.grown hgW
              have b2 : BKept W1.drew w3 := BKept.grown hg3
              have b3 : BKept w3 w4 := BKept.grown hg4
              have b4 : BKept w4 (w4.alloc (.cells #[.string e0.key, .slice va' e0.vl vc', .int .u64 e0.rev, .int .u64 e0.lease] 52)) := BKept.grown (World.grownBy_alloc _ _ _)
              have b5 : BKept (w4.alloc (.cells #[.string e0.key, .slice va' e0.vl vc', .int .u64 e0.rev, .int .u64 e0.lease] 52)) w7 := bkept_row (S6.h.ok (Res.rowE rv es) (by simp)) (by decide) hg7
              have b37 : BKept w3 w7 := (b3.trans b4).trans b5
              have b17 : BKept wr w7 := (b1.trans b2).trans b37
              refine ⟨k + 1, es ++ [⟨e0.key, va', e0.vl, vc', e0.rev, e0.lease⟩], rfl, by omega, by simp [m1], ?_, ?_, m3.trans b17⟩
              · have := S7.sub (M := [Res.rowE (.slice (some ⟨g7, 0, none⟩) (es.length + 1) cap7) (es ++ [⟨e0.key, va', e0.vl, vc', e0.rev, e0.lease⟩])]) ((List.sublist_cons_self _ _).trans (List.sublist_cons_self _ _))
                exact this
              · rw [List.take_add_one, he0]
                exact (m2.same b17).append (SameL.one ⟨rfl, rfl, rfl, bs, hvb.same (b2.trans b37), hv3.same b37⟩)
            clear S3 S4 S5 S6 S7 hv3 hg3 hfr3 hg4 ho7 hg7 hb7 he0 hgW HS HE HE0 hvb
            go_wp2_with fail
            go_roundw
            case rel => exact HFIN.out
            case measure => simp [intOf] <;> omega
          · have hkr : k = r := by omega
            subst hkr
            go_wp2_with fail
            go_meet
            case rel =>
              obtain ⟨m1, m2, m3⟩ := HE.out
              rw [HN.out.1, List.take_length] at m2
              exact ⟨es, HS.out, m2, m3⟩
  case rest =>
    obtain ⟨es, hS, hsame, hbk⟩ := hcut
    obtain ⟨rv, hrv⟩ : ∃ rv, rv = u5 := ⟨_, rfl⟩
    subst hrv
    obtain ⟨ra, rl, rcc, hrvf⟩ : ∃ ra rl rcc, rv = .slice ra rl rcc := by
      have hown : OwnE wc 52 rv es := hS.h.ok (Res.rowE rv es) (by simp)
      rcases hown.form with ⟨h1, _⟩ | ⟨g, c, h1, _⟩
      · exact ⟨_, _, _, h1⟩
      · exact ⟨_, _, _, h1⟩
    subst hrvf
    have HS : Hid (St w [] wc [Res.rowE (.slice ra rl rcc) es]) := hS
    have HE : Hid (SameL wc rs es ∧ BKept w wc) := ⟨hsame, hbk⟩
    clear nd0 nd1 hS hsame hbk HS0
    obtain ⟨nd0, nd1⟩ := HND.out wc HS.out.grown
    go_upto_if 60 with (fail)
    cases kh with
    | none =>
      as_aux_lemma =>
        simp only [adr, Option.map_none, Option.isSome_none] at nd1 ⊢
        go_wp2_with (go_at_call 30; refine (makeNode30 _ _ _ _ _ _).mono ?_; rintro e w' ⟨rfl, rfl⟩)
        try go_returns
        have h0 := HK0.out (by trivial)
        subst h0
        have hh0 : h = 0 := by
          by_cases hc : h = 0
          · exact hc
          · have := HN.out.2.2.2 hc; simp at this
        subst hh0
        obtain ⟨m1, m2⟩ := HE.out
        have S1 : St w [] _ ([] ++ (parts 0 wc.heap.size (.slice ra rl rcc) (.slice none 0 0) es [] ++ [])) := (HS.out.nilN.allocNode (.slice ra rl rcc) (.slice none 0 0)).perm (List.Perm.cons _ (List.Perm.swap _ _ _))
        obtain ⟨k, S2, hb, hr, hf⟩ := St.shut [] [] S1 (by have := m1.1; have := HN.out.1; omega) ⟨fun _ => rfl, fun h => absurd rfl h⟩ (by simp)
        refine ⟨k, by first | (rw [hb]; done) | (rw [hb]; rfl), S2, ?_, ?_⟩
        · rw [hr, ← m1.1]; rfl
        · rw [HFT.out, hf]
          exact m1.same (BKept.grown (World.grownBy_alloc _ _ _))
    | some gp =>
      obtain ⟨kg0, ko0, ksp⟩ := gp
      as_aux_lemma =>
        simp only [adr, Option.map_some, Option.isSome_some] at nd1 hnil2 ⊢
        go_wp2_with (at_make; refine wpList_make_own _ rfl _ _ 36 rfl 0 32 j0 (.pointer none) 1 Try.under36 gi gz0 gz1 .i64 .i64 _ n rfl rfl rfl (by rw [gz2]; omega) (by unfold maxLen; omega) (Nat.zero_le _) ?_; intro w1 hown1 hgrow1; have HB1 : Hid (BldK d w h (.slice ra rl rcc) es rs kds n (.slice (some ⟨wc.heap.size, 0, none⟩) 0 n) (.int .i64 0) w1) := ⟨0, [], rfl, Nat.zero_le _, rfl, HS.out.made (v := .slice (some ⟨wc.heap.size, 0, none⟩) 0 n) hgrow1 (Res.rowN (.slice (some ⟨wc.heap.size, 0, none⟩) 0 n) []) hown1 rfl (by intro b hb; simp only [Value.ownBlock, Option.some.injEq] at hb; subst hb; exact ⟨Nat.le_refl _, (hown1.lt _ (by simp [Value.ownBlock])).2⟩), HE.out.1.same (BKept.grown hgrow1), HE.out.2.trans (BKept.grown hgrow1), ⟨by simp, by simp⟩, by simp⟩; clear hown1 hgrow1)
        clear nd0 nd1 HS HE
        go_loopw [8, 9] (BldK d w h (.slice ra rl rcc) es rs kds n) (fun _ kv _ => n - (intOf kv).toNat)
        case atStart => exact HB1.out
        case round =>
          clear HB1
          obtain ⟨k, ks, rfl, hk, hksl, hS, hsame, hbk, hsk, hm⟩ := hrel
          obtain ⟨nv, hnv⟩ : ∃ nv, nv = u8 := ⟨_, rfl⟩
          subst hnv
          have HS : Hid (St w [] wr (Res.rowN nv ks :: Res.rowE (.slice ra rl rcc) es :: trees (h - 1) ks)) := hS
          have HC : Hid (ks.length = k ∧ SameL wr rs es ∧ BKept w wr ∧ SameK wr ((kds.take k).map (kidOf d)) ks ∧ ∀ c ∈ ks, 31 ≤ c.r) := ⟨hksl, hsame, hbk, hsk, hm⟩
          obtain ⟨nd0, nd1⟩ := HND.out wr hS.grown
          simp only [adr, Option.map_some] at nd1
          clear hksl hS hsame hbk hsk hm
          by_cases hlt : k < n
          · obtain ⟨kd, hkd⟩ : ∃ kd, kds[k]? = some kd := ⟨_, List.getElem?_eq_getElem (by have := HN.out.2.1; omega)⟩
            obtain ⟨g, og, q, hkh, prd, hat⟩ := HRN.out k kd hkd
            simp only [Option.some.injEq, Addr.mk.injEq] at hkh
            obtain ⟨rfl, rfl, rfl⟩ := hkh
            have p0 := HRD.out wr HS.out.grown _ _ prd
            have hkm := HKID.out kd (List.mem_of_getElem? hkd)
            have HCL : Hid (Calls Try.prog 12 #[.pointer q, .int .i64 d] wr (BldSays d kd (h - 1) wr)) := HIH.out rd (.pointer q) kd wr (h - 1) hat (HRD.out wr HS.out.grown) hkm.1 (VT.mono (fun e he => he.same HC.out.2.2.1) d kd hkm.2.1) (by omega)
            have HE0 : Hid (kds[k]? = some kd ∧ 31 ≤ recs d kd) := ⟨hkd, hkm.2.2⟩
            clear hkd hat prd hkm
            go_wp2_with (first
              | (go_at_call 12; refine HCL.out.mono ?_; rintro e w3 ⟨k', rfl, hS', hkr', hsame'⟩; have hS3 : St w [] w3 (Res.tree (h - 1) k' :: Res.rowN nv ks :: Res.rowE (.slice ra rl rcc) es :: trees (h - 1) ks) := St.step (X := []) (X' := [Res.tree (h - 1) k']) [] _ HS.out hS'.f hS'.h; have HS3 : Hid (St w [] (w3.alloc (.cells #[.pointer (some ⟨k'.b, 0, none⟩)] 32)) _) := hS3.alloc (.cells #[.pointer (some ⟨k'.b, 0, none⟩)] 32); have HK' : Hid (BKept wr w3 ∧ k'.r = recs d kd ∧ SameL w3 (flatT d kd) k'.fl) := ⟨BKept.grown hS'.grown, hkr', hsame'⟩; clear hS' hkr' hsame' hS3)
              | (at_builtin; refine wpList_app32 _ rfl _ _ rfl nv ks rfl (HS3.out.h.ok (Res.rowN nv ks) (by simp)) w3.heap.size k' rfl (heap_alloc_new _ _) (by have := HC.out.1; omega) ?_; intro g7 cap7 w7 hr7; have HR7 : Hid (RowSays 32 1 (w3.alloc (.cells #[.pointer (some ⟨k'.b, 0, none⟩)] 32)) nv (ks.length + 1) (ptrs (ks ++ [k'])) (.returned (.slice (some ⟨g7, 0, none⟩) (ks.length + 1) cap7)) w7) := hr7; clear hr7))
            go_roundw
            case rel =>
              obtain ⟨m1, m2, m3, m4, m5⟩ := HC.out
              obtain ⟨hkd, hk31⟩ := HE0.out
              obtain ⟨n1, n2, n3⟩ := HK'.out
              obtain ⟨g8, cap8, he8, S7⟩ := St.rowN [Res.at w3.heap.size (.cells #[.pointer (some ⟨k'.b, 0, none⟩)] 32), Res.tree (h - 1) k'] _ HS3.out HR7.out (ks ++ [k']) (by simp) rfl
              simp only [Ending.returned.injEq, Value.slice.injEq, Option.some.injEq, Addr.mk.injEq, and_true, true_and] at he8
              obtain ⟨rfl, rfl⟩ := he8
              have b2 : BKept w3 (w3.alloc (.cells #[.pointer (some ⟨k'.b, 0, none⟩)] 32)) := BKept.grown (World.grownBy_alloc _ _ _)
              obtain ⟨_, _, _, _, hg7, _⟩ := HR7.out
              have b3 : BKept (w3.alloc (.cells #[.pointer (some ⟨k'.b, 0, none⟩)] 32)) w7 := bkept_row (HS3.out.h.ok (Res.rowN nv ks) (by simp)) (by decide) hg7
              have b37 := b2.trans b3
              have b17 := n1.trans b37
              refine ⟨k + 1, ks ++ [k'], by go_num, by omega, by simp [m1], ?_, m2.same b17, m3.trans b17, ?_, ?_⟩
              · refine (S7.sub (List.sublist_cons_self _ _)).perm ?_
                show (Res.tree (h - 1) k' :: Res.rowN (.slice (some ⟨g7, 0, none⟩) (ks.length + 1) cap7) (ks ++ [k']) :: Res.rowE (.slice ra rl rcc) es :: trees (h - 1) ks).Perm _
                simp only [trees, List.map_append, List.map_cons, List.map_nil]
                have := (List.perm_middle (a := Res.tree (h - 1) k') (l₁ := Res.rowN (.slice (some ⟨g7, 0, none⟩) (ks.length + 1) cap7) (ks ++ [k']) :: Res.rowE (.slice ra rl rcc) es :: ks.map (Res.tree (h - 1))) (l₂ := [])).symm
                simpa using this
              · rw [List.take_add_one, hkd]
                refine ⟨by have := HN.out.2.1; simp [m1]; omega, fun i x y hx hy => ?_⟩
                rw [List.map_append] at hx
                have hl1 : ((kds.take k).map (kidOf d)).length = ks.length := m4.1
                by_cases hik : i < ks.length
                · rw [List.getElem?_append_left (by omega)] at hx
                  rw [List.getElem?_append_left hik] at hy
                  exact (m4.2 i x y hx hy).same b17
                · rw [List.getElem?_append_right (by omega), hl1] at hx
                  rw [List.getElem?_append_right (by omega)] at hy
                  cases hj : i - ks.length with
                  | zero =>
                    rw [hj] at hx hy
                    simp at hx hy
                    subst hx hy
                    exact n3.same b37
                  | succ j => rw [hj] at hy; simp at hy
              · intro c hc
                rcases List.mem_append.1 hc with hc | hc
                · exact m5 c hc
                · simp at hc; subst hc; omega
            case measure => simp [intOf] <;> omega
          · have hkn : k = n := by omega
            subst hkn
            obtain ⟨na, nl, nc, hnvf⟩ : ∃ na nl nc, nv = .slice na nl nc := by
              have hown : OwnN wr nv ks := HS.out.h.ok (Res.rowN nv ks) (by simp)
              rcases hown.form with ⟨h1, _⟩ | ⟨g, c, h1, _⟩
              · exact ⟨_, _, _, h1⟩
              · exact ⟨_, _, _, h1⟩
            subst hnvf
            go_wp2_with (go_at_call 30; refine (makeNode30 _ _ _ _ _ _).mono ?_; rintro e w' ⟨rfl, rfl⟩)
            try go_returns
            obtain ⟨m1, m2, m3, m4, m5⟩ := HC.out
            rw [HN.out.2.1, List.take_length] at m4
            have hkl : KLen h ks es := by
              have h1 := HN.out.2.2
              have h2 : ks.length = (kds.map (kidOf d)).length := m4.1.symm
              refine ⟨fun h0 => ?_, fun h0 => ?_⟩
              · have := h1.1 h0
                rw [this] at h2
                exact List.eq_nil_of_length_eq_zero h2
              · rw [h2, h1.2 h0, m2.1]
            have S1 : St w [] (wr.alloc (.cells #[.slice ra rl rcc, .slice na nl nc] 71)) ([] ++ (parts h wr.heap.size (.slice ra rl rcc) (.slice na nl nc) es ks ++ [])) := by
              have := (HS.out.allocNode (.slice ra rl rcc) (.slice na nl nc)).perm (List.Perm.cons _ (List.Perm.swap _ _ _))
              simpa [parts, trees] using this
            obtain ⟨k', S2, hb, hr, hf⟩ := St.shut [] [] S1 (by have := m2.1; have := HN.out.1; omega) hkl m5
            refine ⟨k', by first | (rw [hb]; done) | (rw [hb]; rfl), S2, ?_, ?_⟩
            · rw [hr, ← m2.1]; rfl
            · rw [HFT.out, hf]
              exact (weave_same m2 m4).same (BKept.grown (World.grownBy_alloc _ _ _))

theorem build12 : ∀ d, BldStmt d
  | 0 => by
    intro rd v T w h hat hrd hsh hval hd
    exact hsh.elim
  | d + 1 => build12_step d (build12 d)

end Go.Proofs.Qxb6601706a
