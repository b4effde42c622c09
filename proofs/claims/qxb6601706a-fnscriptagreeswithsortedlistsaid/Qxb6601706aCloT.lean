import Derived.Test.Qxb6601706aCloP
import Derived.Test.Qxb6601706aOps3
namespace Go.Proofs.Qxb6601706a
open Go.RowKit
set_option linter.unusedVariables false
set_option linter.unusedSimpArgs false

theorem Try.info22 : (Try.prog.info? 22).map (fun i => (i.zero, i.size, i.bytes)) = some (some (.pointer none), 1, 8) := by kernel_rfl
theorem Try.under27 : Try.prog.underlying 27 = some (.slice 22) := by kernel_rfl
theorem wrap_small (d : Nat) (hd : d + 1 ≤ 8) : IntKind.i64.wrap (d : Int) = (d : Int) := by
  have h : d = 0 ∨ d = 1 ∨ d = 2 ∨ d = 3 ∨ d = 4 ∨ d = 5 ∨ d = 6 ∨ d = 7 := by omega
  rcases h with rfl | rfl | rfl | rfl | rfl | rfl | rfl | rfl <;> decide
def zE : Ent := ⟨ByteArray.empty, none, 0, 0, 0, 0⟩
theorem made57 (n : Nat) : (madeCells (Value.agg #[.string ByteArray.empty, .slice none 0 0, .int .u64 0, .int .u64 0]).cells (n * 4)).toList = flatE (List.replicate n zE) := by
  apply List.ext_getElem?
  intro i
  by_cases hi : i < n * 4
  · have h1 : (List.replicate n zE)[i / 4]? = some zE := by rw [List.getElem?_replicate, if_pos (by omega)]
    have h2 := flatE_get h1 (i % 4) (by omega)
    rw [show i / 4 * 4 + i % 4 = i by omega] at h2
    rw [h2]
    simp only [madeCells, Array.getElem?_toList, Array.getElem?_map, Array.getElem?_range, hi, if_true, Option.map_some]
    have h3 : i % 4 = 0 ∨ i % 4 = 1 ∨ i % 4 = 2 ∨ i % 4 = 3 := by omega
    rcases h3 with h | h | h | h <;> simp [h, Value.cells, Ent.cells, zE]
  · rw [List.getElem?_eq_none (by simp [madeCells]; omega), List.getElem?_eq_none (by rw [flatE_length, List.length_replicate]; omega)]

def CloTSays (d : Nat) (T : NT d) (w : World) (e : Ending) (w' : World) : Prop :=
  ∃ (q : Option Addr) (T' : NT d), e = .returned (.pointer q) ∧ w.grownBy w' none ∧ At (fresh w.heap.size w') d (.pointer q) T' ∧ er d T' = er d T ∧ VT (Val w.heap.size w') d T'
def CloTStmt (d : Nat) : Prop := ∀ (rd : Rd) (v : Value) (T : NT d) (w : World) (h : Nat), At rd d v T → Reads rd w → ShOk d T h → ValT d T → d ≤ 8 → Calls Try.prog 10 #[v, .int .i64 d] w (CloTSays d T w)

/-- behind the records -/
def CloR (w : World) (cb : Nat) (rs : List Ent) (wx : World) : Prop :=
  ∃ rv es, St w [] wx [Res.at cb (.cells #[rv, .slice none 0 0] 29), Res.row57 rv es] ∧ es.map erE = rs.map erE ∧ ∀ e ∈ es, Val w.heap.size wx e
def CloR1 (w : World) (cb rg n : Nat) (rs : List Ent) (kv : Value) (wx : World) : Prop :=
  ∃ (k : Nat) (es : List Ent), kv = .int .i64 k ∧ k ≤ n ∧ es.length = k ∧ St w [] wx [Res.at cb (.cells #[.slice (some ⟨rg, 0, none⟩) n n, .slice none 0 0] 29), Res.row57 (.slice (some ⟨rg, 0, none⟩) n n) (es ++ List.replicate (n - k) zE)] ∧ es.map erE = (rs.take k).map erE ∧ ∀ e ∈ es, Val w.heap.size wx e

theorem St.fresh_blk {w w' : World} {L : List Res} (S : St w [] w' L) {x : Res} (hx : x ∈ L) {b : Nat} (hb : b ∈ x.blocks) : w.heap.size ≤ b := by
  rcases S.f.sub b (mem_bl.2 ⟨x, hx, hb⟩) with h | h
  · simp at h
  · exact h
theorem recs_at {w w' : World} {cb : Nat} {rv kv : Value} {es : List Ent} {L : List Res} (S : St w [] w' (Res.at cb (.cells #[rv, kv] 29) :: Res.row57 rv es :: L)) (hval : ∀ e ∈ es, Val w.heap.size w' e) :
    ∃ rh rc, rv = .slice (adr rh) es.length rc ∧ RowAt (fresh w.heap.size w') rh es ∧ fresh w.heap.size w' ⟨cb, 0, none⟩ = some rv ∧ fresh w.heap.size w' ⟨cb, 0 + 1, none⟩ = some kv := by
  obtain ⟨c0, c1, _, _⟩ := two_cells (S.h.ok (Res.at cb (.cells #[rv, kv] 29)) (by simp))
  have hcb : w.heap.size ≤ cb := S.fresh_blk (x := Res.at cb (.cells #[rv, kv] 29)) (by simp) (by simp [Res.at])
  have hown : OwnE w' 57 rv es := S.h.ok (Res.row57 rv es) (by simp)
  rcases hown.form with ⟨h1, h2⟩ | ⟨g, c, h1, _⟩
  · subst h2
    exact ⟨none, 0, h1, by intro i e he; simp at he, fresh_of c0 hcb, fresh_of c1 hcb⟩
  · refine ⟨some ⟨g, 0, none⟩, c, h1, ?_, fresh_of c0 hcb, fresh_of c1 hcb⟩
    have hg : w.heap.size ≤ g := S.fresh_blk (x := Res.row57 rv es) (by simp) (by rw [h1]; simp [Res.row57, Value.ownBlock])
    intro i e he
    rw [h1] at hown
    obtain ⟨p0, p1, p2, p3⟩ := hown.cell rfl he
    refine ⟨g, 0, rfl, ?_, ?_, ?_, ?_, (hval e (List.mem_of_getElem? he)).bytes⟩
    · rw [Nat.zero_add]; exact fresh_of p0 hg
    · rw [Nat.zero_add]; exact fresh_of p1 hg
    · rw [Nat.zero_add]; exact fresh_of p2 hg
    · rw [Nat.zero_add]; exact fresh_of p3 hg

theorem cl_vals {N cb : Nat} {w w1 : World} {es : List Ent} {x y y' : Value} (h : ∀ e ∈ es, Val N w e) (hg : w.grownBy w1 none) (hc : w1.heap[cb]? = some (.cells #[x, y] 29 (0, 0))) : ∀ e ∈ es, Val N (w1.setCell ⟨cb, 1, none⟩ y') e := by
  intro e he
  refine ((h e he).same (grown_bytes hg)).same (fun g cur hgc => Below.heap_setCell w1 _ y' g ?_)
  rintro rfl
  rw [hc] at hgc
  simp at hgc

def KidOk (N kg d : Nat) (u : Value) (T : NT d) (w : World) : Prop :=
  ∃ rd : Rd, At rd d u T ∧ Reads rd w ∧ (∀ a x, rd a = some x → N ≤ a.block ∧ a.block ≠ kg) ∧ VT (Val N w) d T
theorem KidOk.keep {N kg d : Nat} {u : Value} {T : NT d} {w w' : World} {r : Option Nat} (h : KidOk N kg d u T w) (hg : w.grownBy w' r) (hr : r = none ∨ r = some kg) (hb : ∀ (g : Nat) (cur : Array Value), w.heap[g]? = some (.cells cur 5 (0, 0)) → w'.heap[g]? = w.heap[g]?) : KidOk N kg d u T w' := by
  obtain ⟨rd, h1, h2, h3, h4⟩ := h
  refine ⟨rd, h1, h2.below hg (fun a x b ha e => ?_), h3, VT.mono (fun e he => he.same hb) d T h4⟩
  rcases hr with h | h
  · rw [h] at e; cases e
  · rw [h] at e; simp at e; subst e; exact (h3 a x ha).2
def CloK (d : Nat) (w : World) (cb kg n : Nat) (rv : Value) (es : List Ent) (kds : List (NT d)) (kv : Value) (wx : World) : Prop :=
  ∃ (k : Nat) (qs : List Value) (Ts : List (NT d)), kv = .int .i64 k ∧ k ≤ n ∧ qs.length = k ∧ Ts.length = k ∧
    St w [] wx [Res.at cb (.cells #[rv, .slice (some ⟨kg, 0, none⟩) n n] 29), Res.row57 rv es, Res.rowP (.slice (some ⟨kg, 0, none⟩) n n) (qs ++ List.replicate (n - k) (Value.pointer none))] ∧
    Ts.map (er d) = (kds.take k).map (er d) ∧ (∀ e ∈ es, Val w.heap.size wx e) ∧ ∀ (i : Nat) (u : Value) (T : NT d), qs[i]? = some u → Ts[i]? = some T → KidOk w.heap.size kg d u T wx
theorem own_ptr {w : World} {v : Value} {l : List Value} (h : OwnP w v l) : ∀ b, v.ownBlock = some b → ∃ cur, w.heap[b]? = some (.cells cur 22 (0, 0)) := by
  intro b hb
  rcases h.2 with ⟨h1, _⟩ | ⟨g, cap, cur, hv, _, hg, _⟩
  · rw [h1] at hb; simp [Value.ownBlock] at hb
  · rw [hv] at hb
    simp [Value.ownBlock] at hb
    subst hb
    exact ⟨cur, hg⟩

set_option maxHeartbeats 8000000 in
set_option maxRecDepth 100000 in
theorem clone10_step (d : Nat) (IH : CloTStmt d) : CloTStmt (d + 1) := by
  have HIH : Hid (CloTStmt d) := IH
  clear IH
  intro rd v0 T w h hat hrd hsh hval hd
  obtain ⟨n0, rfl⟩ := hsh.isNode
  obtain ⟨hv, h1, h2, h3, h4, h5, h6⟩ := hat
  subst hv
  have hlens := hsh.len
  have HKID : Hid (∀ k ∈ n0.ks, ShOk d k (h - 1) ∧ ValT d k) := fun k hk => ⟨(hsh.kid hk).2.1, hval.2 k hk⟩
  have HVL : Hid (∀ e ∈ n0.rs, e.vl ≤ 1048576) := hval.1
  obtain ⟨b, o, rh, rc, kh, kc, rs, kds⟩ := n0
  simp only at h1 h2 h3 h4 h5 h6 hlens HKID HVL ⊢
  have hreads : ∀ wx, w.grownBy wx none → Reads rd wx := fun wx hg => hrd.below hg (fun a x b ha hb => by cases hb)
  have HRD : Hid (∀ wx, w.grownBy wx none → Reads rd wx) := hreads
  have HRE : Hid (∀ wx, w.grownBy wx none → ∀ (c : Nat) (e : Ent), rs[c]? = some e → ∃ g og, rh = some ⟨g, og, none⟩ ∧ wx.cell? ⟨g, og + c * 4, none⟩ = some (.string e.key) ∧ wx.cell? ⟨g, og + c * 4 + 1, none⟩ = some (.slice e.va e.vl e.vc) ∧ wx.cell? ⟨g, og + c * 4 + 2, none⟩ = some (.int .u64 e.rev) ∧ wx.cell? ⟨g, og + c * 4 + 3, none⟩ = some (.int .u64 e.lease) ∧ BytesAt rd e) := by
    intro wx hg c e he
    obtain ⟨g, og, e1, e2, e3, e4, e5, e6⟩ := h5 c e he
    exact ⟨g, og, e1, hreads wx hg _ _ e2, hreads wx hg _ _ e3, hreads wx hg _ _ e4, hreads wx hg _ _ e5, e6⟩
  have HRN : Hid (∀ (c : Nat) (k : NT d), kds[c]? = some k → ∃ g og q, kh = some ⟨g, og, none⟩ ∧ rd ⟨g, og + c, none⟩ = some (.pointer q) ∧ At rd d (.pointer q) k) := by
    intro c k hk
    obtain ⟨g, og, u, e1, e2, e3⟩ := h6 c k hk
    obtain ⟨q, rfl⟩ := At.pointer d u k e3
    exact ⟨g, og, q, e1, e2, e3⟩
  have HND : Hid (∀ wx, w.grownBy wx none → wx.cell? ⟨b, o, none⟩ = some (.slice (adr rh) rs.length rc) ∧ wx.cell? ⟨b, o + 1, none⟩ = some (.slice (adr kh) kds.length kc)) := fun wx hg => ⟨hreads wx hg _ _ h1, hreads wx hg _ _ h2⟩
  have HR0 : Hid (rh = none → rs = []) := by
    intro hn
    cases rs with
    | nil => rfl
    | cons e t => obtain ⟨g, og, e1, _⟩ := h5 0 e rfl; rw [hn] at e1; cases e1
  have HK0 : Hid (kh = none → kds = []) := by
    intro hn
    cases kds with
    | nil => rfl
    | cons e t => obtain ⟨g, og, u, e1, _⟩ := h6 0 e rfl; rw [hn] at e1; cases e1
  obtain ⟨r, hr⟩ : ∃ r, r = rs.length := ⟨_, rfl⟩
  obtain ⟨n, hn⟩ : ∃ n, n = kds.length := ⟨_, rfl⟩
  rw [← hr, ← hn] at HND
  have hr63 : r ≤ 63 := by omega
  have hn64 : n ≤ 64 := by omega
  have HN : Hid (r = rs.length ∧ n = kds.length) := ⟨hr, hn⟩
  rw [show ((d + 1 : Nat) : Int) = (d : Int) + 1 by omega]
  have hd0 : ¬ ((d : Int) + 1 ≤ 0) := by omega
  have HWD : Hid (IntKind.i64.wrap (d : Int) = (d : Int)) := wrap_small d hd
  have S0 := (St.start (w := w) (L := []) ⟨by simp, by simp [bl], by simp [bl]⟩).alloc (.cells #[.slice none 0 0, .slice none 0 0] 29)
  clear h1 h2 h3 h4 h5 h6 hrd hsh hval hlens hreads hr hn
  obtain ⟨i0, hi, hz0, hz1, hz2⟩ := info_parts Try.info57
  obtain ⟨j0, gi, gz0, gz1, gz2⟩ := info_parts Try.info22
  have hnil1 := fun w => Lib.run_eql_slice_nil (P := Try.prog) w 26 57 (adr rh) r rc 0 0 Try.under26
  have hnil2 := fun w => Lib.run_eql_slice_nil (P := Try.prog) w 27 22 (adr kh) n kc 0 0 Try.under27
  obtain ⟨nd0, nd1⟩ := HND.out _ S0.grown
  have HS0 : Hid (St w [] (w.alloc (.cells #[.slice none 0 0, .slice none 0 0] 29)) [Res.at w.heap.size (.cells #[.slice none 0 0, .slice none 0 0] 29)]) := S0
  clear S0
  go_enter Try.func10, Try.ntmps10
  go_upto_if 21 with (fail)
  obtain ⟨cb, hcb⟩ : ∃ cb, cb = w.heap.size := ⟨_, rfl⟩
  obtain ⟨W0, hW0⟩ : ∃ W0, W0 = w.alloc (.cells #[.slice none 0 0, .slice none 0 0] 29) := ⟨_, rfl⟩
  rw [← hW0] at nd0 nd1
  rw [← hcb, ← hW0] at HS0
  rw [← hcb, ← hW0]
  have HCB : Hid (cb = w.heap.size) := hcb
  clear hcb hW0
  go_cut [] (fun wx => CloR w cb rs wx)
  case first =>
    cases rh with
    | none =>
      as_aux_lemma =>
        simp only [adr, Option.map_none, Option.isSome_none] at nd0 ⊢
        go_wp2_with fail
        go_meet
        case rel =>
          have h0 := HR0.out (by trivial)
          subst h0
          refine ⟨.slice none 0 0, [], ?_, rfl, by simp⟩
          exact ((HS0.out.made (v := .slice none 0 0) (grownBy_refl _ _) (Res.row57 (.slice none 0 0) []) (World.ownsRow_nil _ 0 57 4) rfl (by simp [Value.ownBlock])).perm (List.Perm.swap _ _ _))
    | some gp =>
      obtain ⟨rg0, ro0, rsp⟩ := gp
      as_aux_lemma =>
        simp only [adr, Option.map_some, Option.isSome_some] at nd0 hnil1 ⊢
        obtain ⟨rg, hrg⟩ : ∃ rg, rg = W0.heap.size := ⟨_, rfl⟩
        go_wp2_with (at_make; refine wpList_make_full _ rfl _ _ 26 rfl 0 57 i0 (.agg #[.string ByteArray.empty, .slice none 0 0, .int .u64 0, .int .u64 0]) 4 Try.under26 hi hz0 hz1 .i64 .i64 _ _ r rfl rfl rfl rfl (by rw [hz2]; omega) (by unfold maxLen; omega) (Nat.zero_le _) ?_; intro w1 hown1 hgrow1; rw [made57, ← hrg] at hown1; have S1 := St.perm (HS0.out.made (v := .slice (some ⟨rg, 0, none⟩) r r) hgrow1 (Res.row57 (.slice (some ⟨rg, 0, none⟩) r r) (List.replicate r zE)) (by show World.ownsRow _ 0 57 4 _ (List.replicate r zE).length _; rw [List.length_replicate]; exact hown1) rfl (by intro b hb; simp only [Value.ownBlock, Option.some.injEq] at hb; subst hb; exact ⟨by omega, (hown1.lt rg (by simp [Value.ownBlock])).2⟩)) (List.Perm.swap _ _ _); obtain ⟨q0, q1, qf0, qf1⟩ := two_cells (S1.h.ok (Res.at cb (.cells #[.slice none 0 0, .slice none 0 0] 29)) (by simp)); have HS1 : Hid (St w [] (w1.setCell ⟨cb, 0, none⟩ (.slice (some ⟨rg, 0, none⟩) r r)) _) := St.setAt0 [] _ S1 (.slice (some ⟨rg, 0, none⟩) r r); obtain ⟨nd0', nd1'⟩ := HND.out _ S1.grown; clear hown1 hgrow1 S1)
        rw [← hrg]
        clear hrg HS0 q0 q1 qf0 qf1 nd0' nd1'
        go_loopw [6] (CloR1 w cb rg r rs) (fun kv _ => r - (intOf kv).toNat)
        case atStart => exact ⟨0, [], rfl, Nat.zero_le _, rfl, by simpa using HS1.out, by simp, by simp⟩
        case round =>
          clear HS1 nd0 nd1
          obtain ⟨k, es, rfl, hk, hesl, hS, hes, hval⟩ := hrel
          have HS : Hid (St w [] wr [Res.at cb (.cells #[.slice (some ⟨rg, 0, none⟩) r r, .slice none 0 0] 29), Res.row57 (.slice (some ⟨rg, 0, none⟩) r r) (es ++ List.replicate (r - k) zE)]) := hS
          have HE : Hid (es.length = k ∧ es.map erE = (rs.take k).map erE ∧ ∀ e ∈ es, Val w.heap.size wr e) := ⟨hesl, hes, hval⟩
          obtain ⟨nd0, nd1⟩ := HND.out wr hS.grown
          simp only [adr, Option.map_some] at nd0
          clear hS hes hval hesl
          by_cases hlt : k < r
          · obtain ⟨e0, he0⟩ : ∃ e0, rs[k]? = some e0 := ⟨_, List.getElem?_eq_getElem (by have := HN.out.1; omega)⟩
            obtain ⟨g, og, hrh, p0, p1, p2, p3, pb⟩ := HRE.out wr HS.out.grown k e0 he0
            simp only [Option.some.injEq, Addr.mk.injEq] at hrh
            obtain ⟨rfl, rfl, rfl⟩ := hrh
            have HE0 : Hid (rs[k]? = some e0 ∧ BytesAt rd e0) := ⟨he0, pb⟩
            clear he0 pb
            go_upto_region 10 with (fail)
            obtain ⟨tb, htb⟩ : ∃ tb, tb = wr.heap.size := ⟨_, rfl⟩
            obtain ⟨W1, hW1⟩ : ∃ W1, W1 = wr.alloc (.cells #[.string e0.key, .slice e0.va e0.vl e0.vc, .int .u64 e0.rev, .int .u64 e0.lease] 57) := ⟨_, rfl⟩
            have S3 := (HS.out.alloc (.cells #[.string e0.key, .slice e0.va e0.vl e0.vc, .int .u64 e0.rev, .int .u64 e0.lease] 57)).drew
            have hgW : wr.grownBy W1.drew none := by rw [hW1]; exact grownBy_drew (World.grownBy_alloc _ _ _)
            rw [← htb, ← hW1] at S3
            rw [← htb, ← hW1]
            clear hW1 htb
            obtain ⟨y0, y1, y2, y3⟩ := at57_cells (S3.h.ok (Res.at tb (.cells #[.string e0.key, .slice e0.va e0.vl e0.vc, .int .u64 e0.rev, .int .u64 e0.lease] 57)) (by simp))
            obtain ⟨q0, q1, qf0, qf1⟩ := two_cells (S3.h.ok (Res.at cb (.cells #[.slice (some ⟨rg, 0, none⟩) r r, .slice none 0 0] 29)) (by simp))
            refine region_lexS [0, 1, 2, 3, 4, 5, 6, 7, 8, 10, 11, 12, 13] [9, 14, 15, 16] (fun w' => w'.cell? ⟨cb, 0, none⟩ = some (.slice (some ⟨rg, 0, none⟩) r r) ∧ w'.cell? ⟨tb, 0, none⟩ = some (.string e0.key) ∧ w'.cell? ⟨tb, 0 + 1, none⟩ = some (.slice e0.va e0.vl e0.vc) ∧ w'.cell? ⟨tb, 0 + 2, none⟩ = some (.int .u64 e0.rev) ∧ w'.cell? ⟨tb, 0 + 3, none⟩ = some (.int .u64 e0.lease)) (by kernel_rfl) (by kernel_rfl) (fun _ _ d _ _ h => by cases d <;> exact h) ⟨q0, y0, y1, y2, y3⟩ ?_
            refine reads_cons (.pointer (some ⟨cb, 0, none⟩)) (fun w' hw' => rfl) ?_
            simp only [Act.put, List.setIfInBounds_toArray, List.set_cons_succ, List.set_cons_zero]
            refine reads_cons (.pointer (some ⟨cb, 0, none⟩)) (fun w' hw' => rfl) ?_
            simp only [Act.put, List.setIfInBounds_toArray, List.set_cons_succ, List.set_cons_zero]
            refine reads_cons (.pointer (some ⟨cb, 0, none⟩)) (fun w' hw' => rd_field (fld29_0 cb 0 w') rfl rfl) ?_
            simp only [Act.put, List.setIfInBounds_toArray, List.set_cons_succ, List.set_cons_zero]
            refine reads_cons (.slice (some ⟨rg, 0, none⟩) r r) (fun w' hw' => rd_load (ld26 hw'.1) rfl rfl) ?_
            simp only [Act.put, List.setIfInBounds_toArray, List.set_cons_succ, List.set_cons_zero]
            refine reads_cons (.int .i64 k) (fun w' hw' => rfl) ?_
            simp only [Act.put, List.setIfInBounds_toArray, List.set_cons_succ, List.set_cons_zero]
            refine reads_cons (.pointer (some ⟨tb, 0, none⟩)) (fun w' hw' => rd_field (fld57_0 tb 0 w') rfl rfl) ?_
            simp only [Act.put, List.setIfInBounds_toArray, List.set_cons_succ, List.set_cons_zero]
            refine reads_cons (.string e0.key) (fun w' hw' => rd_load (ld9 hw'.2.1) rfl rfl) ?_
            simp only [Act.put, List.setIfInBounds_toArray, List.set_cons_succ, List.set_cons_zero]
            refine reads_cons (.pointer (some ⟨tb, 0 + 1, none⟩)) (fun w' hw' => rd_field (fld57_1 tb 0 w') rfl rfl) ?_
            simp only [Act.put, List.setIfInBounds_toArray, List.set_cons_succ, List.set_cons_zero]
            refine reads_cons (.slice e0.va e0.vl e0.vc) (fun w' hw' => rd_load (ld45 hw'.2.2.1) rfl rfl) ?_
            simp only [Act.put, List.setIfInBounds_toArray, List.set_cons_succ, List.set_cons_zero]
            refine reads_cons (.pointer (some ⟨tb, 0 + 2, none⟩)) (fun w' hw' => rd_field (fld57_2 tb 0 w') rfl rfl) ?_
            simp only [Act.put, List.setIfInBounds_toArray, List.set_cons_succ, List.set_cons_zero]
            refine reads_cons (.int .u64 e0.rev) (fun w' hw' => rd_load (ld46 hw'.2.2.2.1) rfl rfl) ?_
            simp only [Act.put, List.setIfInBounds_toArray, List.set_cons_succ, List.set_cons_zero]
            refine reads_cons (.pointer (some ⟨tb, 0 + 3, none⟩)) (fun w' hw' => rd_field (fld57_3 tb 0 w') rfl rfl) ?_
            simp only [Act.put, List.setIfInBounds_toArray, List.set_cons_succ, List.set_cons_zero]
            refine reads_cons (.int .u64 e0.lease) (fun w' hw' => rd_load (ld46 hw'.2.2.2.2) rfl rfl) ?_
            simp only [Act.put, List.setIfInBounds_toArray, List.set_cons_succ, List.set_cons_zero]
            refine reads_nil ?_
            obtain ⟨he0, bs, hb1, hb2, hb3⟩ := HE0.out
            have hrdW := HRD.out W1.drew S3.grown
            refine sS_call 21 #[.slice e0.va e0.vl e0.vc] _ (by go_simp) (cloneBytes21 W1.drew e0.va e0.vl e0.vc bs hb1 (HVL.out e0 (List.mem_of_getElem? he0)) (by rcases hb2 with h | ⟨g, o, h⟩; exact fun _ => h; intro h'; rw [h] at h'; cases h') (fun j b hb => by obtain ⟨g, o, h1, h2⟩ := hb3 j b hb; exact ⟨g, o, h1, hrdW _ _ h2⟩)) ?_
            rintro e w3 ⟨va', vc', rfl, hv3, hg3, hfr3⟩
            have S4 := S3.grow hg3
            obtain ⟨y0', y1', y2', y3'⟩ := at57_cells (S4.h.ok (Res.at tb (.cells #[.string e0.key, .slice e0.va e0.vl e0.vc, .int .u64 e0.rev, .int .u64 e0.lease] 57)) (by simp))
            obtain ⟨q0', q1', qf0', qf1'⟩ := two_cells (S4.h.ok (Res.at cb (.cells #[.slice (some ⟨rg, 0, none⟩) r r, .slice none 0 0] 29)) (by simp))
            refine ⟨_, rfl, ⟨q0', y0', y1', y2', y3'⟩, ?_⟩
            simp only [Act.put, List.setIfInBounds_toArray, List.set_cons_succ, List.set_cons_zero]
            refine sS_value (.agg #[.string e0.key, .slice va' e0.vl vc', .int .u64 e0.rev, .int .u64 e0.lease]) w3 (by go_simp) ⟨q0', y0', y1', y2', y3'⟩ ?_
            simp only [Act.put, List.setIfInBounds_toArray, List.set_cons_succ, List.set_cons_zero]
            refine sS_value (.pointer (some ⟨rg, k * 4, none⟩)) w3 (rd_index (ix26 w3 hlt (by omega)) rfl rfl rfl) ⟨q0', y0', y1', y2', y3'⟩ ?_
            simp only [Act.put, List.setIfInBounds_toArray, List.set_cons_succ, List.set_cons_zero]
            have hln : r = (es ++ List.replicate (r - k) zE).length := by have := HE.out.1; simp; omega
            obtain ⟨S5, hg5⟩ := St.set57 [Res.at tb (.cells #[.string e0.key, .slice e0.va e0.vl e0.vc, .int .u64 e0.rev, .int .u64 e0.lease] 57), Res.at cb (.cells #[.slice (some ⟨rg, 0, none⟩) r r, .slice none 0 0] 29)] [] S4 hln k ⟨e0.key, va', e0.vl, vc', e0.rev, e0.lease⟩
            have hown3 : w3.ownsRow 0 57 4 (.slice (some ⟨rg, 0, none⟩) r r) r (flatE (es ++ List.replicate (r - k) zE)) := by
              have h2 : OwnE w3 57 (.slice (some ⟨rg, 0, none⟩) r r) (es ++ List.replicate (r - k) zE) := S4.h.ok (Res.row57 (.slice (some ⟨rg, 0, none⟩) r r) (es ++ List.replicate (r - k) zE)) (by simp)
              unfold OwnE at h2
              rwa [← hln] at h2
            obtain ⟨z0, z1, z2, z3⟩ := at57_cells (S5.h.ok (Res.at tb (.cells #[.string e0.key, .slice e0.va e0.vl e0.vc, .int .u64 e0.rev, .int .u64 e0.lease] 57)) (by simp))
            obtain ⟨x0, x1, xf0, xf1⟩ := two_cells (S5.h.ok (Res.at cb (.cells #[.slice (some ⟨rg, 0, none⟩) r r, .slice none 0 0] 29)) (by simp))
            refine sS_skip _ (rd_store (st57 hown3 k hlt ⟨e0.key, va', e0.vl, vc', e0.rev, e0.lease⟩) rfl rfl rfl) ⟨x0, z0, z1, z2, z3⟩ ?_
            simp only [Act.put, List.setIfInBounds_toArray, List.set_cons_succ, List.set_cons_zero]
            refine sS_nil ?_
            have HFIN : Hid (CloR1 w cb rg r rs (.int .i64 ((k + 1 : Nat) : Int)) ((((w3.setCell ⟨rg, k * 4, none⟩ (.string e0.key)).setCell ⟨rg, k * 4 + 1, none⟩ (.slice va' e0.vl vc')).setCell ⟨rg, k * 4 + 2, none⟩ (.int .u64 e0.rev)).setCell ⟨rg, k * 4 + 3, none⟩ (.int .u64 e0.lease))) := by
              obtain ⟨m1, m2, m3⟩ := HE.out
              refine ⟨k + 1, es ++ [⟨e0.key, va', e0.vl, vc', e0.rev, e0.lease⟩], rfl, by omega, by simp [m1], ?_, ?_, ?_⟩
              · have S6 := S5.sub (List.sublist_cons_self _ _)
                have e1 : (es ++ List.replicate (r - k) zE).set k ⟨e0.key, va', e0.vl, vc', e0.rev, e0.lease⟩ = es ++ [⟨e0.key, va', e0.vl, vc', e0.rev, e0.lease⟩] ++ List.replicate (r - (k + 1)) zE := by
                  rw [show r - k = (r - (k + 1)) + 1 by omega, List.replicate_succ, List.set_append_right _ _ (by omega), m1, Nat.sub_self]
                  simp
                rw [e1] at S6
                exact S6
              · rw [List.map_append, m2, List.take_add_one, he0]
                simp [erE]
              · have hkb : ∀ (g : Nat) (cur : Array Value), wr.heap[g]? = some (.cells cur 5 (0, 0)) → w3.heap[g]? = wr.heap[g]? := fun g cur hg => grown_bytes (grownBy_trans hgW hg3) g cur hg
                have hkb2 : ∀ (g : Nat) (cur : Array Value), w3.heap[g]? = some (.cells cur 5 (0, 0)) → _ = w3.heap[g]? := fun g cur hg => hg5.block g (Array.getElem?_eq_some_iff.1 hg).1 (by
                  intro e
                  simp only [Option.some.injEq] at e
                  subst e
                  obtain ⟨cur2, hc2⟩ := own57 (v := .slice (some ⟨g, 0, none⟩) r r) (l := es ++ List.replicate (r - k) zE) (S4.h.ok (Res.row57 (.slice (some ⟨g, 0, none⟩) r r) (es ++ List.replicate (r - k) zE)) (by simp)) g rfl
                  rw [hg] at hc2
                  simp at hc2)
                intro e he
                rcases List.mem_append.1 he with he | he
                · exact ((m3 e he).same hkb).same hkb2
                · simp at he
                  subst he
                  refine Val.same ⟨bs, hv3, ?_⟩ hkb2
                  rcases hfr3 with h | ⟨g, h1, h2⟩
                  · exact .inl h
                  · exact .inr ⟨g, h1, Nat.le_trans S3.grown.size h2⟩
            clear S3 S4 S5 hv3 hg3 hfr3 hown3 hg5 hrdW hb1 hb2 hb3 he0 hgW HS HE HE0
            go_wp2_with fail
            go_roundw
            case rel => exact HFIN.out
            case measure => simp [intOf] <;> omega
          · have hkr : k = r := by omega
            subst hkr
            go_wp2_with fail
            go_meet
            case rel =>
              obtain ⟨m1, m2, m3⟩ := HE.out
              refine ⟨.slice (some ⟨rg, 0, none⟩) k k, es, ?_, ?_, m3⟩
              · have := HS.out
                simpa using this
              · rw [m2, HN.out.1, List.take_length]
  case rest =>
    obtain ⟨rv, es, hS, her, hval⟩ := hcut
    obtain ⟨ra, rl, rcc, hrvf⟩ : ∃ ra rl rcc, rv = .slice ra rl rcc := by
      have hown : OwnE wc 57 rv es := hS.h.ok (Res.row57 rv es) (by simp)
      rcases hown.form with ⟨h1, _⟩ | ⟨g, c, h1, _⟩
      · exact ⟨_, _, _, h1⟩
      · exact ⟨_, _, _, h1⟩
    have HS : Hid (St w [] wc [Res.at cb (.cells #[rv, .slice none 0 0] 29), Res.row57 rv es]) := hS
    have HE : Hid (es.map erE = rs.map erE ∧ ∀ e ∈ es, Val w.heap.size wc e) := ⟨her, hval⟩
    clear HS0 nd0 nd1 her hval hS
    obtain ⟨nd0, nd1⟩ := HND.out wc HS.out.grown
    obtain ⟨q0, q1, qf0, qf1⟩ := two_cells (HS.out.h.ok (Res.at cb (.cells #[rv, .slice none 0 0] 29)) (by simp))
    go_upto_if 67 with (fail)
    cases kh with
    | none =>
      as_aux_lemma =>
        simp only [adr, Option.map_none, Option.isSome_none] at nd1 ⊢
        go_wp2_with fail
        go_returns
        have h0 := HK0.out (by trivial)
        subst h0
        obtain ⟨rh', rc', h1, h2, h3, h4⟩ := recs_at HS.out HE.out.2
        refine ⟨some ⟨cb, 0, none⟩, some ⟨cb, 0, rh', rc', none, 0, es, []⟩, rfl, HS.out.grown, ⟨rfl, by rw [← h1]; exact h3, h4, ?_, by simp [maxLen], h2, by intro i k hk; simp at hk⟩, ?_, ⟨HE.out.2, by simp⟩⟩
        · have := congrArg List.length HE.out.1
          simp at this
          have := HN.out.1
          unfold maxLen
          show es.length ≤ _
          omega
        · show some _ = some _
          rw [HE.out.1]
    | some gp =>
      obtain ⟨kg0, ko0, ksp⟩ := gp
      as_aux_lemma =>
        simp only [adr, Option.map_some, Option.isSome_some] at nd1 hnil2 ⊢
        obtain ⟨kg, hkg⟩ : ∃ kg, kg = wc.heap.size := ⟨_, rfl⟩
        go_wp2_with (at_make; refine wpList_make_full _ rfl _ _ 27 rfl 0 22 j0 (.pointer none) 1 Try.under27 gi gz0 gz1 .i64 .i64 _ _ n rfl rfl rfl rfl (by rw [gz2]; omega) (by unfold maxLen; omega) (Nat.zero_le _) ?_; intro w1 hown1 hgrow1; rw [show (Value.pointer none).cells = #[.pointer none] from rfl, toList_madeCells_one, Nat.mul_one, ← hkg] at hown1; have S1 := HS.out.made (v := .slice (some ⟨kg, 0, none⟩) n n) hgrow1 (Res.rowP (.slice (some ⟨kg, 0, none⟩) n n) (List.replicate n (.pointer none))) (by show World.ownsRow _ 0 22 1 _ (List.replicate n (Value.pointer none)).length _; rw [List.length_replicate]; exact hown1) rfl (by intro b hb; simp only [Value.ownBlock, Option.some.injEq] at hb; subst hb; exact ⟨by omega, (hown1.lt kg (by simp [Value.ownBlock])).2⟩); obtain ⟨q0', q1', qf0', qf1'⟩ := two_cells (S1.h.ok (Res.at cb (.cells #[rv, .slice none 0 0] 29)) (by simp)); have S2 := St.setAt1 [] _ (S1.perm (M := [Res.at cb (.cells #[rv, .slice none 0 0] 29), Res.row57 rv es, Res.rowP (.slice (some ⟨kg, 0, none⟩) n n) (List.replicate n (.pointer none))]) (perm_pick 2 rfl (List.Perm.refl _))) (.slice (some ⟨kg, 0, none⟩) n n); have HS1 : Hid (St w [] (w1.setCell ⟨cb, 1, none⟩ (.slice (some ⟨kg, 0, none⟩) n n)) _) := S2; have HV1 : Hid (∀ e ∈ es, Val w.heap.size (w1.setCell ⟨cb, 1, none⟩ (.slice (some ⟨kg, 0, none⟩) n n)) e) := cl_vals HE.out.2 hgrow1 (S1.h.ok (Res.at cb (.cells #[rv, .slice none 0 0] 29)) (by simp)); obtain ⟨nd0', nd1'⟩ := HND.out _ S1.grown; clear hown1 hgrow1 S1 S2)
        rw [← hkg]
        clear hkg HS q0 q1 qf0 qf1 q0' q1' qf0' qf1' nd0' nd1'
        go_loopw [8] (CloK d w cb kg n rv es kds) (fun kv _ => n - (intOf kv).toNat)
        case atStart => exact ⟨0, [], [], rfl, Nat.zero_le _, rfl, rfl, by simpa using HS1.out, by simp, HV1.out, by simp⟩
        case round =>
          clear HS1 HV1 nd0 nd1
          obtain ⟨k, qs, Ts, rfl, hk, hqs, hTs, hS, her, hval, hkid⟩ := hrel
          have HS : Hid (St w [] wr [Res.at cb (.cells #[rv, .slice (some ⟨kg, 0, none⟩) n n] 29), Res.row57 rv es, Res.rowP (.slice (some ⟨kg, 0, none⟩) n n) (qs ++ List.replicate (n - k) (Value.pointer none))]) := hS
          have HC : Hid (qs.length = k ∧ Ts.length = k ∧ Ts.map (er d) = (kds.take k).map (er d) ∧ (∀ e ∈ es, Val w.heap.size wr e) ∧ ∀ (i : Nat) (u : Value) (T : NT d), qs[i]? = some u → Ts[i]? = some T → KidOk w.heap.size kg d u T wr) := ⟨hqs, hTs, her, hval, hkid⟩
          obtain ⟨nd0, nd1⟩ := HND.out wr hS.grown
          simp only [adr, Option.map_some] at nd1
          clear hqs hTs hS her hval hkid
          by_cases hlt : k < n
          · obtain ⟨kd, hkd⟩ : ∃ kd, kds[k]? = some kd := ⟨_, List.getElem?_eq_getElem (by have := HN.out.2; omega)⟩
            obtain ⟨g, og, q, hkh, prd, hat⟩ := HRN.out k kd hkd
            simp only [Option.some.injEq, Addr.mk.injEq] at hkh
            obtain ⟨rfl, rfl, rfl⟩ := hkh
            have p0 := HRD.out wr HS.out.grown _ _ prd
            have HE0 : Hid (kds[k]? = some kd ∧ At rd d (.pointer q) kd ∧ rd ⟨kg0, ko0 + k, none⟩ = some (.pointer q)) := ⟨hkd, hat, prd⟩
            clear hkd hat prd
            go_upto_region 16 with (fail)
            have S3 := HS.out.drew
            obtain ⟨x0, x1, xf0, xf1⟩ := two_cells (S3.h.ok (Res.at cb (.cells #[rv, .slice (some ⟨kg, 0, none⟩) n n] 29)) (by simp))
            refine region_lexS [0, 1, 2, 3, 4, 5, 6, 7, 8, 9, 10, 11, 12, 13] [14, 15, 16] (fun w' => w'.cell? ⟨cb, 0 + 1, none⟩ = some (.slice (some ⟨kg, 0, none⟩) n n) ∧ w'.cell? ⟨b, o + 1, none⟩ = some (.slice (some ⟨kg0, ko0, none⟩) n kc) ∧ w'.cell? ⟨kg0, ko0 + k, none⟩ = some (.pointer q)) (by kernel_rfl) (by kernel_rfl) (fun _ _ d _ _ h => by cases d <;> exact h) ⟨x1, nd1, p0⟩ ?_
            refine reads_cons (.pointer (some ⟨cb, 0, none⟩)) (fun w' hw' => rfl) ?_
            simp only [Act.put, List.setIfInBounds_toArray, List.set_cons_succ, List.set_cons_zero]
            refine reads_cons (.pointer (some ⟨cb, 0, none⟩)) (fun w' hw' => rfl) ?_
            simp only [Act.put, List.setIfInBounds_toArray, List.set_cons_succ, List.set_cons_zero]
            refine reads_cons (.pointer (some ⟨cb, 0 + 1, none⟩)) (fun w' hw' => rd_field (fld29_1 cb 0 w') rfl rfl) ?_
            simp only [Act.put, List.setIfInBounds_toArray, List.set_cons_succ, List.set_cons_zero]
            refine reads_cons (.slice (some ⟨kg, 0, none⟩) n n) (fun w' hw' => rd_load (ld27 hw'.1) rfl rfl) ?_
            simp only [Act.put, List.setIfInBounds_toArray, List.set_cons_succ, List.set_cons_zero]
            refine reads_cons (.int .i64 k) (fun w' hw' => rfl) ?_
            simp only [Act.put, List.setIfInBounds_toArray, List.set_cons_succ, List.set_cons_zero]
            refine reads_cons (.pointer (some ⟨b, o, none⟩)) (fun w' hw' => rfl) ?_
            simp only [Act.put, List.setIfInBounds_toArray, List.set_cons_succ, List.set_cons_zero]
            refine reads_cons (.pointer (some ⟨b, o, none⟩)) (fun w' hw' => rfl) ?_
            simp only [Act.put, List.setIfInBounds_toArray, List.set_cons_succ, List.set_cons_zero]
            refine reads_cons (.pointer (some ⟨b, o + 1, none⟩)) (fun w' hw' => rd_field (fld29_1 b o w') rfl rfl) ?_
            simp only [Act.put, List.setIfInBounds_toArray, List.set_cons_succ, List.set_cons_zero]
            refine reads_cons (.slice (some ⟨kg0, ko0, none⟩) n kc) (fun w' hw' => rd_load (ld27 hw'.2.1) rfl rfl) ?_
            simp only [Act.put, List.setIfInBounds_toArray, List.set_cons_succ, List.set_cons_zero]
            refine reads_cons (.int .i64 k) (fun w' hw' => rfl) ?_
            simp only [Act.put, List.setIfInBounds_toArray, List.set_cons_succ, List.set_cons_zero]
            refine reads_cons (.pointer (some ⟨kg0, ko0 + k, none⟩)) (fun w' hw' => rd_index (ix27 w' hlt (by omega)) rfl rfl rfl) ?_
            simp only [Act.put, List.setIfInBounds_toArray, List.set_cons_succ, List.set_cons_zero]
            refine reads_cons (.pointer q) (fun w' hw' => rd_load (ld22 hw'.2.2) rfl rfl) ?_
            simp only [Act.put, List.setIfInBounds_toArray, List.set_cons_succ, List.set_cons_zero]
            refine reads_cons (.int .i64 ((d : Int) + 1)) (fun w' hw' => rfl) ?_
            simp only [Act.put, List.setIfInBounds_toArray, List.set_cons_succ, List.set_cons_zero]
            refine reads_cons (.int .i64 d) (fun w' hw' => by go_simp; exact HWD.out) ?_
            simp only [Act.put, List.setIfInBounds_toArray, List.set_cons_succ, List.set_cons_zero]
            refine reads_nil ?_
            obtain ⟨hkd, hat, prd⟩ := HE0.out
            refine sS_call 10 #[.pointer q, .int .i64 d] _ (by go_simp) (HIH.out rd (.pointer q) kd wr.drew (h - 1) hat (HRD.out wr.drew S3.grown) (HKID.out kd (List.mem_of_getElem? hkd)).1 (HKID.out kd (List.mem_of_getElem? hkd)).2 (by omega)) ?_
            rintro e w3 ⟨q', T', rfl, hg3, hat3, her3, hv3⟩
            have S4 := S3.grow hg3
            obtain ⟨nd0', nd1'⟩ := HND.out w3 S4.grown
            simp only [adr, Option.map_some] at nd1'
            have p0' := HRD.out w3 S4.grown _ _ prd
            obtain ⟨x0', x1', xf0', xf1'⟩ := two_cells (S4.h.ok (Res.at cb (.cells #[rv, .slice (some ⟨kg, 0, none⟩) n n] 29)) (by simp))
            refine ⟨_, rfl, ⟨x1', nd1', p0'⟩, ?_⟩
            simp only [Act.put, List.setIfInBounds_toArray, List.set_cons_succ, List.set_cons_zero]
            refine sS_value (.pointer (some ⟨kg, k, none⟩)) w3 (rd_index (ix27_0 w3 hlt (by omega)) rfl rfl rfl) ⟨x1', nd1', p0'⟩ ?_
            simp only [Act.put, List.setIfInBounds_toArray, List.set_cons_succ, List.set_cons_zero]
            have hln : n = (qs ++ List.replicate (n - k) (Value.pointer none)).length := by have := HC.out.1; simp; omega
            have hownP : OwnP w3 (.slice (some ⟨kg, 0, none⟩) n n) (qs ++ List.replicate (n - k) (Value.pointer none)) := S4.h.ok (Res.rowP (.slice (some ⟨kg, 0, none⟩) n n) (qs ++ List.replicate (n - k) (Value.pointer none))) (by simp)
            obtain ⟨S5, hg5⟩ := St.setP [Res.at cb (.cells #[rv, .slice (some ⟨kg, 0, none⟩) n n] 29), Res.row57 rv es] [] S4 hln k (.pointer q')
            have hownP' : w3.ownsRow 0 22 1 (.slice (some ⟨kg, 0, none⟩) n n) n (qs ++ List.replicate (n - k) (Value.pointer none)) := by
              unfold OwnP at hownP
              rwa [← hln] at hownP
            obtain ⟨⟨u0, hu0⟩, huf⟩ := owns_cell_frozen hownP' k (by omega)
            obtain ⟨nd0'', nd1''⟩ := HND.out _ S5.grown
            simp only [adr, Option.map_some] at nd1''
            have p0'' := HRD.out _ S5.grown _ _ prd
            obtain ⟨x0'', x1'', xf0'', xf1''⟩ := two_cells (S5.h.ok (Res.at cb (.cells #[rv, .slice (some ⟨kg, 0, none⟩) n n] 29)) (by simp))
            refine sS_skip _ (rd_store (st22 q' hu0 huf) rfl rfl rfl) ⟨x1'', nd1'', p0''⟩ ?_
            simp only [Act.put, List.setIfInBounds_toArray, List.set_cons_succ, List.set_cons_zero]
            refine sS_nil ?_
            have HFIN : Hid (CloK d w cb kg n rv es kds (.int .i64 ((k + 1 : Nat) : Int)) (w3.setCell ⟨kg, k, none⟩ (.pointer q'))) := by
              obtain ⟨m1, m2, m3, m4, m5⟩ := HC.out
              have hkglt : kg < wr.drew.heap.size := S3.h.lt kg (by simp [bl, Res.at, Res.row57, Res.rowP, Value.ownBlock])
              have hb1 : ∀ (g : Nat) (cur : Array Value), wr.heap[g]? = some (.cells cur 5 (0, 0)) → w3.heap[g]? = wr.heap[g]? := fun g cur hg => hg3.block g (Array.getElem?_eq_some_iff.1 hg).1 (by simp)
              have hb2 : ∀ (g : Nat) (cur : Array Value), w3.heap[g]? = some (.cells cur 5 (0, 0)) → (w3.setCell ⟨kg, k, none⟩ (.pointer q')).heap[g]? = w3.heap[g]? := fun g cur hg => hg5.block g (Array.getElem?_eq_some_iff.1 hg).1 (by
                intro e
                simp only [Option.some.injEq] at e
                subst e
                obtain ⟨cur2, hc2⟩ := own_ptr hownP g rfl
                rw [hg] at hc2
                simp at hc2)
              have hgw : wr.grownBy w3 none := ⟨hg3.os, hg3.tape, hg3.output, hg3.size, hg3.block⟩
              refine ⟨k + 1, qs ++ [.pointer q'], Ts ++ [T'], rfl, by omega, by simp [m1], by simp [m2], ?_, ?_, ?_, ?_⟩
              · have e1 : (qs ++ List.replicate (n - k) (Value.pointer none)).set k (.pointer q') = qs ++ [.pointer q'] ++ List.replicate (n - (k + 1)) (.pointer none) := by
                  rw [show n - k = (n - (k + 1)) + 1 by omega, List.replicate_succ, List.set_append_right _ _ (by omega), m1, Nat.sub_self]
                  simp
                rw [e1] at S5
                exact S5
              · rw [List.map_append, m3, List.take_add_one, hkd]
                simp [her3]
              · exact fun e he => ((m4 e he).same hb1).same hb2
              · intro i u T hu hT
                by_cases hik : i < k
                · rw [List.getElem?_append_left (by omega)] at hu hT
                  exact ((m5 i u T hu hT).keep hgw (.inl rfl) hb1).keep hg5 (.inr rfl) hb2
                · have hik2 : i = k := by
                    have := (List.getElem?_eq_some_iff.1 hT).1
                    simp at this; omega
                  subst hik2
                  rw [List.getElem?_append_right (by omega), m1, Nat.sub_self] at hu
                  rw [List.getElem?_append_right (by omega), m2, Nat.sub_self] at hT
                  simp at hu hT
                  subst hu hT
                  have hk0 : KidOk w.heap.size kg d (.pointer q') T' w3 := ⟨fresh wr.drew.heap.size w3, hat3, fresh_reads _ _, fun a x ha => by
                    have := (fresh_dom ha).1
                    have := S3.grown.size
                    exact ⟨by omega, by omega⟩, VT.mono (fun e he => he.le S3.grown.size) d T' hv3⟩
                  exact hk0.keep hg5 (.inr rfl) hb2
            clear S3 S4 S5 hat3 hv3 her3 hg3 hg5 hownP hownP' hkd hat prd HS HC HE0
            go_wp2_with fail
            go_roundw
            case rel => exact HFIN.out
            case measure => simp [intOf] <;> omega
          · have hkn : k = n := by omega
            subst hkn
            go_wp2_with fail
            go_returns
            obtain ⟨m1, m2, m3, m4, m5⟩ := HC.out
            obtain ⟨rh', rc', h1, h2, h3, h4⟩ := recs_at HS.out m4
            have hownP : OwnP wr (.slice (some ⟨kg, 0, none⟩) k k) (qs ++ List.replicate (k - k) (Value.pointer none)) := HS.out.h.ok (Res.rowP (.slice (some ⟨kg, 0, none⟩) k k) (qs ++ List.replicate (k - k) (Value.pointer none))) (by simp)
            have hkg : w.heap.size ≤ kg := HS.out.fresh_blk (x := Res.rowP (.slice (some ⟨kg, 0, none⟩) k k) (qs ++ List.replicate (k - k) (Value.pointer none))) (by simp) (by simp [Res.rowP, Value.ownBlock])
            have her : es.length = r := by
              have := congrArg List.length HE.out.1
              simp at this
              have := HN.out.1
              omega
            rw [HN.out.2, List.take_length] at m3
            refine ⟨some ⟨cb, 0, none⟩, some ⟨cb, 0, rh', rc', some ⟨kg, 0, none⟩, k, es, Ts⟩, rfl, HS.out.grown, ⟨rfl, by rw [← h1]; exact h3, ?_, ?_, ?_, h2, ?_⟩, ?_, ⟨m4, ?_⟩⟩
            · show _ = some (Value.slice (adr (some ⟨kg, 0, none⟩)) Ts.length k)
              rw [m2]; exact h4
            · show es.length ≤ maxLen
              unfold maxLen; omega
            · show Ts.length ≤ maxLen
              unfold maxLen; omega
            · intro i T hT
              replace hT : Ts[i]? = some T := hT
              have hil : i < k := by have := (List.getElem?_eq_some_iff.1 hT).1; omega
              have hu : qs[i]? = some (qs[i]'(by omega)) := List.getElem?_eq_getElem (by omega)
              obtain ⟨rd', g1, g2, g3, g4⟩ := m5 i _ T hu hT
              refine ⟨kg, 0, qs[i]'(by omega), rfl, ?_, At.mono (fun a x ha => fresh_of (g2 a x ha) (g3 a x ha).1) d _ T g1⟩
              rw [Nat.zero_add]
              refine fresh_of ?_ hkg
              have hown2 : wr.ownsRow 0 22 1 (.slice (some ⟨kg, 0, none⟩) k k) k (qs ++ List.replicate (k - k) (Value.pointer none)) := by
                have e : (qs ++ List.replicate (k - k) (Value.pointer none)).length = k := by simp [m1]
                have h5 := hownP
                unfold OwnP at h5
                rwa [e] at h5
              have := hown2.cellAt i (by omega)
              rw [List.getElem?_append_left (by omega), hu] at this
              exact this
            · show some _ = some _
              rw [HE.out.1, m3]
            · intro T hT
              replace hT : T ∈ Ts := hT
              obtain ⟨i, hi⟩ := List.mem_iff_getElem?.1 hT
              have hil : i < k := by have := (List.getElem?_eq_some_iff.1 hi).1; omega
              obtain ⟨rd', g1, g2, g3, g4⟩ := m5 i _ T (List.getElem?_eq_getElem (by omega)) hi
              exact g4

theorem clone10 : ∀ d, CloTStmt d
  | 0 => by
    intro rd v T w h hat hrd hsh hval hd
    exact hsh.elim
  | d + 1 => clone10_step d (clone10 d)

end Go.Proofs.Qxb6601706a
