import Derived.Test.Qxb6601706aNT
namespace Go.Proofs.Qxb6601706a
open Go.RowKit
set_option linter.unusedVariables false
set_option linter.unusedSimpArgs false

def FlatTStmt (d : Nat) : Prop := ∀ (rd : Rd) (N : Nat) (v : Value) (T : NT d) (w : World) (ov : Value) (l : List Ent) (h : Nat), At rd d v T → Reads rd w → (∀ a x, rd a = some x → a.block < N) → OwnE w 57 ov l → (∀ b, ov.ownBlock = some b → N ≤ b) → N ≤ w.heap.size → ShOk d T h → d ≤ 8 →
    l.length + (flatT d T).length ≤ 2000000 → Calls Try.prog 11 #[v, ov, .int .i64 d] w (RowsSays w ov (l ++ flatT d T))

set_option maxHeartbeats 8000000 in
set_option maxRecDepth 100000 in
theorem flat11_step (d : Nat) (IH : FlatTStmt d) : FlatTStmt (d + 1) := by
  have HIH : Hid (FlatTStmt d) := IH
  clear IH
  intro rd N v0 T w v l h hat hrd hdom ho hob hNw hsh hd hlen
  obtain ⟨n0, rfl⟩ := hsh.isNode
  obtain ⟨hv, h1, h2, h3, h4, h5, h6⟩ := hat
  subst hv
  have hkl := hsh.klen
  have hlens := hsh.len
  rw [flatT_some] at hlen ⊢
  have HKID : Hid (∀ k ∈ n0.ks, h ≠ 0 ∧ ShOk d k (h - 1) ∧ 31 ≤ recs d k) := fun k hk => hsh.kid hk
  obtain ⟨b, o, rh, rc, kh, kc, rs, kds⟩ := n0
  simp only at h1 h2 h3 h4 h5 h6 hkl hlens hlen HKID ⊢
  obtain ⟨ks, hks⟩ : ∃ ks, ks = kds.map (kidOf d) := ⟨_, rfl⟩
  rw [← hks] at hkl hlen ⊢
  have hreads : ∀ wx, w.grownBy wx v.ownBlock → Reads rd wx := fun wx hg => hrd.below hg (fun a x b ha hb => by have := hdom a x ha; have := hob b hb; omega)
  have HRD : Hid (∀ wx, w.grownBy wx v.ownBlock → Reads rd wx) := hreads
  have HRE : Hid (∀ wx, w.grownBy wx v.ownBlock → ∀ (c : Nat) (e : Ent), rs[c]? = some e → ∃ g og, rh = some ⟨g, og, none⟩ ∧ wx.cell? ⟨g, og + c * 4, none⟩ = some (.string e.key) ∧ wx.cell? ⟨g, og + c * 4 + 1, none⟩ = some (.slice e.va e.vl e.vc) ∧ wx.cell? ⟨g, og + c * 4 + 2, none⟩ = some (.int .u64 e.rev) ∧ wx.cell? ⟨g, og + c * 4 + 3, none⟩ = some (.int .u64 e.lease)) := by
    intro wx hg c e he
    obtain ⟨g, og, e1, e2, e3, e4, e5, _⟩ := h5 c e he
    exact ⟨g, og, e1, hreads wx hg _ _ e2, hreads wx hg _ _ e3, hreads wx hg _ _ e4, hreads wx hg _ _ e5⟩
  have HRN : Hid (∀ wx, w.grownBy wx v.ownBlock → ∀ (c : Nat) (k : NT d), kds[c]? = some k → ∃ g og q, kh = some ⟨g, og, none⟩ ∧ wx.cell? ⟨g, og + c, none⟩ = some (.pointer q) ∧ At rd d (.pointer q) k) := by
    intro wx hg c k hk
    obtain ⟨g, og, u, e1, e2, e3⟩ := h6 c k hk
    obtain ⟨q, rfl⟩ := At.pointer d u k e3
    exact ⟨g, og, q, e1, hreads wx hg _ _ e2, e3⟩
  have HND : Hid (∀ wx, w.grownBy wx v.ownBlock → wx.cell? ⟨b, o, none⟩ = some (.slice (adr rh) rs.length rc) ∧ wx.cell? ⟨b, o + 1, none⟩ = some (.slice (adr kh) kds.length kc)) := fun wx hg => ⟨hreads wx hg _ _ h1, hreads wx hg _ _ h2⟩
  obtain ⟨r, hr⟩ : ∃ r, r = rs.length := ⟨_, rfl⟩
  obtain ⟨n, hn⟩ : ∃ n, n = kds.length := ⟨_, rfl⟩
  rw [← hr, ← hn] at HND
  have hr63 : r ≤ 63 := by omega
  have hn64 : n ≤ 64 := by omega
  have HF : Hid (r = rs.length ∧ n = ks.length ∧ KLen h ks rs ∧ l.length + (weave ks rs).length ≤ 2000000 ∧ ks = kds.map (kidOf d)) := ⟨hr, by rw [hn, hks, List.length_map], hkl, hlen, hks⟩
  have HO : Hid (OwnE w 57 v l) := ho
  have HDM : Hid ((∀ a x, rd a = some x → a.block < N) ∧ (∀ b, v.ownBlock = some b → N ≤ b) ∧ N ≤ w.heap.size) := ⟨hdom, hob, hNw⟩
  rw [show ((d + 1 : Nat) : Int) = (d : Int) + 1 by omega]
  have hd0 : ¬ ((d : Int) + 1 ≤ 0) := by omega
  clear h1 h2 h3 h4 h5 h6 hrd hdom ho hob hNw hsh hlen hkl hlens hks hreads hr hn
  go_enter Try.func11, Try.ntmps11
  go_wp2
  go_loopw [1, 7] (FlRel w v l ks rs) (fun _ cv _ => r + 1 - (intOf cv).toNat)
  case atStart =>
    refine ⟨0, rfl, Nat.zero_le _, ?_, grownBy_refl w _, fun b hb => .inl hb⟩
    simp only [pre, List.append_nil]
    exact HO.out
  case round =>
    obtain ⟨c, rfl, hc, hmid⟩ := hrel
    have hcr : c ≤ r + 1 := by have := HF.out.1; omega
    have HM : Hid (FlMid w v (l ++ pre ks rs c) u1 wr) := hmid
    obtain ⟨nd0, nd1⟩ := HND.out wr hmid.2.1
    clear hmid hc
    by_cases hlt : c ≤ r
    · go_upto_if 30 with (fail)
      go_cut [1] from 15 to 58 (fun ov wx => FlMid w v (l ++ pre ks rs c ++ kidFl ks c) ov wx)
      case first =>
        by_cases hcn : c < n
        · obtain ⟨k, hk⟩ : ∃ k, kds[c]? = some k := ⟨_, List.getElem?_eq_getElem (by have h1 := HF.out.2.1; have h2 := HF.out.2.2.2.2; rw [h2, List.length_map] at h1; omega)⟩
          obtain ⟨kg, ko, q, hka, hcell, hat⟩ := HRN.out wr HM.out.2.1 c k hk
          subst hka
          simp only [adr, Option.map_some] at nd1
          have hkk : ks[c]? = some (kidOf d k) := by rw [HF.out.2.2.2.2, List.getElem?_map, hk]; rfl
          have HC : Hid (Calls Try.prog 11 #[.pointer q, u1, .int .i64 d] wr (RowsSays wr u1 (l ++ pre ks rs c ++ flatT d k))) := by
            refine HIH.out rd N (.pointer q) k wr u1 (l ++ pre ks rs c) (h - 1) hat (HRD.out wr HM.out.2.1) HDM.out.1 HM.out.1 (fun b hb => ?_) (Nat.le_trans HDM.out.2.2 HM.out.2.1.size) (HKID.out k (List.mem_of_getElem? hk)).2.1 (by omega) ?_
            · rcases HM.out.2.2 b hb with h | h
              · exact HDM.out.2.1 b h
              · exact Nat.le_trans HDM.out.2.2 h
            · have h1 := pre_length_le HF.out.2.2.1 (c + 1) (by have := HF.out.1; omega)
              rw [pre_next, kidFl_some hkk] at h1
              have h2 := HF.out.2.2.2.1
              simp only [List.length_append, kidOf] at h1 h2 ⊢
              omega
          have HKF : Hid (kidFl ks c = flatT d k) := kidFl_some hkk
          have HM2 : Hid (FlMid w v (l ++ pre ks rs c) u1 wr) := HM
          clear hk hkk hat HM
          go_wp2_with (go_at_call 11; refine HC.out.mono ?_; intro e w' hx; obtain ⟨v', rfl, hm2⟩ := HM2.out.rows hx; have HM3 : Hid (FlMid w v (l ++ pre ks rs c ++ flatT d k) v' w') := hm2; clear hx hm2)
          go_meet
          case rel => rw [HKF.out]; exact HM3.out
        · have hf : ks[c]? = none := List.getElem?_eq_none (by have := HF.out.2.1; omega)
          have HKF : Hid (kidFl ks c = []) := kidFl_none hf
          clear hf
          have hnn : ¬ ((c : Int) < n) := by omega
          go_wp2_with fail
          go_meet
          case rel => rw [HKF.out, List.append_nil]; exact HM.out
      case rest =>
        have HM4 : Hid (FlMid w v (l ++ pre ks rs c ++ kidFl ks c) _ wc) := hcut
        clear hcut HM nd0 nd1
        obtain ⟨nd0, nd1⟩ := HND.out wc HM4.out.2.1
        by_cases hcr2 : c < r
        · obtain ⟨e0, he0⟩ : ∃ e0, rs[c]? = some e0 := ⟨_, List.getElem?_eq_getElem (by have := HF.out.1; omega)⟩
          obtain ⟨rg, ro, hra, p0, p1, p2, p3⟩ := HRE.out wc HM4.out.2.1 c e0 he0
          subst hra
          simp only [adr, Option.map_some] at nd0
          have HL : Hid ((l ++ pre ks rs c ++ kidFl ks c).length ≤ 4000000) := by
            have h1 := pre_length_le HF.out.2.2.1 (c + 1) (by have := HF.out.1; omega)
            rw [pre_next] at h1
            have h2 := HF.out.2.2.2.1
            show _ ≤ _
            simp only [List.length_append] at h1 h2 ⊢
            omega
          have HP : Hid (pre ks rs (c + 1) = pre ks rs c ++ (kidFl ks c ++ [e0])) := by
            have := pre_next ks rs c
            rw [he0] at this
            exact this
          clear he0
          go_wp2_with (at_builtin; refine wpList_app57 _ rfl _ _ rfl _ (l ++ pre ks rs c ++ kidFl ks c) rfl (HM4.out.grow (World.grownBy_alloc _ _ none)).1 wc.heap.size e0 rfl (heap_alloc_new _ _) HL.out ?_; intro g cap w3 ho3 hg3 hb3; have HM7 : Hid (FlMid w v (l ++ pre ks rs c ++ kidFl ks c ++ [e0]) (.slice (some ⟨g, 0, none⟩) ((l ++ pre ks rs c ++ kidFl ks c).length + 1) cap) w3) := (HM4.out.grow (World.grownBy_alloc _ _ none)).app ho3 hg3 hb3; clear ho3 hg3 hb3)
          go_roundw
          case rel =>
            refine ⟨c + 1, by go_num, by have := HF.out.1; omega, ?_⟩
            have := HM7.out
            rw [HP.out]
            simpa only [List.append_assoc, List.length_append] using this
          case measure => simp [intOf] <;> omega
        · have hcc : c = r := by omega
          have HP : Hid (pre ks rs (c + 1) = pre ks rs c ++ kidFl ks c) := by
            show pre ks rs (c + 1) = _
            rw [pre_next, List.getElem?_eq_none (by have := HF.out.1; omega)]; simp
          subst hcc
          go_wp2_with fail
          go_roundw
          case rel =>
            refine ⟨c + 1, by go_num, by have := HF.out.1; omega, ?_⟩
            have := HM4.out
            rw [HP.out]
            simpa only [List.append_assoc, List.length_append] using this
          case measure => simp [intOf] <;> omega
    · have : c = r + 1 := by omega
      subst this
      go_wp2
      go_ret
      obtain ⟨h1, h2, h3⟩ := HM.out
      rw [HF.out.1, pre_full HF.out.2.2.1] at h1
      exact ⟨u1, rfl, h1, h2, h3⟩

theorem flat11 : ∀ d, FlatTStmt d
  | 0 => by
    intro rd N v T w ov l h hat hrd hdom ho hob hNw hsh hd hlen
    exact hsh.elim
  | d + 1 => flat11_step d (flat11 d)

end Go.Proofs.Qxb6601706a
