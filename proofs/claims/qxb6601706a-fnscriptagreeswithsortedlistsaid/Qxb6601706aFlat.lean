import Derived.Test.Qxb6601706aFlatP
namespace Go.Proofs.Qxb6601706a
open Go.RowKit
set_option linter.unusedVariables false
set_option linter.unusedSimpArgs false

def FlatStmt (h : Nat) : Prop := ∀ (w : World) (k : Kid) (v : Value) (l : List Ent) (B : Nat), Tree w h k → OwnE w 57 v l → h < B → B ≤ 8 → l.length + k.fl.length ≤ 2000000 →
    Calls Try.prog 17 #[.pointer (some ⟨k.b, 0, none⟩), v, .int .i64 B] w (RowsSays w v (l ++ k.fl))

def kidFl (ks : List Kid) (c : Nat) : List Ent := match ks[c]? with | none => [] | some k => k.fl
theorem kidFl_some {ks : List Kid} {c : Nat} {f : Kid} (h : ks[c]? = some f) : kidFl ks c = f.fl := by unfold kidFl; rw [h]
theorem kidFl_none {ks : List Kid} {c : Nat} (h : ks[c]? = none) : kidFl ks c = [] := by unfold kidFl; rw [h]
theorem pre_next (ks : List Kid) (rs : List Ent) (c : Nat) : pre ks rs (c + 1) = pre ks rs c ++ (kidFl ks c ++ (rs[c]?).toList) := pre_succ c ks rs

def FlMid (w : World) (v : Value) (l : List Ent) (ov : Value) (wr : World) : Prop := OwnE wr 57 ov l ∧ w.grownBy wr v.ownBlock ∧ ∀ b, ov.ownBlock = some b → v.ownBlock = some b ∨ w.heap.size ≤ b
def FlRel (w : World) (v : Value) (l : List Ent) (ks : List Kid) (rs : List Ent) (ov cv : Value) (wr : World) : Prop :=
  ∃ c : Nat, cv = .int .i64 c ∧ c ≤ rs.length + 1 ∧ FlMid w v (l ++ pre ks rs c) ov wr

theorem FlMid.rows {w w' : World} {v ov : Value} {l l2 : List Ent} {en : Ending} {wr : World} (h : FlMid w v l ov wr) (r : RowsSays wr ov l2 en w') : ∃ v', en = .returned v' ∧ FlMid w v l2 v' w' := by
  obtain ⟨h1, h2, h3⟩ := h
  obtain ⟨v', he, h4, h5, h6⟩ := r
  exact ⟨v', he, h4, grown_on h2 h5 h3, block_on h2.size h3 h6⟩
theorem FlMid.app {w w3 : World} {v ov : Value} {l : List Ent} {wr : World} {g cap : Nat} {e : Ent} (h : FlMid w v l ov wr) (ho3 : OwnE w3 57 (.slice (some ⟨g, 0, none⟩) (l.length + 1) cap) (l ++ [e])) (hg3 : wr.grownBy w3 ov.ownBlock) (hb3 : ov.ownBlock = some g ∨ wr.heap.size ≤ g) : FlMid w v (l ++ [e]) (.slice (some ⟨g, 0, none⟩) (l.length + 1) cap) w3 :=
  ⟨ho3, grown_on h.2.1 hg3 h.2.2, block_on h.2.1.size h.2.2 (by intro b hb; simp [Value.ownBlock] at hb; subst hb; exact hb3)⟩
theorem FlMid.grow {w w' : World} {v ov : Value} {l : List Ent} {wr : World} (h : FlMid w v l ov wr) (hg : wr.grownBy w' none) : FlMid w v l ov w' := by
  obtain ⟨h1, h2, h3⟩ := h
  refine ⟨World.ownsRow.kept h1 hg ?_, grown_on (v1 := .slice none 0 0) h2 hg (by simp [Value.ownBlock]), h3⟩
  cases h : ov.ownBlock with
  | none => exact .inl rfl
  | some b => exact .inr (by simp)
theorem grownBy_drewN (w : World) (m : Nat) (r : Option Nat) : w.grownBy (w.drewN m) r := ⟨rfl, rfl, rfl, Nat.le_refl _, fun _ _ _ => rfl⟩

set_option maxHeartbeats 4000000 in
set_option maxRecDepth 100000 in
theorem flat17_step (h : Nat) (IH : ∀ h', h' < h → FlatStmt h') : FlatStmt h := by
    have HIH : Hid (∀ h', h' < h → FlatStmt h') := IH
    clear IH
    intro w k v l B t ho hB hB8 hlen
    obtain ⟨rs, ks, rv, kv, hh, hk, h63, hkl, hkm⟩ := t.open
    have hkf : k.fl = weave ks rs := by rw [hk]
    have hown : k.own = bl (parts h k.b rv kv rs ks) := congrArg Kid.own hk
    have hkeep : ∀ wx, w.grownBy wx v.ownBlock → ∀ b ∈ k.own, wx.heap[b]? = w.heap[b]? := by
      intro wx hg b hb
      refine hg.block b (t.nodup.2 b hb) (fun e => ?_)
      obtain ⟨cur, ty, h1, h2⟩ := own_types h w k t b hb
      obtain ⟨cur', h3⟩ := own57 ho b e.symm
      rw [h1] at h3
      simp only [Option.some.injEq, Obj.cells.injEq] at h3
      obtain ⟨_, h4, _⟩ := h3
      rcases h2 with h2 | h2 | h2 <;> rw [h2] at h4 <;> exact absurd h4 (by decide)
    have hall : ∀ wx, w.grownBy wx v.ownBlock → ∀ x ∈ parts h k.b rv kv rs ks, x.ok wx := by
      intro wx hg x hx
      refine x.loc w wx (fun b hb => hkeep wx hg b ?_) (hh.ok x hx)
      rw [hown]; exact mem_bl.2 ⟨x, hx, hb⟩
    have HNF : Hid (Calls Try.prog 14 #[.pointer (some ⟨k.b, 0, none⟩)] w fun e w' => e = .returned (.tuple #[rv, kv]) ∧ ∃ m, w' = w.drewN m) := nodeFields14 (hh.ok (Res.node k.b rv kv) (by simp [parts]))
    have HE : Hid (∀ wx, w.grownBy wx v.ownBlock → OwnE wx 52 rv rs ∧ OwnN wx kv ks ∧ ∀ c ∈ ks, Tree wx (h - 1) c) := by
      intro wx hg
      exact ⟨hall wx hg (Res.rowE rv rs) (by simp [parts]), hall wx hg (Res.rowN kv ks) (by simp [parts]), fun c hc => hall wx hg (Res.tree (h - 1) c) (by simp only [parts, List.mem_cons, List.mem_map]; exact .inr (.inr (.inr ⟨c, hc, rfl⟩)))⟩
    have hre : OwnE w 52 rv rs := hh.ok (Res.rowE rv rs) (by simp [parts])
    have hrn : OwnN w kv ks := hh.ok (Res.rowN kv ks) (by simp [parts])
    obtain ⟨r, hr⟩ : ∃ r, r = rs.length := ⟨_, rfl⟩
    obtain ⟨ra, rc, hrv⟩ : ∃ ra rc, rv = .slice ra r rc := by
      rcases hre.form with ⟨h1, h2⟩ | ⟨g, c, h1, _⟩
      · exact ⟨none, 0, by rw [h1, hr, h2]; rfl⟩
      · exact ⟨_, c, by rw [h1, hr]⟩
    obtain ⟨n, hn⟩ : ∃ n, n = ks.length := ⟨_, rfl⟩
    obtain ⟨ka, kc, hkv⟩ : ∃ ka kc, kv = .slice ka n kc := by
      rcases hrn.form with ⟨h1, h2⟩ | ⟨g, c, h1, _⟩
      · exact ⟨none, 0, by rw [h1, hn, h2]; rfl⟩
      · exact ⟨_, c, by rw [h1, hn]⟩
    subst hrv hkv
    have hr63 : r ≤ 63 := by omega
    have hn64 : n ≤ 64 := by
      rw [hn]
      by_cases h0 : h = 0
      · rw [hkl.1 h0]; simp
      · rw [hkl.2 h0]; omega
    have HF : Hid (r = rs.length ∧ n = ks.length ∧ KLen h ks rs ∧ l.length + (weave ks rs).length ≤ 2000000 ∧ k.fl = weave ks rs) := ⟨hr, hn, hkl, by rw [← hkf]; exact hlen, hkf⟩
    have HO : Hid (OwnE w 57 v l) := ho
    have HRE : Hid (∀ wx, w.grownBy wx v.ownBlock → ∀ (c : Nat) (e : Ent), rs[c]? = some e → ∃ g, ra = some ⟨g, 0, none⟩ ∧ wx.cell? ⟨g, c * 4, none⟩ = some (.string e.key) ∧ wx.cell? ⟨g, c * 4 + 1, none⟩ = some (.slice e.va e.vl e.vc) ∧ wx.cell? ⟨g, c * 4 + 2, none⟩ = some (.int .u64 e.rev) ∧ wx.cell? ⟨g, c * 4 + 3, none⟩ = some (.int .u64 e.lease)) := by
      intro wx hg c e he
      have h2 := (HE.out wx hg).1
      rcases h2.form with ⟨_, h3⟩ | ⟨g, c', h3, _⟩
      · rw [h3] at he; simp at he
      · simp only [Value.slice.injEq] at h3
        obtain ⟨rfl, _, rfl⟩ := h3
        exact ⟨g, rfl, h2.cell hr he⟩
    have HRN : Hid (∀ wx, w.grownBy wx v.ownBlock → ∀ (c : Nat) (f : Kid), ks[c]? = some f → ∃ g, ka = some ⟨g, 0, none⟩ ∧ wx.cell? ⟨g, c, none⟩ = some (.pointer (some ⟨f.b, 0, none⟩))) := by
      intro wx hg c e he
      have h2 := (HE.out wx hg).2.1
      rcases h2.form with ⟨_, h3⟩ | ⟨g, c', h3, _⟩
      · rw [h3] at he; simp at he
      · simp only [Value.slice.injEq] at h3
        obtain ⟨rfl, _, rfl⟩ := h3
        exact ⟨g, rfl, h2.cell hn he⟩
    have hb0 : ¬ ((B : Int) ≤ 0) := by omega
    clear t ho hlen hh hk h63 hkl hkm hkf hown hkeep hall hre hrn hr hn
    go_enter Try.func17, Try.ntmps17
    go_wp2_with (go_at_call 14; refine HNF.out.mono ?_; rintro e w' ⟨rfl, m, rfl⟩)
    go_loopw [1, 9] (FlRel w v l ks rs) (fun _ cv _ => r + 1 - (intOf cv).toNat)
    case atStart =>
      refine ⟨0, rfl, Nat.zero_le _, ?_, grownBy_drewN w m _, fun b hb => .inl hb⟩
      simp only [pre, List.append_nil]
      exact World.ownsRow.kept HO.out (grownBy_drewN w m none) (by cases h : v.ownBlock <;> simp)
    case round =>
      obtain ⟨c, rfl, hc, hmid⟩ := hrel
      have hcr : c ≤ r + 1 := by have := HF.out.1; omega
      have HM : Hid (FlMid w v (l ++ pre ks rs c) u1 wr) := hmid
      clear hmid hc
      by_cases hlt : c ≤ r
      · go_upto_if 35 with (fail)
        go_cut [1] from 26 to 65 (fun ov wx => FlMid w v (l ++ pre ks rs c ++ kidFl ks c) ov wx)
        case first =>
          by_cases hcn : c < n
          · obtain ⟨f, hf⟩ : ∃ f, ks[c]? = some f := ⟨_, List.getElem?_eq_getElem (by have := HF.out.2.1; omega)⟩
            obtain ⟨kg, hka, hcell⟩ := HRN.out wr HM.out.2.1 c f hf
            subst hka
            have HC : Hid (Calls Try.prog 17 #[.pointer (some ⟨f.b, 0, none⟩), u1, .int .i64 ((B : Int) - 1)] wr (RowsSays wr u1 (l ++ pre ks rs c ++ f.fl))) := by
              have h0 : h ≠ 0 := fun e => by have := HF.out.2.2.1.1 e; rw [this] at hf; simp at hf
              have := HIH.out (h - 1) (by omega) wr f u1 (l ++ pre ks rs c) (B - 1) ((HE.out wr HM.out.2.1).2.2 f (List.mem_of_getElem? hf)) HM.out.1 (by omega) (by omega) (by
                have h1 := pre_length_le HF.out.2.2.1 (c + 1) (by have := HF.out.1; omega)
                rw [pre_next, kidFl_some hf] at h1
                have h2 := HF.out.2.2.2.1
                simp only [List.length_append] at h1 h2 ⊢
                omega)
              rw [show ((B - 1 : Nat) : Int) = (B : Int) - 1 by omega] at this
              exact this
            have HKF : Hid (kidFl ks c = f.fl) := kidFl_some hf
            have HM2 : Hid (FlMid w v (l ++ pre ks rs c) u1 wr) := HM
            clear hf HM
            go_wp2_with (go_at_call 17; refine HC.out.mono ?_; intro e w' hx; obtain ⟨v', rfl, hm2⟩ := HM2.out.rows hx; have HM3 : Hid (FlMid w v (l ++ pre ks rs c ++ f.fl) v' w') := hm2; clear hx hm2)
            go_meet
            case rel => rw [HKF.out]; exact HM3.out
          · have hf : ks[c]? = none := List.getElem?_eq_none (by have := HF.out.2.1; omega)
            have HKF : Hid (kidFl ks c = []) := kidFl_none hf
            clear hf
            have hnn : ¬ ((c : Int) < n) := by omega
            go_wp2_with fail
            go_meet
            case rel => rw [HKF.out, List.append_nil]; exact HM.out
        case rest =>
          have HM4 : Hid (FlMid w v (l ++ pre ks rs c ++ kidFl ks c) _ wc) := hcut
          clear hcut HM
          by_cases hcr2 : c < r
          · obtain ⟨e0, he0⟩ : ∃ e0, rs[c]? = some e0 := ⟨_, List.getElem?_eq_getElem (by have := HF.out.1; omega)⟩
            obtain ⟨rg, hra, p0, p1, p2, p3⟩ := HRE.out wc HM4.out.2.1 c e0 he0
            subst hra
            have HL : Hid ((l ++ pre ks rs c ++ kidFl ks c).length ≤ 4000000) := by
              have h1 := pre_length_le HF.out.2.2.1 (c + 1) (by have := HF.out.1; omega)
              rw [pre_next] at h1
              have h2 := HF.out.2.2.2.1
              show _ ≤ _
              simp only [List.length_append] at h1 h2 ⊢
              omega
            have HP : Hid (pre ks rs (c + 1) = pre ks rs c ++ (kidFl ks c ++ [e0])) := by
              have := pre_next ks rs c
              rw [he0] at this
              exact this
            clear he0
            go_wp2_with (first
              | (go_at_call 34; refine (entryFields34 e0).mono ?_; rintro e w2 ⟨rfl, hg2⟩; have HM5 := HM4.out.grow hg2; have HM6 : Hid (FlMid w v (l ++ pre ks rs c ++ kidFl ks c) _ w2) := HM5; clear hg2 HM5)
              | (at_builtin; refine wpList_app57 _ rfl _ _ rfl _ (l ++ pre ks rs c ++ kidFl ks c) rfl (HM6.out.grow (World.grownBy_alloc _ _ none)).1 w2.heap.size e0 rfl (heap_alloc_new _ _) HL.out ?_; intro g cap w3 ho3 hg3 hb3; have HM7 : Hid (FlMid w v (l ++ pre ks rs c ++ kidFl ks c ++ [e0]) (.slice (some ⟨g, 0, none⟩) ((l ++ pre ks rs c ++ kidFl ks c).length + 1) cap) w3) := (HM6.out.grow (World.grownBy_alloc _ _ none)).app ho3 hg3 hb3; clear ho3 hg3 hb3))
            go_roundw
            case rel =>
              refine ⟨c + 1, by go_num, by have := HF.out.1; omega, ?_⟩
              have := HM7.out
              rw [HP.out]
              simpa only [List.append_assoc, List.length_append] using this
            case measure => simp [intOf] <;> omega
          · have hcc : c = r := by omega
            have hP : pre ks rs (c + 1) = pre ks rs c ++ kidFl ks c := by
              rw [pre_next, List.getElem?_eq_none (by have := HF.out.1; omega)]; simp
            have HP : Hid (pre ks rs (c + 1) = pre ks rs c ++ kidFl ks c) := hP
            clear hP
            subst hcc
            go_wp2_with fail
            go_roundw
            case rel =>
              refine ⟨c + 1, by go_num, by have := HF.out.1; omega, ?_⟩
              have := HM4.out
              rw [HP.out]
              simpa only [List.append_assoc, List.length_append] using this
            case measure => simp [intOf] <;> omega
      · have : c = r + 1 := by omega
        subst this
        go_wp2
        go_ret
        obtain ⟨h1, h2, h3⟩ := HM.out
        rw [HF.out.1, pre_full HF.out.2.2.1, ← HF.out.2.2.2.2] at h1
        exact ⟨u1, rfl, h1, h2, h3⟩

theorem flat17 (h : Nat) : FlatStmt h := Nat.strongRecOn h (fun h ih => flat17_step h ih)

end Go.Proofs.Qxb6601706a
