import Derived.Test.Qxb6601706aFlat
namespace Go.Proofs.Qxb6601706a
open Go.RowKit
set_option linter.unusedVariables false
set_option linter.unusedSimpArgs false

theorem insertL_snoc_gt {e x : Ent} {m : List Ent} (h : Lt e.key x.key) : insertL e (m ++ [x]) = insertL e m ++ [x] := by
  have := insertL_mid (e := e) (a := []) (m := m) (b := [x]) (by simp) (by intro y hy; simp at hy; subst hy; exact h)
  simpa using this
theorem insertL_snoc_eq {e x : Ent} {m : List Ent} (hm : ∀ y ∈ m, Lt y.key e.key) (h : x.key = e.key) : insertL e (m ++ [x]) = m ++ [e] := by
  have := insertL_mid (e := e) (a := m) (m := [x]) (b := []) hm (by simp)
  rw [insertL_one h] at this
  simpa using this
theorem insertL_all {e : Ent} {m : List Ent} (hm : ∀ y ∈ m, Lt y.key e.key) : insertL e m = m ++ [e] := by
  have := insertL_mid (e := e) (a := m) (m := []) (b := []) hm (by simp)
  rw [insertL_nil] at this
  simpa using this

/-- what the model has so far -/
def MdlSt (e : Ent) (m out : List Ent) (p a : Bool) : Prop :=
  (p = false ∧ a = true ∧ out = m ∧ ∀ x ∈ m, Lt x.key e.key) ∨ (p = true ∧ out = insertL e m ∧ (∃ y ∈ m, ¬ Lt y.key e.key) ∧ (a = true ↔ ¬ Has e.key m))

theorem MdlSt.len {e : Ent} {l out : List Ent} {c : Nat} {a : Bool} (h : MdlSt e (l.take c) out false a) : out.length ≤ c := by
  rcases h with ⟨_, _, rfl, _⟩ | ⟨h, _⟩
  · simp; omega
  · cases h
theorem MdlSt.here {e x : Ent} {m out : List Ent} {a : Bool} (h : MdlSt e m out false a) (hk : x.key = e.key) : MdlSt e (m ++ [x]) (out ++ [e]) true false := by
  rcases h with ⟨_, _, rfl, hm⟩ | ⟨h, _⟩
  · exact .inr ⟨rfl, (insertL_snoc_eq hm hk).symm, ⟨x, by simp, by rw [hk]; exact Lt.irrefl _⟩, by simp; exact ⟨x, by simp, hk⟩⟩
  · cases h
theorem MdlSt.ahead {e x : Ent} {m out : List Ent} {a : Bool} (h : MdlSt e m out false a) (hk : Lt e.key x.key) : MdlSt e (m ++ [x]) (out ++ [e] ++ [x]) true a := by
  rcases h with ⟨_, rfl, rfl, hm⟩ | ⟨h, _⟩
  · refine .inr ⟨rfl, by rw [insertL_snoc_gt hk, insertL_all hm], ⟨x, by simp, hk.asymm⟩, ?_⟩
    simp only [true_iff]
    rintro ⟨y, hy, e'⟩
    rcases List.mem_append.1 hy with hy | hy
    · exact (hm y hy).ne e'
    · simp at hy; subst hy; exact hk.ne e'.symm
  · cases h
theorem MdlSt.past {e x : Ent} {m out : List Ent} {a : Bool} (h : MdlSt e m out false a) (hk : Lt x.key e.key) : MdlSt e (m ++ [x]) (out ++ [x]) false a := by
  rcases h with ⟨_, rfl, rfl, hm⟩ | ⟨h, _⟩
  · refine .inl ⟨rfl, rfl, rfl, fun y hy => ?_⟩
    rcases List.mem_append.1 hy with hy | hy
    · exact hm y hy
    · simp at hy; subst hy; exact hk
  · cases h
theorem MdlSt.on {e x : Ent} {m out : List Ent} {a : Bool} (h : MdlSt e m out true a) (hs : Sorted (m ++ [x])) : MdlSt e (m ++ [x]) (out ++ [x]) true a := by
  rcases h with ⟨h, _⟩ | ⟨_, rfl, ⟨y, hy, hny⟩, ha⟩
  · cases h
  · have hyx : Lt y.key x.key := hs.cross hy (by simp)
    have hk : Lt e.key x.key := by
      rcases Lt.tri y.key e.key with h | h | h
      · exact absurd h hny
      · rw [← h]; exact hyx
      · exact h.trans hyx
    refine .inr ⟨rfl, (insertL_snoc_gt hk).symm, ⟨y, by simp [hy], hny⟩, ?_⟩
    rw [ha]
    constructor
    · rintro hn ⟨z, hz, e'⟩
      rcases List.mem_append.1 hz with hz | hz
      · exact hn ⟨z, hz, e'⟩
      · simp at hz; subst hz; exact hk.ne e'.symm
    · rintro hn ⟨z, hz, e'⟩
      exact hn ⟨z, by simp [hz], e'⟩

def ModelSays (w : World) (l : List Ent) (e : Ent) (en : Ending) (w' : World) : Prop :=
  ∃ v' ok, en = .returned (.tuple #[v', .bool ok]) ∧ OwnE w' 57 v' (insertL e l) ∧ w.grownBy w' none ∧ (ok = true ↔ ¬ Has e.key l)

def MdlRel (w : World) (e : Ent) (l : List Ent) (n : Nat) (ov pv av cv : Value) (wr : World) : Prop :=
  ∃ (c : Nat) (p a : Bool) (out : List Ent), pv = .bool p ∧ av = .bool a ∧ cv = .int .i64 c ∧ c ≤ n ∧ FlMid w (.slice none 0 0) out ov wr ∧ MdlSt e (l.take c) out p a ∧ out.length ≤ c + 1

theorem neq_bytes {a b : ByteArray} (h : a ≠ b) : (a.toList == b.toList) = false := by
  rw [Bool.eq_false_iff]; intro h'; exact h ((same_iff a b).1 h')
theorem nless {a b : ByteArray} (h : ¬ Lt a b) : Op.bytesLess a.toList b.toList = false := by
  rw [Bool.eq_false_iff]; intro h'; exact h ((less_iff a b).1 h')

theorem grown_chain (w : World) (a : Nat) (o : Obj) : w.grownBy ((w.drewN a).alloc o) none := grownBy_alloc (grownBy_drewN w a none) o

set_option maxHeartbeats 4000000 in
set_option maxRecDepth 100000 in
theorem model24 {w : World} {v : Value} {l : List Ent} (e : Ent) (ho : OwnE w 57 v l) (hs : Sorted l) (hlen : l.length ≤ 2000000) :
    Calls Try.prog 24 #[v, EAgg e] w (ModelSays w l e) := by
  obtain ⟨i0, hi, hz0, hz1, hz2⟩ := info_parts Try.info57
  obtain ⟨n, hn⟩ : ∃ n, n = l.length := ⟨_, rfl⟩
  obtain ⟨va, vc, hv⟩ : ∃ va vc, v = .slice va n vc := by
    rcases ho.form with ⟨h1, h2⟩ | ⟨g, c, h1, _⟩
    · exact ⟨none, 0, by rw [h1, hn, h2]; rfl⟩
    · exact ⟨_, c, by rw [h1, hn]⟩
  subst hv
  have HR : Hid (∀ wx, w.grownBy wx none → ∀ (c : Nat) (x : Ent), l[c]? = some x → ∃ g, va = some ⟨g, 0, none⟩ ∧ wx.cell? ⟨g, c * 4, none⟩ = some (.string x.key) ∧ wx.cell? ⟨g, c * 4 + 1, none⟩ = some (.slice x.va x.vl x.vc) ∧ wx.cell? ⟨g, c * 4 + 2, none⟩ = some (.int .u64 x.rev) ∧ wx.cell? ⟨g, c * 4 + 3, none⟩ = some (.int .u64 x.lease)) := by
    intro wx hg c x hx
    have h2 : OwnE wx 57 (.slice va n vc) l := World.ownsRow.kept ho hg (by cases h : (Value.slice va n vc).ownBlock <;> simp)
    rcases h2.form with ⟨_, h3⟩ | ⟨g, c', h3, _⟩
    · rw [h3] at hx; simp at hx
    · simp only [Value.slice.injEq] at h3
      obtain ⟨rfl, _, rfl⟩ := h3
      exact ⟨g, rfl, h2.cell hn hx⟩
  have HF : Hid (n = l.length ∧ Sorted l) := ⟨hn, hs⟩
  have hn2 : n ≤ 2000000 := by omega
  have HEB : Hid ((w.alloc (.cells #[.string e.key, .slice e.va e.vl e.vc, .int .u64 e.rev, .int .u64 e.lease] 57)).heap[w.heap.size]? = some (.cells #[.string e.key, .slice e.va e.vl e.vc, .int .u64 e.rev, .int .u64 e.lease] 57)) := heap_alloc_new _ _
  clear ho hs hlen hn
  go_enter Try.func24, Try.ntmps24
  go_wp2_with (at_make; refine wpList_make_own _ rfl _ _ 26 rfl 0 57 i0 (.agg #[.string ByteArray.empty, .slice none 0 0, .int .u64 0, .int .u64 0]) 4 Try.under26 hi hz0 hz1 .i64 .i64 _ (n + 1) rfl rfl (by omega) (by rw [hz2]; omega) (by unfold maxLen; omega) (Nat.zero_le _) ?_; intro w1 hown1 hgrow1)
  obtain ⟨eb, heb⟩ : ∃ eb, eb = w.heap.size := ⟨_, rfl⟩
  obtain ⟨WE, hWE⟩ : ∃ WE, WE = w.alloc (.cells #[.string e.key, .slice e.va e.vl e.vc, .int .u64 e.rev, .int .u64 e.lease] 57) := ⟨_, rfl⟩
  have HGE : Hid (w.grownBy WE none) := by rw [hWE]; exact World.grownBy_alloc _ _ _
  rw [← hWE, ← heb] at HEB
  rw [← hWE] at hown1 hgrow1
  rw [← heb]
  have hsz : WE.heap.size = eb + 1 := by rw [hWE, heb]; simp
  rw [hsz] at hown1
  have HE1 : Hid (∀ wx, WE.grownBy wx none → wx.cell? ⟨eb, 0, none⟩ = some (.string e.key) ∧ wx.cell? ⟨eb, 1, none⟩ = some (.slice e.va e.vl e.vc) ∧ wx.cell? ⟨eb, 2, none⟩ = some (.int .u64 e.rev) ∧ wx.cell? ⟨eb, 3, none⟩ = some (.int .u64 e.lease)) := by
    intro wx hg
    have h1 : eb < WE.heap.size := by rw [heb, hWE]; simp
    have h2 : wx.heap[eb]? = some (.cells #[.string e.key, .slice e.va e.vl e.vc, .int .u64 e.rev, .int .u64 e.lease] 57) := by rw [hg.block eb h1 (by simp)]; exact HEB.out
    refine ⟨?_, ?_, ?_, ?_⟩ <;> simp [World.cell?, h2]
  have HST : Hid (FlMid WE (.slice none 0 0) [] (.slice (some ⟨eb + 1, 0, none⟩) 0 (n + 1)) w1) :=
    ⟨hown1, hgrow1, by intro b hb; simp [Value.ownBlock] at hb; exact .inr (by omega)⟩
  have HR2 : Hid (∀ wx, WE.grownBy wx none → ∀ (c : Nat) (x : Ent), l[c]? = some x → ∃ g, va = some ⟨g, 0, none⟩ ∧ wx.cell? ⟨g, c * 4, none⟩ = some (.string x.key) ∧ wx.cell? ⟨g, c * 4 + 1, none⟩ = some (.slice x.va x.vl x.vc) ∧ wx.cell? ⟨g, c * 4 + 2, none⟩ = some (.int .u64 x.rev) ∧ wx.cell? ⟨g, c * 4 + 3, none⟩ = some (.int .u64 x.lease)) :=
    fun wx hg => HR.out wx (grownBy_trans HGE.out hg)
  clear HEB heb hsz hown1 hgrow1 hWE HR
  go_loopw [6, 7, 8, 9] (MdlRel WE e l n) (fun _ _ _ cv _ => n - (intOf cv).toNat)
  case atStart => exact ⟨0, false, true, [], rfl, rfl, rfl, Nat.zero_le _, HST.out, .inl ⟨rfl, rfl, rfl, by simp⟩, by simp⟩
  case round =>
    obtain ⟨c, p, a, out, rfl, rfl, rfl, hc, hmid, hst, hol⟩ := hrel
    clear HST
    have HM : Hid (FlMid WE (.slice none 0 0) out _ wr) := hmid
    have HT : Hid (MdlSt e (l.take c) out p a) := hst
    obtain ⟨y0, y1, y2, y3⟩ := HE1.out wr HM.out.2.1
    have HOL : Hid (out.length ≤ 4000000 ∧ out.length ≤ c + 1) := ⟨by omega, hol⟩
    clear hmid hst hol
    by_cases hlt : c < n
    · have hlti : (c : Int) < n := by omega
      obtain ⟨x, hx⟩ : ∃ x, l[c]? = some x := ⟨_, List.getElem?_eq_getElem (by have := HF.out.1; omega)⟩
      obtain ⟨g, hva, x0, x1, x2, x3⟩ := HR2.out wr HM.out.2.1 c x hx
      subst hva
      have HX : Hid (l.take (c + 1) = l.take c ++ [x] ∧ l[c]? = some x) := ⟨by rw [List.take_add_one, hx]; rfl, hx⟩
      clear hx
      cases p with
      | true =>
        as_aux_lemma =>
          go_upto_region 7 with (fail)
          go_quiet (fail)
          go_upto_region 11 with (fail)
          go_quiet (fail)
          go_wp2_with (at_builtin; refine wpList_app57 _ rfl _ _ rfl _ out rfl (HM.out.grow (grown_chain _ _ _)).1 _ x rfl (heap_alloc_new _ _) (by have := HOL.out.2; first | omega | (simp only [List.length_append, List.length_singleton]; omega)) ?_; intro g7 cap7 w7 ho3 hg3 hb3; have HM7 : Hid (FlMid WE (.slice none 0 0) (out ++ [x]) _ w7) := (HM.out.grow (grown_chain _ _ _)).app ho3 hg3 hb3; clear ho3 hg3 hb3)
          go_roundw
          case rel => exact ⟨c + 1, true, a, _, rfl, rfl, by go_num, by omega, HM7.out, by rw [HX.out.1]; exact HT.out.on (by rw [← HX.out.1]; exact HF.out.2.sublist (List.take_sublist _ _)), by have := HOL.out.2; simp only [List.length_append, List.length_singleton]; omega⟩
          case measure => simp [intOf] <;> omega
      | false =>
        rcases Lt.tri x.key e.key with hk | hk | hk
        · have hne : (x.key.toList == e.key.toList) = false := neq_bytes hk.ne
          have hnl : Op.bytesLess e.key.toList x.key.toList = false := nless hk.asymm
          have HK : Hid (Lt x.key e.key) := hk
          clear hk
          as_aux_lemma =>
            go_upto_region 7 with (fail)
            go_quiet (fail)
            go_upto_region 11 with (fail)
            go_quiet (fail)
            go_wp2_with (at_builtin; refine wpList_app57 _ rfl _ _ rfl _ out rfl (HM.out.grow (grown_chain _ _ _)).1 _ x rfl (heap_alloc_new _ _) (by have := HOL.out.2; first | omega | (simp only [List.length_append, List.length_singleton]; omega)) ?_; intro g7 cap7 w7 ho3 hg3 hb3; have HM7 : Hid (FlMid WE (.slice none 0 0) (out ++ [x]) _ w7) := (HM.out.grow (grown_chain _ _ _)).app ho3 hg3 hb3; clear ho3 hg3 hb3)
            go_roundw
            case rel => exact ⟨c + 1, false, a, _, rfl, rfl, by go_num, by omega, HM7.out, by rw [HX.out.1]; exact HT.out.past HK.out, by have := HOL.out.2; simp only [List.length_append, List.length_singleton]; omega⟩
            case measure => simp [intOf] <;> omega
        · have heq : (x.key.toList == e.key.toList) = true := (same_iff _ _).2 hk
          have HK : Hid (x.key = e.key) := hk
          clear hk
          as_aux_lemma =>
            go_upto_region 7 with (fail)
            go_quiet (fail)
            go_wp2_with (at_builtin; refine wpList_app57 _ rfl _ _ rfl _ out rfl (HM.out.grow (grown_chain _ _ _)).1 _ e rfl (heap_alloc_new _ _) (by have := HOL.out.2; first | omega | (simp only [List.length_append, List.length_singleton]; omega)) ?_; intro g7 cap7 w7 ho3 hg3 hb3; have HM7 : Hid (FlMid WE (.slice none 0 0) (out ++ [e]) _ w7) := (HM.out.grow (grown_chain _ _ _)).app ho3 hg3 hb3; clear ho3 hg3 hb3)
            go_roundw
            case rel => exact ⟨c + 1, true, false, _, rfl, rfl, by go_num, by omega, HM7.out, by rw [HX.out.1]; exact HT.out.here HK.out, by have := HOL.out.2; simp only [List.length_append, List.length_singleton]; omega⟩
            case measure => simp [intOf] <;> omega
        · have hne : (x.key.toList == e.key.toList) = false := neq_bytes (fun h => hk.ne h.symm)
          have hl : Op.bytesLess e.key.toList x.key.toList = true := (less_iff _ _).2 hk
          have HK : Hid (Lt e.key x.key) := hk
          clear hk
          as_aux_lemma =>
            go_upto_region 7 with (fail)
            go_quiet (fail)
            go_upto_region 11 with (fail)
            go_quiet (fail)
            go_wp2_with (first | (at_builtin; refine wpList_app57 _ rfl _ _ rfl _ out rfl (HM.out.grow (grown_chain _ _ _)).1 _ e rfl (heap_alloc_new _ _) (by have := HOL.out.2; first | omega | (simp only [List.length_append, List.length_singleton]; omega)) ?_; intro g7 cap7 w7 ho3 hg3 hb3; have HM7 : Hid (FlMid WE (.slice none 0 0) (out ++ [e]) _ w7) := (HM.out.grow (grown_chain _ _ _)).app ho3 hg3 hb3; clear ho3 hg3 hb3; obtain ⟨g', hva', z0, z1, z2, z3⟩ := HR2.out w7 HM7.out.2.1 c x HX.out.2; simp only [Option.some.injEq, Addr.mk.injEq, and_true] at hva'; subst hva') | (at_builtin; refine wpList_app57 _ rfl _ _ rfl _ (out ++ [e]) rfl (HM7.out.grow (World.grownBy_alloc _ _ _)).1 _ x rfl (heap_alloc_new _ _) (by have := HOL.out.2; first | omega | (simp only [List.length_append, List.length_singleton]; omega)) ?_; intro g8 cap8 w8 ho3 hg3 hb3; have HM8 : Hid (FlMid WE (.slice none 0 0) ((out ++ [e]) ++ [x]) _ w8) := (HM7.out.grow (World.grownBy_alloc _ _ _)).app ho3 hg3 hb3; clear ho3 hg3 hb3))
            go_roundw
            case rel => exact ⟨c + 1, true, a, _, rfl, rfl, by go_num, by omega, by have h8 := HM8.out; simp only [List.length_append, List.length_singleton] at h8; exact h8, by rw [HX.out.1]; exact HT.out.ahead HK.out, by have := HT.out.len; simp only [List.length_append, List.length_singleton]; omega⟩
            case measure => simp [intOf] <;> omega
    · have hcn : c = n := by omega
      subst hcn
      cases p with
      | true =>
        as_aux_lemma =>
          go_wp2_with fail
          go_ret2
          rcases HT.out with ⟨h, _⟩ | ⟨_, rfl, _, ha⟩
          · cases h
          rw [List.take_of_length_le (by have := HF.out.1; omega)] at ha
          have h1 := HM.out.1
          rw [List.take_of_length_le (by have := HF.out.1; omega)] at h1
          exact ⟨_, a, rfl, h1, grownBy_trans HGE.out HM.out.2.1, ha⟩
      | false =>
        as_aux_lemma =>
          rcases HT.out with ⟨_, ha, ho, hm⟩ | ⟨h, _⟩
          · subst ha
            have HI : Hid (out = l ∧ ∀ x ∈ l, Lt x.key e.key) := by
              rw [List.take_of_length_le (by have := HF.out.1; omega)] at ho hm
              exact ⟨ho, hm⟩
            clear ho hm
            go_wp2_with (at_builtin; refine wpList_app57 _ rfl _ _ rfl _ out rfl (HM.out.grow (World.grownBy_alloc _ _ _)).1 _ e rfl (heap_alloc_new _ _) HOL.out.1 ?_; intro g cap w3 ho3 hg3 hb3; have HM7 : Hid (FlMid WE (.slice none 0 0) (out ++ [e]) (.slice (some ⟨g, 0, none⟩) (out.length + 1) cap) w3) := (HM.out.grow (World.grownBy_alloc _ _ _)).app ho3 hg3 hb3; clear ho3 hg3 hb3)
            go_ret2
            have h1 := HM7.out.1
            rw [HI.out.1] at h1
            refine ⟨_, true, rfl, ?_, grownBy_trans HGE.out HM7.out.2.1, ?_⟩
            · rw [insertL_all HI.out.2, HI.out.1]; exact h1
            · simp only [true_iff]
              rintro ⟨y, hy, e'⟩
              exact (HI.out.2 y hy).ne e'
          · cases h

end Go.Proofs.Qxb6601706a
