import Derived.Test.Qxb6601706aGrowP
namespace Go.Proofs.Qxb6601706a
open Go.RowKit
set_option linter.unusedVariables false
set_option linter.unusedSimpArgs false

theorem weave_two {k1 ks2 : List Kid} {r1 rs2 : List Ent} {l c : Kid} {x : Ent} (hl : k1.length = r1.length) : weave (k1 ++ l :: c :: ks2) (r1 ++ x :: rs2) = L k1 r1 ++ ((l.fl ++ x :: c.fl) ++ R rs2 ks2) := by
  rw [weave_zip _ _ _ _ _ hl]
  simp [R]
theorem rotL_fl {lks lka cks : List Kid} {la crs : List Ent} {x y : Ent} {lz : Kid} {q : Nat} (hq : la.length = q) (hk : (lks = [] ∧ lka = [] ∧ cks = []) ∨ (lks = lka ++ [lz] ∧ lka.length = q + 1 ∧ cks.length = 32)) :
    weave lka la ++ y :: weave (if lks = [] then [] else lz :: cks) (x :: crs) = weave lks (la ++ [y]) ++ x :: weave cks crs := by
  rcases hk with ⟨rfl, rfl, rfl⟩ | ⟨rfl, h1, h2⟩
  · simp [weave]
  · rw [if_neg (by simp), weave_cut lka [lz] la [] y (.inr ⟨by omega, by simp⟩)]
    cases cks with
    | nil => simp at h2
    | cons k t => simp [weave, R]
theorem rotR_fl {rks rka cks : List Kid} {ra crs : List Ent} {x y : Ent} {rz : Kid} {q : Nat} (hc : crs.length = 31) (hk : (rks = [] ∧ rka = [] ∧ cks = []) ∨ (rks = rz :: rka ∧ rka.length = q + 1 ∧ cks.length = 32)) :
    weave (if rks = [] then [] else cks ++ [rz]) (crs ++ [x]) ++ y :: weave rka ra = weave cks crs ++ x :: weave rks (y :: ra) := by
  rcases hk with ⟨rfl, rfl, rfl⟩ | ⟨rfl, h1, h2⟩
  · simp [weave]
  · rw [if_neg (by simp), weave_cut cks [rz] crs [] x (.inr ⟨by omega, by simp⟩)]
    cases rka with
    | nil => simp at h1
    | cons k t => simp [weave, R]

def GrowSays (w0 : World) (o : List Nat) (h nb kg : Nat) (key : ByteArray) (fl : List Ent) (m : Nat) (e : Ending) (w' : World) : Prop :=
  ∃ rv kv rs1 rs2 ks1 ks2 c, e = .returned (.int .i64 (List.length rs1 : Int)) ∧ St w0 o w' (NodeAt h nb rv kv rs1 rs2 ks1 c ks2) ∧ ks1.length = rs1.length ∧ ks2.length = rs2.length ∧ 32 ≤ c.r ∧ (∀ x ∈ ks1 ++ c :: ks2, 31 ≤ x.r) ∧
    weave (ks1 ++ c :: ks2) (rs1 ++ rs2) = fl ∧ (∀ x ∈ rs1, Lt x.key key) ∧ (∀ x ∈ rs2, Lt key x.key) ∧ (rs1 ++ rs2).length ≤ 63 ∧ m ≤ (rs1 ++ rs2).length + 1 ∧ (rs1 ++ rs2).length ≤ m ∧ ∃ n cap, kv = .slice (some ⟨kg, 0, none⟩) n cap

theorem klen_cases {h : Nat} {a b : List Kid} {rs es : List Ent} (ha : KLen h a rs) (hb : KLen h b es) : (a = [] ∧ b = []) ∨ (a.length = rs.length + 1 ∧ b.length = es.length + 1) := by
  by_cases h0 : h = 0
  · exact .inl ⟨ha.1 h0, hb.1 h0⟩
  · exact .inr ⟨ha.2 h0, hb.2 h0⟩
theorem klen_of {h : Nat} {a a' : List Kid} {rs rs' : List Ent} (ha : KLen h a rs) (h0 : a = [] → a' = []) (h1 : a.length = rs.length + 1 → a'.length = rs'.length + 1) : KLen h a' rs' :=
  ⟨fun e => h0 (ha.1 e), fun e => h1 (ha.2 e)⟩

theorem head_of {w : World} {b : Nat} {rv kv : Value} {rs : List Ent} {n : Nat} (hn : w.heap[b]? = some (.cells #[rv, kv] 71 (0, 0))) (hr : OwnE w 52 rv rs) (hl : rs.length = n) : ∃ a ca, w.heap[b]? = some (.cells #[.slice a n ca, kv] 71 (0, 0)) := by
  rcases hr.form with ⟨h1, h2⟩ | ⟨g, c, h1, _⟩
  · rw [h2] at hl
    simp at hl
    subst hl
    exact ⟨none, 0, by rw [← h1]; exact hn⟩
  · rw [hl] at h1
    exact ⟨_, c, by rw [← h1]; exact hn⟩

set_option maxHeartbeats 2000000 in
theorem grow32 {w0 w : World} {o : List Nat} {h nb kg : Nat} {rv kv : Value} {rs1 rs2 : List Ent} {ks1 ks2 : List Kid} {c : Kid} (S : St w0 o w (NodeAt h nb rv kv rs1 rs2 ks1 c ks2)) (hl1 : ks1.length = rs1.length) (hl2 : ks2.length = rs2.length) (h63 : (rs1 ++ rs2).length ≤ 63) (h1 : 1 ≤ (rs1 ++ rs2).length)
    (hm : ∀ x ∈ ks1 ++ c :: ks2, 31 ≤ x.r) (hs : Sorted (weave (ks1 ++ c :: ks2) (rs1 ++ rs2))) (key : ByteArray) (hk1 : ∀ x ∈ rs1, Lt x.key key) (hk2 : ∀ x ∈ rs2, Lt key x.key) (hkg : ∃ n cap, kv = .slice (some ⟨kg, 0, none⟩) n cap) :
    Calls Try.prog 32 #[.pointer (some ⟨nb, 0, none⟩), .int .i64 (rs1.length : Int)] w (GrowSays w0 o h nb kg key (weave (ks1 ++ c :: ks2) (rs1 ++ rs2)) (rs1 ++ rs2).length) := by
  have hcm : 31 ≤ c.r := hm c (by simp)
  have hsum : (rs1 ++ rs2).length = rs1.length + rs2.length := List.length_append
  have nodeOf : ∀ x : Kid, x ∈ ks1 ++ c :: ks2 → ∃ a ca xkv, w.heap[x.b]? = some (.cells #[.slice a x.r ca, xkv] 71 (0, 0)) ∧ x.r ≤ 63 := by
    intro x hx
    have t : Tree w h x := by
      refine S.h.ok (Res.tree h x) ?_
      unfold NodeAt
      simp only [List.mem_append, List.mem_cons] at hx ⊢
      rcases hx with hx | rfl | hx
      · exact .inr (.inl (List.mem_map.2 ⟨x, hx, rfl⟩))
      · exact .inr (.inr (.inl rfl))
      · exact .inr (.inr (.inr (List.mem_map.2 ⟨x, hx, rfl⟩)))
    obtain ⟨xrs, xks, xrv, xkv, hh, hk, hx63, _, _⟩ := t.open
    have hr : x.r = xrs.length := by rw [hk]
    obtain ⟨a, ca, hn⟩ := head_of (hh.ok (Res.node x.b xrv xkv) (by simp [parts])) (hh.ok (Res.rowE xrv xrs) (by simp [parts])) hr.symm
    exact ⟨a, ca, xkv, hn, by omega⟩
  by_cases hbig : 31 < c.r
  · -- nothing to do
    obtain ⟨a, ca, ckv, hcn, hc63⟩ := nodeOf c (by simp)
    have hnode : w.heap[nb]? = some (.cells #[rv, kv] 71 (0, 0)) := S.h.ok (Res.node nb rv kv) (by simp [NodeAt, head3])
    have hkv : OwnN w kv (ks1 ++ c :: ks2) := S.h.ok (Res.rowN kv (ks1 ++ c :: ks2)) (by simp [NodeAt, head3])
    refine (grow_big hnode hkv (i := rs1.length) (by simp [← hl1]) (by simp; omega) hcn hbig hc63).mono ?_
    rintro e w' ⟨rfl, rfl⟩
    exact ⟨rv, kv, rs1, rs2, ks1, ks2, c, rfl, S, hl1, hl2, by omega, hm, rfl, hk1, hk2, h63, by omega, Nat.le_refl _, hkg⟩
  · have hc31 : c.r = 31 := by omega
    have hleftcase : (∃ k1 l r1 x, ks1 = k1 ++ [l] ∧ rs1 = r1 ++ [x] ∧ k1.length = r1.length ∧ 31 < l.r) ∨ LeftSmall w ks1 rs1.length := by
      rcases List.eq_nil_or_concat rs1 with h0 | ⟨r1, x, hr1⟩
      · exact .inr (.inl (by rw [h0]; rfl))
      · rcases List.eq_nil_or_concat ks1 with h0 | ⟨k1, l, hk1'⟩
        · rw [h0, hr1] at hl1; simp at hl1
        · rw [List.concat_eq_append] at hr1 hk1'
          by_cases hlr : 31 < l.r
          · exact .inl ⟨k1, l, r1, x, hk1', hr1, by rw [hk1', hr1] at hl1; simpa using hl1, hlr⟩
          · refine .inr (.inr ?_)
            have hlm := hm l (by rw [hk1']; simp)
            obtain ⟨a, ca, lkv, hn, _⟩ := nodeOf l (by rw [hk1']; simp)
            refine ⟨l, a, ca, lkv, ?_, by rw [show (31 : Nat) = l.r by omega]; exact hn⟩
            rw [← hl1, hk1']; simp
    rcases hleftcase with ⟨k1, l, r1, x, rfl, rfl, hkr, hl32⟩ | hleft
    · have S1 := S.perm (nodeAt_left h nb rv kv (r1 ++ [x]) rs2 k1 l c ks2)
      obtain ⟨lrs, lks, lrv, lkv, crs, cks, crv, ckv, S2, a1, a2, a3, a4, a5, b1, b2, b3, b4, b5⟩ := open2 S1
      have hc : crs.length = 31 := by omega
      obtain ⟨la, y, hla⟩ : ∃ la y, lrs = la ++ [y] := by
        rcases List.eq_nil_or_concat lrs with h0 | ⟨la, y, h0⟩
        · rw [h0] at a1; simp at a1; omega
        · exact ⟨la, y, by rw [h0, List.concat_eq_append]⟩
      subst hla
      have hlal : la.length + 1 = l.r := by rw [a1]; simp
      obtain ⟨lka, lz, hk⟩ : ∃ lka lz, (lks = [] ∧ lka = [] ∧ cks = []) ∨ (lks = lka ++ [lz] ∧ lka.length = la.length + 1 ∧ cks.length = 32) := by
        rcases klen_cases a4 b4 with ⟨h0, h0'⟩ | ⟨h0, h0'⟩
        · exact ⟨[], c, .inl ⟨h0, rfl, h0'⟩⟩
        · rcases List.eq_nil_or_concat lks with h2 | ⟨lka, lz, h2⟩
          · rw [h2] at h0; simp at h0
          · rw [List.concat_eq_append] at h2
            refine ⟨lka, lz, .inr ⟨h2, ?_, by omega⟩⟩
            rw [h2] at h0; simp at h0; exact h0
      have hsplit : (r1 ++ [x]) ++ rs2 = r1 ++ x :: rs2 := by simp
      rw [hsplit] at S2 hs h63 hsum
      have hcall := grow_left (lka := lka) (lz := lz) (Rest := trees (h - 1) lks ++ (trees (h - 1) cks ++ (trees h k1 ++ trees h ks2))) S2 rfl rfl hc la.length rfl (by omega) (by omega) r1.length hkr rfl (by simp at hsum h63; omega) hl2 hk
      rw [show ((r1 ++ [x]).length : Int) = (r1.length : Int) + 1 by simp]
      refine hcall.mono ?_
      rintro e w' ⟨rv', lrv', lkv', crv', ckv', he, S'⟩
      obtain ⟨cks', hcks'⟩ : ∃ cks', cks' = (if lks = [] then [] else lz :: cks) := ⟨_, rfl⟩
      have hflr := rotL_fl (x := x) (y := y) (crs := crs) rfl hk
      rw [← hcks'] at S' hflr
      have hT : trees (h - 1) lks ++ (trees (h - 1) cks ++ (trees h k1 ++ trees h ks2)) = trees (h - 1) lka ++ (trees (h - 1) cks' ++ (trees h k1 ++ trees h ks2)) := by
        rw [hcks']
        rcases hk with ⟨rfl, rfl, rfl⟩ | ⟨rfl, _, _⟩
        · simp
        · rw [if_neg (by simp), trees_append]; simp [trees]
      rw [hT] at S'
      have hcm' : ∀ z ∈ cks', 31 ≤ z.r := by
        rw [hcks']
        rcases hk with ⟨rfl, rfl, rfl⟩ | ⟨rfl, _, _⟩
        · simp
        · rw [if_neg (by simp)]
          intro z hz
          rcases List.mem_cons.1 hz with rfl | hz
          · exact a5 z (by simp)
          · exact b5 z hz
      have hlm' : ∀ z ∈ lka, 31 ≤ z.r := by
        rcases hk with ⟨rfl, rfl, rfl⟩ | ⟨rfl, _, _⟩
        · simp
        · intro z hz; exact a5 z (by simp [hz])
      have kl1 : KLen h lka la := klen_of a4 (fun h0 => by rcases hk with ⟨_, h2, _⟩ | ⟨h2, _, _⟩; exact h2; rw [h0] at h2; simp at h2) (fun h0 => by rcases hk with ⟨h2, _, _⟩ | ⟨_, h2, _⟩; rw [h2] at h0; simp at h0; omega)
      have kl2 : KLen h cks' (x :: crs) := klen_of b4 (fun h0 => by rw [hcks']; rcases hk with ⟨h2, _, _⟩ | ⟨_, _, h2⟩; rw [if_pos h2]; rw [h0] at h2; simp at h2) (fun h0 => by rw [hcks']; rcases hk with ⟨_, _, h2⟩ | ⟨h2, _, _⟩; rw [h2] at h0; simp at h0; rw [if_neg (by rw [h2]; simp)]; simp [h0])
      obtain ⟨l', c', S3, t1, t2, t3, t4, t5, t6⟩ := shut2 (B := head3 nb rv' kv (r1 ++ y :: rs2) (k1 ++ l :: c :: ks2)) (K := trees h k1 ++ trees h ks2) S' (by omega) kl1 hlm' (by simp; omega) kl2 hcm'
      have hpt : ptrs (k1 ++ l :: c :: ks2) = ptrs (k1 ++ l' :: c' :: ks2) := by simp [ptrs, t1, t4]
      have S4 : St w0 o w' (NodeAt h nb rv' kv (r1 ++ [y]) rs2 (k1 ++ [l']) c' ks2) := by
        refine St.perm ?_ (nodeAt_left h nb rv' kv (r1 ++ [y]) rs2 k1 l' c' ks2).symm
        have e1 : head3 nb rv' kv (r1 ++ y :: rs2) (k1 ++ l :: c :: ks2) = head3 nb rv' kv ((r1 ++ [y]) ++ rs2) (k1 ++ l' :: c' :: ks2) := by
          unfold head3
          rw [rowN_same hpt]
          simp
        rw [← e1]
        exact S3
      have hfl : l'.fl ++ y :: c'.fl = l.fl ++ x :: c.fl := by rw [t3, t6, a2, b2]; exact hflr
      have hw2 : weave ((k1 ++ [l']) ++ c' :: ks2) ((r1 ++ [y]) ++ rs2) = weave ((k1 ++ [l]) ++ c :: ks2) (r1 ++ x :: rs2) := by
        rw [show (k1 ++ [l']) ++ c' :: ks2 = k1 ++ l' :: c' :: ks2 by simp, show (k1 ++ [l]) ++ c :: ks2 = k1 ++ l :: c :: ks2 by simp, show (r1 ++ [y]) ++ rs2 = r1 ++ y :: rs2 by simp, weave_two hkr, weave_two hkr, hfl]
      have hyx : Lt y.key x.key := by
        rw [show (k1 ++ [l]) ++ c :: ks2 = k1 ++ l :: c :: ks2 by simp, weave_two hkr] at hs
        have h5 := hs.right.left
        refine h5.cross (x := y) ?_ (by simp)
        rw [a2]
        rcases hk with ⟨rfl, _, _⟩ | ⟨rfl, h6, _⟩
        · simp [weave]
        · rw [weave_cut lka [lz] la [] y (.inr ⟨by omega, by simp⟩)]; simp
      refine ⟨rv', kv, r1 ++ [y], rs2, k1 ++ [l'], ks2, c', by rw [he]; simp, S4, by simpa using hkr, hl2, by rw [t5]; simp; omega, ?_, by rw [hw2, hsplit], ?_, hk2, by simp at hsum h63 ⊢; omega, by simp, by simp, hkg⟩
      · intro z hz
        simp only [List.mem_append, List.mem_cons, List.not_mem_nil, or_false] at hz
        rcases hz with (hz | rfl) | rfl | hz
        · exact hm z (by simp [hz])
        · rw [t2]; omega
        · rw [t5]; simp; omega
        · exact hm z (by simp [hz])
      · intro z hz
        rcases List.mem_append.1 hz with hz | hz
        · exact hk1 z (by simp [hz])
        · simp at hz; subst hz; exact hyx.trans (hk1 x (by simp))
    · cases rs2 with
      | cons x r2 =>
        cases ks2 with
        | nil => simp at hl2
        | cons r k2 =>
          have hl2' : k2.length = r2.length := by simpa using hl2
          have S1 := S.perm (nodeAt_right h nb rv kv rs1 (x :: r2) ks1 c r k2)
          obtain ⟨crs, cks, crv, ckv, rrs, rks, rrv, rkv, S2, b1, b2, b3, b4, b5, a1, a2, a3, a4, a5⟩ := open2 S1
          have hc : crs.length = 31 := by omega
          by_cases hrbig : 31 < r.r
          · obtain ⟨y, ra, hra⟩ : ∃ y ra, rrs = y :: ra := by
              cases rrs with
              | nil => simp at a1; omega
              | cons y ra => exact ⟨y, ra, rfl⟩
            subst hra
            have hral : ra.length + 1 = r.r := by rw [a1]; simp
            obtain ⟨rka, rz, hk⟩ : ∃ rka rz, (rks = [] ∧ rka = [] ∧ cks = []) ∨ (rks = rz :: rka ∧ rka.length = ra.length + 1 ∧ cks.length = 32) := by
              rcases klen_cases a4 b4 with ⟨h0, h0'⟩ | ⟨h0, h0'⟩
              · exact ⟨[], c, .inl ⟨h0, rfl, h0'⟩⟩
              · cases rks with
                | nil => simp at h0
                | cons rz rka => exact ⟨rka, rz, .inr ⟨rfl, by simpa using h0, by omega⟩⟩
            have hcall := grow_right (rka := rka) (rz := rz) (Rest := trees (h - 1) cks ++ (trees (h - 1) rks ++ (trees h ks1 ++ trees h k2))) S2 rfl rfl hc ra.length rfl (by omega) (by omega) rs1.length hl1 rfl (by simp at hsum h63; omega) hl2' hleft hk
            refine hcall.mono ?_
            rintro e w' ⟨rv', crv', ckv', rrv', rkv', he, S'⟩
            obtain ⟨cks', hcks'⟩ : ∃ cks', cks' = (if rks = [] then [] else cks ++ [rz]) := ⟨_, rfl⟩
            have hflr := rotR_fl (x := x) (y := y) (ra := ra) hc hk
            rw [← hcks'] at S' hflr
            have hT : trees (h - 1) cks ++ (trees (h - 1) rks ++ (trees h ks1 ++ trees h k2)) = trees (h - 1) cks' ++ (trees (h - 1) rka ++ (trees h ks1 ++ trees h k2)) := by
              rw [hcks']
              rcases hk with ⟨rfl, rfl, rfl⟩ | ⟨rfl, _, _⟩
              · simp
              · rw [if_neg (by simp), trees_append]; simp [trees]
            rw [hT] at S'
            have hcm' : ∀ z ∈ cks', 31 ≤ z.r := by
              rw [hcks']
              rcases hk with ⟨rfl, rfl, rfl⟩ | ⟨rfl, _, _⟩
              · simp
              · rw [if_neg (by simp)]
                intro z hz
                rcases List.mem_append.1 hz with hz | hz
                · exact b5 z hz
                · simp at hz; subst hz; exact a5 z (by simp)
            have hrm' : ∀ z ∈ rka, 31 ≤ z.r := by
              rcases hk with ⟨rfl, rfl, rfl⟩ | ⟨rfl, _, _⟩
              · simp
              · intro z hz; exact a5 z (by simp [hz])
            have kl1 : KLen h rka ra := klen_of a4 (fun h0 => by rcases hk with ⟨_, h2, _⟩ | ⟨h2, _, _⟩; exact h2; rw [h0] at h2; simp at h2) (fun h0 => by rcases hk with ⟨h2, _, _⟩ | ⟨_, h2, _⟩; rw [h2] at h0; simp at h0; omega)
            have kl2 : KLen h cks' (crs ++ [x]) := klen_of b4 (fun h0 => by rw [hcks']; rcases hk with ⟨h2, _, _⟩ | ⟨_, _, h2⟩; rw [if_pos h2]; rw [h0] at h2; simp at h2) (fun h0 => by rw [hcks']; rcases hk with ⟨_, _, h2⟩ | ⟨h2, _, _⟩; rw [h2] at h0; simp at h0; rw [if_neg (by rw [h2]; simp)]; simp [h0])
            obtain ⟨c', r', S3, t4, t5, t6, t1, t2, t3⟩ := shut2 (B := head3 nb rv' kv (rs1 ++ y :: r2) (ks1 ++ c :: r :: k2)) (K := trees h ks1 ++ trees h k2) S' (by simp; omega) kl2 hcm' (by omega) kl1 hrm'
            have hpt : ptrs (ks1 ++ c :: r :: k2) = ptrs (ks1 ++ c' :: r' :: k2) := by simp [ptrs, t1, t4]
            have S4 : St w0 o w' (NodeAt h nb rv' kv rs1 (y :: r2) ks1 c' (r' :: k2)) := by
              refine St.perm ?_ (nodeAt_right h nb rv' kv rs1 (y :: r2) ks1 c' r' k2).symm
              have e1 : head3 nb rv' kv (rs1 ++ y :: r2) (ks1 ++ c :: r :: k2) = head3 nb rv' kv (rs1 ++ y :: r2) (ks1 ++ c' :: r' :: k2) := by
                unfold head3
                rw [rowN_same hpt]
              rw [← e1]
              exact S3
            have hfl : c'.fl ++ y :: r'.fl = c.fl ++ x :: r.fl := by rw [t3, t6, a2, b2]; exact hflr
            have hw2 : weave (ks1 ++ c' :: r' :: k2) (rs1 ++ y :: r2) = weave (ks1 ++ c :: r :: k2) (rs1 ++ x :: r2) := by
              rw [weave_two hl1, weave_two hl1, hfl]
            have hxy : Lt x.key y.key := by
              rw [weave_two hl1] at hs
              have h5 := hs.right.left.right
              refine (List.pairwise_cons.1 h5).1 y ?_
              rw [a2]
              rcases hk with ⟨rfl, _, _⟩ | ⟨rfl, h6, _⟩
              · simp [weave]
              · cases rka with
                | nil => simp at h6
                | cons k t => simp [weave, R]
            refine ⟨rv', kv, rs1, y :: r2, ks1, r' :: k2, c', he, S4, hl1, by simpa using hl2', by rw [t5]; simp; omega, ?_, hw2, hk1, ?_, by simp at hsum h63 ⊢; omega, by simp, by simp, hkg⟩
            · intro z hz
              simp only [List.mem_append, List.mem_cons] at hz
              rcases hz with hz | rfl | rfl | hz
              · exact hm z (by simp [hz])
              · rw [t5]; simp; omega
              · rw [t2]; omega
              · exact hm z (by simp [hz])
            · intro z hz
              rcases List.mem_cons.1 hz with rfl | hz
              · exact (hk2 x (by simp)).trans hxy
              · exact hk2 z (by simp [hz])
          · have hr31 : r.r = 31 := by have := hm r (by simp); omega
            obtain ⟨n0, c0, hkvf⟩ := hkg
            have hcall := grow_merge_a (kg0 := kg) (Rest := trees (h - 1) cks ++ (trees (h - 1) rks ++ (trees h ks1 ++ trees h k2))) S2 ⟨n0, c0, hkvf⟩ rfl rfl hc (by omega) rs1.length hl1 rfl (by simp at hsum h63; omega) hl2' (by rcases klen_cases b4 a4 with ⟨h0, h0'⟩ | ⟨h0, h0'⟩; exact .inl ⟨by rw [h0]; rfl, by rw [h0']; rfl⟩; exact .inr ⟨by omega, by omega⟩) hleft
            refine hcall.mono ?_
            rintro e w' ⟨he, rv', kv', crv', ckv', _, hkv', S'⟩
            have S'' : St w0 o w' (head3 nb rv' kv' (rs1 ++ r2) (ks1 ++ c :: k2) ++ (head3 c.b crv' ckv' (crs ++ x :: rrs) (cks ++ rks) ++ (trees (h - 1) (cks ++ rks) ++ (trees h ks1 ++ trees h k2)))) := by
              rw [trees_append, List.append_assoc]; exact S'
            have kl : KLen h (cks ++ rks) (crs ++ x :: rrs) := by
              rcases klen_cases b4 a4 with ⟨h0, h0'⟩ | ⟨h0, h0'⟩
              · exact klen_of b4 (fun _ => by rw [h0, h0']; rfl) (fun h2 => by rw [h0] at h2; simp at h2)
              · exact klen_of b4 (fun h2 => by rw [h2] at h0; simp at h0) (fun _ => by simp; omega)
            obtain ⟨m', S3, t1, t2, t3⟩ := shut1 S'' (by simp; omega) kl (fun z hz => by rcases List.mem_append.1 hz with hz | hz; exact b5 z hz; exact a5 z hz)
            have hpt : ptrs (ks1 ++ c :: k2) = ptrs (ks1 ++ m' :: k2) := by simp [ptrs, t1]
            have S4 : St w0 o w' (NodeAt h nb rv' kv' rs1 r2 ks1 m' k2) := by
              refine St.perm ?_ (nodeAt_one h nb rv' kv' rs1 r2 ks1 m' k2).symm
              have e1 : head3 nb rv' kv' (rs1 ++ r2) (ks1 ++ c :: k2) = head3 nb rv' kv' (rs1 ++ r2) (ks1 ++ m' :: k2) := by
                unfold head3
                rw [rowN_same hpt]
              rw [← e1]
              exact S3
            have hfl : c.fl ++ x :: r.fl = m'.fl := by
              rw [t3, b2, a2]
              refine (weave_cut cks rks crs rrs x ?_).symm
              rcases klen_cases b4 a4 with ⟨h0, h0'⟩ | ⟨h0, h0'⟩
              · exact .inl ⟨h0, h0'⟩
              · exact .inr ⟨h0, fun e => by rw [e] at h0'; simp at h0'⟩
            refine ⟨rv', kv', rs1, r2, ks1, k2, m', he, S4, hl1, hl2', by rw [t2]; simp; omega, ?_, (split_weave hl1 hfl).symm, hk1, fun z hz => hk2 z (by simp [hz]), by simp at hsum h63 ⊢; omega, by simp; omega, by simp, hkv'⟩
            intro z hz
            simp only [List.mem_append, List.mem_cons] at hz
            rcases hz with hz | rfl | hz
            · exact hm z (by simp [hz])
            · rw [t2]; simp; omega
            · exact hm z (by simp [hz])
      | nil =>
        have hk2n : ks2 = [] := List.eq_nil_of_length_eq_zero hl2
        subst hk2n
        obtain ⟨r1, x, rfl⟩ : ∃ r1 x, rs1 = r1 ++ [x] := by
          rcases List.eq_nil_or_concat rs1 with h0 | ⟨r1, x, h0⟩
          · rw [h0] at h1; simp at h1
          · exact ⟨r1, x, by rw [h0, List.concat_eq_append]⟩
        obtain ⟨k1, l, rfl⟩ : ∃ k1 l, ks1 = k1 ++ [l] := by
          rcases List.eq_nil_or_concat ks1 with h0 | ⟨k1, l, h0⟩
          · rw [h0] at hl1; simp at hl1
          · exact ⟨k1, l, by rw [h0, List.concat_eq_append]⟩
        have hkr : k1.length = r1.length := by simpa using hl1
        have hl31 : l.r = 31 := by
          rcases hleft with h0 | ⟨l', a, ca, lkv, g1, g2⟩
          · simp at h0
          · have hll : l' = l := by
              have : (k1 ++ [l])[r1.length]? = some l := by rw [← hkr]; simp
              rw [show (r1 ++ [x]).length - 1 = r1.length by simp, this] at g1
              simpa using g1.symm
            subst hll
            obtain ⟨a', ca', xkv, g3, _⟩ := nodeOf l' (by simp)
            rw [g2] at g3
            simp at g3
            omega
        have S1 := S.perm (nodeAt_left h nb rv kv (r1 ++ [x]) [] k1 l c [])
        obtain ⟨lrs, lks, lrv, lkv, crs, cks, crv, ckv, S2, a1, a2, a3, a4, a5, b1, b2, b3, b4, b5⟩ := open2 S1
        obtain ⟨n0, c0, hkvf⟩ := hkg
        rw [List.append_nil] at S2 h63 hsum
        have hcall := grow_merge_b (kg0 := kg) (Rest := trees (h - 1) lks ++ (trees (h - 1) cks ++ (trees h k1 ++ trees h []))) S2 ⟨n0, c0, hkvf⟩ rfl rfl (by omega) (by omega) r1.length hkr rfl (by simp at h63; omega) (by rcases klen_cases a4 b4 with ⟨h0, h0'⟩ | ⟨h0, h0'⟩; exact .inl ⟨by rw [h0]; rfl, by rw [h0']; rfl⟩; exact .inr ⟨by omega, by omega⟩)
        rw [show ((r1 ++ [x]).length : Int) = (r1.length : Int) + 1 by simp]
        refine hcall.mono ?_
        rintro e w' ⟨he, rv', kv', crv', ckv', _, hkv', S'⟩
        have S'' : St w0 o w' (head3 nb rv' kv' (r1 ++ []) (k1 ++ l :: []) ++ (head3 l.b crv' ckv' (lrs ++ x :: crs) (lks ++ cks) ++ (trees (h - 1) (lks ++ cks) ++ (trees h k1 ++ trees h [])))) := by
          rw [trees_append, List.append_assoc]; exact S'
        have kl : KLen h (lks ++ cks) (lrs ++ x :: crs) := by
          rcases klen_cases a4 b4 with ⟨h0, h0'⟩ | ⟨h0, h0'⟩
          · exact klen_of a4 (fun _ => by rw [h0, h0']; rfl) (fun h2 => by rw [h0] at h2; simp at h2)
          · exact klen_of a4 (fun h2 => by rw [h2] at h0; simp at h0) (fun _ => by simp; omega)
        obtain ⟨m', S3, t1, t2, t3⟩ := shut1 S'' (by simp; omega) kl (fun z hz => by rcases List.mem_append.1 hz with hz | hz; exact a5 z hz; exact b5 z hz)
        have hpt : ptrs (k1 ++ l :: []) = ptrs (k1 ++ m' :: []) := by simp [ptrs, t1]
        have S4 : St w0 o w' (NodeAt h nb rv' kv' r1 [] k1 m' []) := by
          refine St.perm ?_ (nodeAt_one h nb rv' kv' r1 [] k1 m' []).symm
          have e1 : head3 nb rv' kv' (r1 ++ []) (k1 ++ l :: []) = head3 nb rv' kv' (r1 ++ []) (k1 ++ m' :: []) := by
            unfold head3
            rw [rowN_same hpt]
          rw [← e1]
          exact S3
        have hfl : l.fl ++ x :: c.fl = m'.fl := by
          rw [t3, b2, a2]
          refine (weave_cut lks cks lrs crs x ?_).symm
          rcases klen_cases a4 b4 with ⟨h0, h0'⟩ | ⟨h0, h0'⟩
          · exact .inl ⟨h0, h0'⟩
          · exact .inr ⟨h0, fun e => by rw [e] at h0'; simp at h0'⟩
        have hsw := split_weave (ks2 := []) (rs2 := []) hkr hfl
        refine ⟨rv', kv', r1, [], k1, [], m', he, S4, hkr, rfl, by rw [t2]; simp; omega, ?_, by rw [← hsw]; simp, fun z hz => hk1 z (by simp [hz]), by simp, by simp at h63 ⊢; omega, by simp, by simp, hkv'⟩
        intro z hz
        simp only [List.mem_append, List.mem_cons, List.not_mem_nil, or_false] at hz
        rcases hz with hz | rfl
        · exact hm z (by simp [hz])
        · rw [t2]; simp; omega

end Go.Proofs.Qxb6601706a
