import Derived.Test.Qxb6601706aNT
import Derived.ProofKit
import Derived.ShutString
import Derived.ChangeOld
import Derived.Below
import Derived.Deep.Slices
namespace Go.Proofs.Qxb6601706a
open Go.ChangeShapes Go.WideShapes Go.ChangeAt Go.RowKit
set_option linter.unusedVariables false
set_option linter.unusedSimpArgs false

theorem own : ownKnob Try.prog.godebug = none := by kernel_rfl
theorem laidOut : laidOutB Try.prog = true := by kernel_rfl
theorem Try.cells57 : Try.prog.cellsOf 57 = 4 := by kernel_rfl
theorem Try.cells29 : Try.prog.cellsOf 29 = 2 := by kernel_rfl
theorem Try.cells22 : Try.prog.cellsOf 22 = 1 := by kernel_rfl
theorem Try.cells9 : Try.prog.cellsOf 9 = 1 := by kernel_rfl
theorem Try.cells5 : Try.prog.cellsOf 5 = 1 := by kernel_rfl
theorem Try.cells45 : Try.prog.cellsOf 45 = 1 := by kernel_rfl
theorem Try.cells46 : Try.prog.cellsOf 46 = 1 := by kernel_rfl
theorem Try.cells26 : Try.prog.cellsOf 26 = 1 := by kernel_rfl
theorem Try.cells27 : Try.prog.cellsOf 27 = 1 := by kernel_rfl

theorem add_at (b off i : Nat) : (Addr.add ⟨b, off, none⟩ i) = ⟨b, off + i, none⟩ := by cases i <;> simp [Addr.add]
theorem four {α : Type} {l : List α} (h : l.length = 4) : ∃ a b c d, l = [a, b, c, d] := by
  match l, h with
  | [a, b, c, d], _ => exact ⟨a, b, c, d, rfl⟩
theorem two {α : Type} {l : List α} (h : l.length = 2) : ∃ a b, l = [a, b] := by
  match l, h with
  | [a, b], _ => exact ⟨a, b, rfl⟩

section
variable {H : Type} {enc : TypeId × Value → H} {W : World}

theorem open_bytes {fuel : Nat} {cs : List Value} {x : DataW H × List MemPlace} (h : DataW.trod enc Try.prog W 0 (fun _ => true) true fuel 45 cs = some x) :
    ∃ va vl vc bs, cs = [.slice va vl vc] ∧ vl = List.length bs ∧ vl ≤ maxLen ∧ (vl = 0 ∨ ∃ g o, va = some (⟨g, o, none⟩ : Addr)) ∧ (va = none → vl = 0) ∧ ∀ (j : Nat) (b : UInt8), bs[j]? = some b → ∃ g o, va = some ⟨g, o, none⟩ ∧ W.cell? ⟨g, o + j, none⟩ = some (.int .u8 b.toNat) := by
  rcases Go.Deep.open_slice1 Try.underlying45 Try.cells5 h with ⟨hcs, _⟩ | ⟨a, len, cap, m, n, V, D, Pl, hcs, _, hl, hm, hmm, _, hx⟩
  · exact ⟨none, 0, 0, [], hcs, rfl, by omega, .inl rfl, fun _ => rfl, by simp⟩
  · simp only [if_true] at hmm
    obtain rfl := hmm.symm
    have hb : ∀ i, i < cap → ∃ b : UInt8, V i = .int .u8 b.toNat := by
      intro i hi
      obtain ⟨k, hk, _, hwf⟩ := DataW.trod_int Try.underlying5 (hx i hi).2
      have hk' : V i = .int .u8 k := by simpa using hk
      have hr : 0 ≤ k ∧ k < 256 := by
        have h1 : IntKind.u8.min = 0 := by decide
        have h2 : IntKind.u8.max = 255 := by decide
        simp only [Lit.wf, Bool.and_eq_true, decide_eq_true_eq, h1, h2] at hwf
        omega
      refine ⟨UInt8.ofNat k.toNat, ?_⟩
      rw [hk']
      congr 1
      have : (UInt8.ofNat k.toNat).toNat = k.toNat := by
        rw [UInt8.toNat_ofNat']
        exact Nat.mod_eq_of_lt (by omega)
      rw [this]
      omega
    obtain ⟨B, hB⟩ := Go.Deep.choose_lt hb
    obtain ⟨g, o, spot⟩ := a
    have hspot : 0 < len → spot = none := by
      intro h0
      have h1 := World.cell?_spot (hx 0 (by omega)).1
      simpa [Addr.add] using h1
    refine ⟨some ⟨g, o, spot⟩, len, cap, (List.range len).map B, hcs, by simp, Nat.le_trans hl hm, ?_, by simp, ?_⟩
    · by_cases h0 : len = 0
      · exact .inl h0
      · exact .inr ⟨g, o, by rw [hspot (by omega)]⟩
    · intro j b hj
      rw [List.getElem?_map] at hj
      by_cases hjl : j < len
      · rw [List.getElem?_range hjl] at hj
        simp at hj
        have hs := hspot (by omega)
        subst hs
        refine ⟨g, o, rfl, ?_⟩
        have h1 := (hx j (by omega)).1
        rw [add_at, hB j (by omega), hj] at h1
        exact h1
      · rw [List.getElem?_eq_none (by simp; omega)] at hj
        simp at hj

theorem open_ent {fuel : Nat} {cs : List Value} {x : DataW H × List MemPlace} (h : DataW.trod enc Try.prog W 0 (fun _ => true) true fuel 57 cs = some x) : ∃ e : Ent, cs = e.cells ∧ BytesAt W.cell? e := by
  obtain ⟨xs, k', hk, hxy, hlen, hxl, hfl⟩ := DataW.trod_struct Try.underlying57 h
  rw [Try.cells57] at hlen
  obtain ⟨v0, v1, v2, v3, rfl⟩ := four hlen
  obtain ⟨y0, y1, y2, y3, rfl⟩ := four hxl
  have g0 := hfl 0 _ rfl
  have g1 := hfl 1 _ rfl
  have g2 := hfl 2 _ rfl
  have g3 := hfl 3 _ rfl
  simp [Try.cells9, Try.cells45, Try.cells46] at g0 g1 g2 g3
  obtain ⟨s0, e0, _, _⟩ := DataW.trod_string Try.underlying9 g0
  obtain ⟨va, vl, vc, bs, e1, f1, f2, f3, f4, f5⟩ := open_bytes g1
  obtain ⟨p2, e2, _, _⟩ := DataW.trod_int Try.underlying46 g2
  obtain ⟨p3, e3, _, _⟩ := DataW.trod_int Try.underlying46 g3
  simp at e0 e1 e2 e3
  subst e0 e1 e2 e3
  exact ⟨⟨s0, va, vl, vc, p2, p3⟩, rfl, bs, f1, f3, f5⟩

theorem open_recs {fuel : Nat} {cs : List Value} {x : DataW H × List MemPlace} (h : DataW.trod enc Try.prog W 0 (fun _ => true) true fuel 26 cs = some x) :
    ∃ rh rc rs, cs = [.slice (adr rh) (List.length rs) rc] ∧ rs.length ≤ maxLen ∧ RowAt W.cell? rh rs := by
  rcases Go.Deep.open_slice Try.underlying26 h with ⟨hcs, _⟩ | ⟨a, len, cap, m, n, D, Pl, hcs, _, hl, hm, hmm, _, hx⟩
  · exact ⟨none, 0, [], hcs, by simp, by intro i e he; simp at he⟩
  · simp only [if_true] at hmm
    obtain rfl := hmm.symm
    have each : ∀ i, i < cap → ∃ e : Ent, W.cell? (a.add (i * 4)) = some (.string e.key) ∧ W.cell? (a.add (i * 4 + 1)) = some (.slice e.va e.vl e.vc) ∧ W.cell? (a.add (i * 4 + 2)) = some (.int .u64 e.rev) ∧ W.cell? (a.add (i * 4 + 3)) = some (.int .u64 e.lease) ∧ BytesAt W.cell? e := by
      intro i hi
      obtain ⟨cs', h1, h2⟩ := hx i hi
      rw [Try.cells57] at h1
      obtain ⟨e, he, hb⟩ := open_ent h2
      obtain ⟨_, hlen, hcell⟩ := World.cells?_some h1
      subst he
      have c0 := hcell 0 (by omega)
      have c1 := hcell 1 (by omega)
      have c2 := hcell 2 (by omega)
      have c3 := hcell 3 (by omega)
      rw [Go.Deep.add_add] at c0 c1 c2 c3
      exact ⟨e, by simpa [Ent.cells] using c0, by simpa [Ent.cells] using c1, by simpa [Ent.cells] using c2, by simpa [Ent.cells] using c3, hb⟩
    have each' : ∀ i, i < cap → ∃ q : ByteArray × Option Addr × Nat × Nat × Int × Int, W.cell? (a.add (i * 4)) = some (.string q.1) ∧ W.cell? (a.add (i * 4 + 1)) = some (.slice q.2.1 q.2.2.1 q.2.2.2.1) ∧ W.cell? (a.add (i * 4 + 2)) = some (.int .u64 q.2.2.2.2.1) ∧ W.cell? (a.add (i * 4 + 3)) = some (.int .u64 q.2.2.2.2.2) ∧ BytesAt W.cell? ⟨q.1, q.2.1, q.2.2.1, q.2.2.2.1, q.2.2.2.2.1, q.2.2.2.2.2⟩ := by
      intro i hi
      obtain ⟨e, h1, h2, h3, h4, h5⟩ := each i hi
      exact ⟨(e.key, e.va, e.vl, e.vc, e.rev, e.lease), h1, h2, h3, h4, h5⟩
    obtain ⟨Q, hQ⟩ := Go.Deep.choose_lt each'
    obtain ⟨g, o, spot⟩ := a
    refine ⟨some ⟨g, o, spot⟩, cap, (List.range len).map fun i => ⟨(Q i).1, (Q i).2.1, (Q i).2.2.1, (Q i).2.2.2.1, (Q i).2.2.2.2.1, (Q i).2.2.2.2.2⟩, by rw [hcs]; simp [adr], by simp; omega, ?_⟩
    intro i e he
    rw [List.getElem?_map] at he
    by_cases hi : i < len
    · rw [List.getElem?_range hi] at he
      simp at he
      have hs : spot = none := by
        have h1 := World.cell?_spot (hQ 0 (by omega)).1
        simpa [Addr.add] using h1
      subst hs
      obtain ⟨h1, h2, h3, h4, h5⟩ := hQ i (by omega)
      rw [add_at] at h1 h2 h3 h4
      subst he
      exact ⟨g, o, rfl, h1, by rw [Nat.add_assoc]; exact h2, by rw [Nat.add_assoc]; exact h3, by rw [Nat.add_assoc]; exact h4, h5⟩
    · rw [List.getElem?_eq_none (by simp; omega)] at he
      simp at he

theorem nt_default : ∀ d, Nonempty (NT d)
  | 0 => ⟨()⟩
  | d + 1 => ⟨(none : Option (Nd (NT d)))⟩

theorem open_nt : ∀ (d fuel : Nat) (cs : List Value) (x : DataW H × List MemPlace), DataW.trod enc Try.prog W 0 (fun _ => true) true fuel 22 cs = some x → ∃ (v : Value) (T : NT d), cs = [v] ∧ At W.cell? d v T
  | 0, fuel, cs, x, h => by
    rcases DataW.trod_pointer Try.underlying22 h with ⟨rfl, _⟩ | ⟨a, cs', y, m, _, rfl, _, _, _⟩
    · exact ⟨_, (), rfl, _, rfl⟩
    · exact ⟨_, (), rfl, _, rfl⟩
  | d + 1, fuel, cs, x, h => by
    rcases DataW.trod_pointer Try.underlying22 h with ⟨rfl, _⟩ | ⟨a, cs', y, m, _, rfl, _, hcells, hy⟩
    · exact ⟨.pointer none, (none : Option (Nd (NT d))), rfl, rfl⟩
    · rw [Try.cells29] at hcells
      obtain ⟨_, hlen, hcell⟩ := World.cells?_some hcells
      obtain ⟨xs, k', hk, hxy, _, hxl, hfl⟩ := DataW.trod_struct Try.underlying29 hy
      obtain ⟨v0, v1, rfl⟩ := two hlen
      obtain ⟨y0, y1, rfl⟩ := two hxl
      have g0 := hfl 0 _ rfl
      have g1 := hfl 1 _ rfl
      simp [Try.cells26, Try.cells27] at g0 g1
      obtain ⟨rh, rc, rs, e0, f1, f2⟩ := open_recs g0
      simp at e0
      subst e0
      have c0 := hcell 0 (by omega)
      have c1 := hcell 1 (by omega)
      obtain ⟨b, o, spot⟩ := a
      have hspot : spot = none := by
        have h1 := World.cell?_spot (w := W) (a := (⟨b, o, spot⟩ : Addr).add 0) (by rw [c0]; rfl)
        simpa [Addr.add] using h1
      subst hspot
      rw [add_at] at c0 c1
      simp at c0 c1
      have kids : ∃ kh kc ks, v1 = .slice (adr kh) (List.length ks) kc ∧ ks.length ≤ maxLen ∧ ∀ (i : Nat) (k : NT d), ks[i]? = some k → ∃ g o u, kh = some ⟨g, o, none⟩ ∧ W.cell? ⟨g, o + i, none⟩ = some u ∧ At W.cell? d u k := by
        rcases Go.Deep.open_slice1 Try.underlying27 Try.cells22 g1 with ⟨hcs, _⟩ | ⟨a2, len, cap, m2, n2, V, D, Pl, hcs, _, hl, hm, hmm, _, hx⟩
        · simp at hcs
          exact ⟨none, 0, [], hcs, by simp, by simp⟩
        · simp only [if_true] at hmm
          obtain rfl := hmm.symm
          simp at hcs
          have each : ∀ i, i < cap → ∃ T : NT d, At W.cell? d (V i) T := by
            intro i hi
            obtain ⟨v, T, h1, h2⟩ := open_nt d n2 _ _ (hx i hi).2
            simp at h1
            subst h1
            exact ⟨T, h2⟩
          have hch : ∃ Q : Nat → NT d, ∀ i, i < cap → At W.cell? d (V i) (Q i) := by
            haveI : Inhabited (NT d) := Classical.inhabited_of_nonempty (nt_default d)
            exact Go.Deep.choose_lt each
          obtain ⟨Q, hQ⟩ := hch
          obtain ⟨g, og, sp⟩ := a2
          refine ⟨some ⟨g, og, sp⟩, cap, (List.range len).map Q, by rw [hcs]; simp [adr], by simp; omega, ?_⟩
          intro i k hk
          rw [List.getElem?_map] at hk
          by_cases hi : i < len
          · rw [List.getElem?_range hi] at hk
            simp at hk
            have hs : sp = none := by
              have h1 := World.cell?_spot (hx 0 (by omega)).1
              simpa [Addr.add] using h1
            subst hs
            subst hk
            have h1 := (hx i (by omega)).1
            rw [add_at] at h1
            exact ⟨g, og, V i, rfl, h1, hQ i (by omega)⟩
          · rw [List.getElem?_eq_none (by simp; omega)] at hk
            simp at hk
      obtain ⟨kh, kc, ks, e1, q1, q2⟩ := kids
      subst e1
      exact ⟨.pointer (some ⟨b, o, none⟩), some ⟨b, o, rh, rc, kh, kc, rs, ks⟩, rfl, rfl, c0, c1, f1, q1, f2, q2⟩
end

end Go.Proofs.Qxb6601706a
