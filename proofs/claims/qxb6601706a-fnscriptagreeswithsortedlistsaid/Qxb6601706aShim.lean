import Derived.Test.Qxb6601706aSame
import Derived.Test.Qxb6601706aSet
import Derived.Handy
namespace Go.Proofs.Qxb6601706a
open Go.RowKit
set_option linter.unusedVariables false
set_option linter.unusedSimpArgs false

abbrev EAgg (e : Ent) : Value := .agg #[.string e.key, .slice e.va e.vl e.vc, .int .u64 e.rev, .int .u64 e.lease]

set_option maxHeartbeats 1000000 in
theorem nodeFields14 {w : World} {b : Nat} {rv kv : Value} (h : w.heap[b]? = some (.cells #[rv, kv] 71 (0, 0))) :
    Calls Try.prog 14 #[.pointer (some ⟨b, 0, none⟩)] w fun e w' => e = .returned (.tuple #[rv, kv]) ∧ ∃ m, w' = w.drewN m := by
  obtain ⟨c0, c1, f0, f1, hlt⟩ := node_cells h
  clear h
  go_enter Try.func14, Try.ntmps14
  go_upto_region 1 with (fail)
  go_quiet (fail)
  go_wp2
  go_ret2
  exact ⟨rfl, _, rfl⟩

set_option maxHeartbeats 1000000 in
theorem makeEntry23 {w : World} (e : Ent) :
    Calls Try.prog 23 #[.string e.key, .slice e.va e.vl e.vc, .int .u64 e.rev, .int .u64 e.lease] w fun en w' => en = .returned (EAgg e) ∧ w.grownBy w' none := by
  go_enter Try.func23, Try.ntmps23
  go_wp2
  go_returns
  refine ⟨rfl, ⟨rfl, rfl, rfl, by simp [World.setCell], fun k hk _ => ?_⟩⟩
  exact Below.heap_alloc w _ k hk

set_option maxHeartbeats 1000000 in
theorem entryFields34 {w : World} (e : Ent) :
    Calls Try.prog 34 #[EAgg e] w fun en w' => en = .returned (.tuple #[.string e.key, .slice e.va e.vl e.vc, .int .u64 e.rev, .int .u64 e.lease]) ∧ w.grownBy w' none := by
  go_enter Try.func34, Try.ntmps34
  go_upto_region 1 with (fail)
  go_quiet (fail)
  go_wp2
  go_returns
  exact ⟨rfl, ⟨rfl, rfl, rfl, by simp, fun k hk _ => Below.heap_alloc w _ k hk⟩⟩

set_option maxHeartbeats 1000000 in
theorem makeNode30 {w : World} (r k : Option Addr) (rn rc kn kc : Nat) :
    Calls Try.prog 30 #[.slice r rn rc, .slice k kn kc] w fun en w' => en = .returned (.pointer (some ⟨w.heap.size, 0, none⟩)) ∧ w' = w.alloc (.cells #[.slice r rn rc, .slice k kn kc] 71) := by
  go_enter Try.func30, Try.ntmps30
  go_wp2
  go_ret
  exact ⟨rfl, rfl⟩

set_option maxHeartbeats 1000000 in
theorem set22 (e : Ent) {w : World} {h b : Nat} {rv kv : Value} {rs : List Ent} {ks : List Kid} (hh : Holds w (parts h b rv kv rs ks)) (hr : rs.length < 63) (hkl : KLen h ks rs) (hkm : ∀ c ∈ ks, 31 ≤ c.r) (hz : h ≠ 0 → rs = [] → ∀ c ∈ ks, c.r = 63) (hs : Sorted (weave ks rs)) :
    Calls Try.prog 22 #[.pointer (some ⟨b, 0, none⟩), EAgg e] w (SetSays w h b (bl (parts h b rv kv rs ks)) (weave ks rs) e rs.length) := by
  have S0 := ((St.start hh).alloc (EObj e)).sub (List.sublist_cons_self _ _)
  have HC : Hid (Calls Try.prog 35 #[.pointer (some ⟨b, 0, none⟩), EAgg e] (w.alloc (EObj e)) (SetSays w h b (bl (parts h b rv kv rs ks)) (weave ks rs) e rs.length)) := by
    refine (set35 e S0.h hr hkl hkm hz hs).mono ?_
    rintro en w' ⟨ok, c', he, S, t1, t2, t3, t4, t5⟩
    exact ⟨ok, c', he, ⟨S.h, S0.f.trans S.f⟩, t1, t2, t3, t4, t5⟩
  obtain ⟨PP, hPP⟩ : ∃ PP : Ending → World → Prop, PP = SetSays w h b (bl (parts h b rv kv rs ks)) (weave ks rs) e rs.length := ⟨_, rfl⟩
  have HP : Hid (∀ en w', PP en w' → ∃ ok, en = .returned (.bool ok)) := by
    intro en w' hx
    rw [hPP] at hx
    obtain ⟨ok, c', he, _⟩ := hx
    exact ⟨ok, he⟩
  rw [← hPP] at HC ⊢
  clear hPP hh hr hkl hkm hz hs S0
  go_enter Try.func22, Try.ntmps22
  go_wp2_with (go_at_call 35; refine HC.out.mono ?_; intro en w' hx; obtain ⟨ok, rfl⟩ := HP.out en w' hx; have HX : Hid (PP (.returned (.bool ok)) w') := hx; clear hx)
  exact HX.out

end Go.Proofs.Qxb6601706a
