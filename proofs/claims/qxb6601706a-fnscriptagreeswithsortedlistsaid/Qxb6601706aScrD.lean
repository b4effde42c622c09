import Derived.Test.Qxb6601706aDel
import Derived.Test.Qxb6601706aScrP
namespace Go.Proofs.Qxb6601706a
open Go.RowKit
set_option linter.unusedVariables false
set_option linter.unusedSimpArgs false

set_option maxHeartbeats 1000000 in
theorem delete25 (key : ByteArray) {w : World} {h b : Nat} {rv kv : Value} {rs : List Ent} {ks : List Kid} (hh : Holds w (parts h b rv kv rs ks)) (hr : rs.length ≤ 63) (hkl : KLen h ks rs) (hkm : ∀ c ∈ ks, 31 ≤ c.r) (h1 : h ≠ 0 → 1 ≤ rs.length) (hs : Sorted (weave ks rs)) :
    Calls Try.prog 25 #[.pointer (some ⟨b, 0, none⟩), .string key] w (DelSays w h b (bl (parts h b rv kv rs ks)) (weave ks rs) key rs.length) := by
  have HC : Hid (Calls Try.prog 36 #[.pointer (some ⟨b, 0, none⟩), .string key] w (DelSays w h b (bl (parts h b rv kv rs ks)) (weave ks rs) key rs.length)) := delete36 key hh hr hkl hkm h1 hs
  obtain ⟨PP, hPP⟩ : ∃ PP : Ending → World → Prop, PP = DelSays w h b (bl (parts h b rv kv rs ks)) (weave ks rs) key rs.length := ⟨_, rfl⟩
  have HP : Hid (∀ en w', PP en w' → ∃ ok, en = .returned (.bool ok)) := by
    intro en w' hx
    rw [hPP] at hx
    obtain ⟨ok, c', he, _⟩ := hx
    exact ⟨ok, he⟩
  rw [← hPP] at HC ⊢
  clear hPP hh hr hkl hkm h1 hs
  go_enter Try.func25, Try.ntmps25
  go_wp2_with (go_at_call 36; refine HC.out.mono ?_; intro en w' hx; obtain ⟨ok, rfl⟩ := HP.out en w' hx; have HX : Hid (PP (.returned (.bool ok)) w') := hx; clear hx)
  exact HX.out

section
variable {w0 w w1 : World} {k b : Nat} {mv : Value}
def Del7Says (w0 : World) (k : Nat) (key : ByteArray) (b : Nat) (mv : Value) (en : Ending) (w2 : World) : Prop := ∃ ok, en = .returned (.bool ok) ∧ Del7 w0 w2 k key b mv ok
theorem Inv7.del (p : Inv7 w0 w k b mv) (key : ByteArray) : Calls Try.prog 25 #[.pointer (some ⟨b, 0, none⟩), .string key] w (Del7Says w0 k key b mv) := by
  obtain ⟨h, c, l, rfl, S, ho, hsame, hs, hlen, h1⟩ := p
  have t : Tree w h c := S.h.ok (Res.tree h c) (by simp)
  obtain ⟨rs, ks, rv, kv, S1, hk, hr63, hkl, hkm⟩ := St.open [] [] S
  have hkr : c.r = rs.length := by rw [hk]
  have hkf : c.fl = weave ks rs := by rw [hk]
  have hown : c.own = bl (parts h c.b rv kv rs ks) := congrArg Kid.own hk
  rw [List.nil_append, List.append_nil] at S1
  refine (delete25 key S1.h hr63 hkl hkm (fun h0 => by have := h1 h0; omega) (by rw [← hkf]; exact hs.keys hsame.keys.symm)).mono ?_
  rintro en w2 ⟨ok, c', he, S2, hb, hf, hge, hok⟩
  have S3 : St w0 [] w2 ([] ++ ([Res.tree h c'] ++ [])) := St.step (X := parts h c.b rv kv rs ks) (X' := [Res.tree h c']) [] [] (by simpa using S1) S2.f S2.h
  have f : Fin w w2 c.own (bl [Res.tree h c']) := by rw [hown]; exact S2.f
  have hbk : BKept w w2 := bkept_tree t f
  refine ⟨ok, he, h, c', l, hb, S3, row_kept t f ho, ?_, hs, hlen, ?_⟩
  · rw [hf, ← hkf]; exact (hsame.same hbk).delete key
  · rw [hok, ← hkf]; exact Has.keys hsame.keys
end

end Go.Proofs.Qxb6601706a
