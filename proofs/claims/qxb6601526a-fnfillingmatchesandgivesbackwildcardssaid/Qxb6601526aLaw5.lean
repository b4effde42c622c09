import Derived.Test.Qxb6601526aLaw3
import Derived.Test.Qxb6601526aWild
import Derived.Test.Qxb6601526aBytes2
namespace Go.Proofs.Qxb6601526a
open Go.RowKit
set_option linter.unusedVariables false
set_option linter.unusedSimpArgs false

theorem len_out (pat ws tail : List ByteArray) (rest : Bool) : (fillL pat ws ++ bif rest then tail else []).length ≤ pat.length + tail.length ∧ pat.length ≤ (fillL pat ws ++ bif rest then tail else []).length := by
  rw [List.length_append, fillL_len]
  cases rest <;> simp

set_option maxHeartbeats 2000000 in
theorem law5 (a : Option Addr) (cap : Nat) (pat : List ByteArray) (rest : Bool) (b : Option Addr) (capb : Nat) (ws : List ByteArray) (c : Option Addr) (capc : Nat) (tail : List ByteArray) (w : World) (hr : Row w a cap pat) (hrw : Row w b capb ws) (hrt : Row w c capc tail) :
    Calls Try.prog 5 #[.slice a pat.length cap, .bool rest, .slice b ws.length capb, .slice c tail.length capc] w fun e w' => TrueSays w e w' := by
  go_enter Try.func5, Try.ntmps5
  go_wp2_with fail
  refine (bytes19_any a cap pat rest b capb ws c capc tail w hr hrw hrt).mono ?_
  rintro e w' ⟨ok, rfl, rfl⟩
  cases ok
  · go_wp2_with fail
    go_ret
    exact ⟨rfl, Below.refl _ _⟩
  · go_wp2_with fail
    refine (fits_any a b c cap capb capc pat ws tail w' hr hrw hrt).mono ?_
    rintro e w'' ⟨ok, rfl, rfl, hfit⟩
    cases ok
    · go_wp2_with fail
      go_ret
      exact ⟨rfl, Below.refl _ _⟩
    · have hfit := hfit rfl
      go_wp2_with fail
      refine (count_any a cap pat w'' hr (by omega)).mono ?_
      rintro e w1 ⟨rfl, rfl⟩
      by_cases hst : ws.length = stars pat
      · have hne : ((ws.length : Int) != (stars pat : Int)) = false := by simp [hst]
        have HST : Hid _ := hst
        clear hst
        go_wp2_with fail
        refine (clone_any a cap pat w1 hr (by omega)).mono ?_
        rintro e w2 ⟨a1, cap1, rfl, hr1, hb1⟩
        go_wp2_with fail
        refine (clone_any b capb ws w2 (hrw.below hb1) (by omega)).mono ?_
        rintro e w3 ⟨b1, capb1, rfl, hrw1, hb2⟩
        have hb12 : Below w1.heap.size w1 w3 := hb1.trans (hb2.mono hb1.size)
        go_wp2_with fail
        refine (clone_any c capc tail w3 (hrt.below hb12) (by omega)).mono ?_
        rintro e w4 ⟨c1, capc1, rfl, hrt1, hb3⟩
        go_wp2_with fail
        refine (make_any a1 pat.length cap1 rest w4).mono ?_
        rintro e w5 ⟨rfl, hb4⟩
        have hb0 : Below w1.heap.size w1 w5 := (hb12.trans (hb3.mono hb12.size)).trans (hb4.mono (Nat.le_trans hb12.size hb3.size))
        have hr5 := ((hr1.below hb2).below hb3).below hb4
        have hrw5 := (hrw1.below hb3).below hb4
        have hrt5 := hrt1.below hb4
        clear hr hrw hrt hr1 hrw1 hrt1 hb1 hb2 hb3 hb4 hb12
        go_wp2_with fail
        have hb6 := (Below.refl w5.heap.size w5).alloc (Nat.le_refl _) (.cells #[.slice a1 pat.length cap1, .bool rest] 27)
        have HC0 : Hid ((w5.alloc (.cells #[.slice a1 pat.length cap1, .bool rest] 27)).cell? ⟨w5.heap.size, 0, none⟩ = some (.slice a1 pat.length cap1)) := by rw [Hid, World.cell?_alloc_at _ _ _ _ rfl]; rfl
        have HC1 : Hid ((w5.alloc (.cells #[.slice a1 pat.length cap1, .bool rest] 27)).cell? ⟨w5.heap.size, 1, none⟩ = some (.bool rest)) := by rw [Hid, World.cell?_alloc_at _ _ _ _ rfl]; rfl
        have HZ : Hid (w5.heap.size < (w5.alloc (.cells #[.slice a1 pat.length cap1, .bool rest] 27)).heap.size) := by rw [Hid]; simp
        refine (fill_any a1 cap1 pat rest b1 capb1 ws c1 capc1 tail _ (hr5.below hb6) (hrw5.below hb6) (hrt5.below hb6) (by omega) (by omega) (by omega)).mono ?_
        rintro e w7 ⟨s1, caps, rfl, hrs, hb7⟩
        have hr7 := (hr5.below hb6).below hb7
        have hrw7 := (hrw5.below hb6).below hb7
        have hc0 : w7.cell? ⟨w5.heap.size, 0, none⟩ = some (.slice a1 pat.length cap1) := (hb7.cell (p := ⟨w5.heap.size, 0, none⟩) HZ.out).trans HC0.out
        have hc1 : w7.cell? ⟨w5.heap.size, 1, none⟩ = some (.bool rest) := (hb7.cell (p := ⟨w5.heap.size, 1, none⟩) HZ.out).trans HC1.out
        have hz7 : w5.heap.size < w7.heap.size := Nat.lt_of_lt_of_le HZ.out hb7.size
        have hb70 : Below w1.heap.size w1 w7 := hb0.trans ((hb6.mono hb0.size).trans (hb7.mono (Nat.le_trans hb0.size hb6.size)))
        clear hr5 hrw5 hrt5 hb6 hb7 hb0 HC0 HC1 HZ
        have HLO := len_out pat ws tail rest
        have HM : Hid (_ = _) := fill_match pat rest ws tail HST.out
        have HW : Hid (_ = _) := fill_wild pat ws (bif rest then tail else []) HST.out
        generalize fillL pat ws ++ (bif rest then tail else []) = S at hrs HLO HM HW
        obtain ⟨hlo1, hlo2⟩ := HLO
        go_wp2_with fail
        refine (nonempty_any b1 capb1 ws w7 hrw7 (by omega)).mono ?_
        rintro e w8 ⟨rfl, rfl⟩
        go_wp2_with fail
        refine (match_any a1 cap1 pat rest s1 caps S w8 hr7 hrs (by omega) (by omega)).mono ?_
        rintro e w9 ⟨rfl, hb9⟩
        rw [HM.out]
        have hc0' : w9.cell? ⟨w5.heap.size, 0, none⟩ = some (.slice a1 pat.length cap1) := (hb9.cell (p := ⟨w5.heap.size, 0, none⟩) hz7).trans hc0
        have hc1' : w9.cell? ⟨w5.heap.size, 1, none⟩ = some (.bool rest) := (hb9.cell (p := ⟨w5.heap.size, 1, none⟩) hz7).trans hc1
        have hr9 := hr7.below hb9
        have hrw9 := hrw7.below hb9
        have hrs9 := hrs.below hb9
        have hb90 : Below w1.heap.size w1 w9 := hb70.trans (hb9.mono hb70.size)
        clear hc0 hc1 hz7 hr7 hrw7 hrs hb9 hb70
        cases hal : ws.all ne
        · go_wp2_with fail
          go_ret
          exact ⟨rfl, hb90⟩
        · go_wp2_with fail
          refine (wild_any a1 cap1 pat rest s1 caps S w9 hr9 hrs9 (by omega) (by omega) hlo2).mono ?_
          rintro e w10 ⟨x, capx, rfl, hrx, hb10⟩
          rw [HW.out] at hrx ⊢
          have hrw10 := hrw9.below hb10
          have hb100 : Below w1.heap.size w1 w10 := hb90.trans (hb10.mono hb90.size)
          go_wp2_with fail
          refine (equal_same x capx b1 capb1 ws w10 hrx hrw10 (by omega)).mono ?_
          rintro e w11 ⟨rfl, m, rfl⟩
          go_wp2_with fail
          go_ret
          exact ⟨rfl, below_drewN hb100 m⟩
      · have hne : ((ws.length : Int) != (stars pat : Int)) = true := by simp; omega
        go_wp2_with fail
        go_ret
        exact ⟨rfl, Below.refl _ _⟩

end Go.Proofs.Qxb6601526a
