import Derived.Test.Qxb6601706aShim
namespace Go.Proofs.Qxb6601706a
open Go.RowKit
set_option linter.unusedVariables false
set_option linter.unusedSimpArgs false

theorem Tree.drewN {w : World} {h : Nat} {k : Kid} (t : Tree w h k) (m : Nat) : Tree (w.drewN m) h k := Tree.loc' h k w (w.drewN m) (fun _ _ => rfl) t

theorem nat_eq_zero_beq (n : Nat) : (((n : Nat) : Int) == 0) = decide (n = 0) := by rw [Bool.eq_iff_iff, beq_iff_eq, decide_eq_true_iff]; omega

def ShapeStmt (h : Nat) : Prop := ∀ (w : World) (k : Kid) (ir : Bool) (eo : Bool) (B : Nat), Tree w h k → h < B → B ≤ 8 → (ir = false → 31 ≤ k.r) → (ir = true → eo = false → h ≠ 0 → 1 ≤ k.r) →
    Calls Try.prog 15 #[.pointer (some ⟨k.b, 0, none⟩), .bool ir, .bool eo, .int .i64 B] w fun e w' => e = .returned (.tuple #[.int .i64 ((h : Int) + 1), .bool true]) ∧ ∃ m, w' = w.drewN m

def ShRel (w : World) (n h : Nat) (hv cv : Value) (wr : World) : Prop := ∃ (c : Nat) (m : Nat) (x : Int), hv = .int .i64 x ∧ cv = .int .i64 c ∧ c ≤ n ∧ (c = 0 ∨ x = (h : Int) + 1) ∧ wr = w.drewN m

set_option maxHeartbeats 4000000 in
set_option maxRecDepth 100000 in
theorem shape15_step (h : Nat) (IH : ∀ h', h' < h → ShapeStmt h') : ShapeStmt h := by
    have HIH : Hid (∀ h', h' < h → ShapeStmt h') := IH
    clear IH
    intro w k ir eo B t hB hB8 hmin hroot
    obtain ⟨rs, ks, rv, kv, hh, hk, h63, hkl, hkm⟩ := t.open
    have hkr : k.r = rs.length := by rw [hk]
    have hnode : w.heap[k.b]? = some (.cells #[rv, kv] 71 (0, 0)) := hh.ok (Res.node k.b rv kv) (by simp [parts])
    have hre : OwnE w 52 rv rs := hh.ok (Res.rowE rv rs) (by simp [parts])
    have hrn : OwnN w kv ks := hh.ok (Res.rowN kv ks) (by simp [parts])
    have hkt : ∀ c ∈ ks, Tree w (h - 1) c := fun c hc => hh.ok (Res.tree (h - 1) c) (by simp only [parts, List.mem_cons, List.mem_map]; exact .inr (.inr (.inr ⟨c, hc, rfl⟩)))
    have HNF : Hid (Calls Try.prog 14 #[.pointer (some ⟨k.b, 0, none⟩)] w fun e w' => e = .returned (.tuple #[rv, kv]) ∧ ∃ m, w' = w.drewN m) := nodeFields14 hnode
    obtain ⟨r, hr⟩ : ∃ r, r = rs.length := ⟨_, rfl⟩
    obtain ⟨ra, rc, hrv⟩ : ∃ ra rc, rv = .slice ra r rc := by
      rcases hre.form with ⟨h1, h2⟩ | ⟨g, c, h1, _⟩
      · exact ⟨none, 0, by rw [h1, hr, h2]; rfl⟩
      · exact ⟨_, c, by rw [h1, hr]⟩
    obtain ⟨n, hn⟩ : ∃ n, n = ks.length := ⟨_, rfl⟩
    obtain ⟨ka, kc, hkv⟩ : ∃ ka kc, kv = .slice ka n kc := by
      rcases hrn.form with ⟨h1, h2⟩ | ⟨g, c, h1, _⟩
      · exact ⟨none, 0, by rw [h1, hn, h2]; rfl⟩
      · exact ⟨_, c, by rw [h1, hn]⟩
    subst hrv hkv
    have hr63 : r ≤ 63 := by omega
    rw [hkr, ← hr] at hmin hroot
    have hb0 : ¬ ((B : Int) ≤ 0) := by omega
    cases h with
    | zero =>
      have hn0 : n = 0 := by rw [hn, hkl.1 rfl]; rfl
      subst hn0
      clear hk hh hnode hre hrn hkt hkl hkm hroot hkr hr hn t
      cases ir with
      | true =>
        go_enter Try.func15, Try.ntmps15
        go_wp2_with (go_at_call 14; refine HNF.out.mono ?_; rintro e w' ⟨rfl, m, rfl⟩)
        all_goals go_returns
        all_goals exact ⟨rfl, _, rfl⟩
      | false =>
        have hmin' := hmin rfl
        clear hmin
        go_enter Try.func15, Try.ntmps15
        go_wp2_with (go_at_call 14; refine HNF.out.mono ?_; rintro e w' ⟨rfl, m, rfl⟩)
        all_goals go_returns
        all_goals exact ⟨rfl, _, rfl⟩
    | succ h =>
      have hnr : n = r + 1 := by rw [hn, hr]; exact hkl.2 (by omega)
      have HF : Hid (n = ks.length ∧ (∀ f ∈ ks, Tree w h f ∧ 31 ≤ f.r) ∧ ∀ (c : Nat) (f : Kid), ks[c]? = some f → ∃ kg, ka = some ⟨kg, 0, none⟩ ∧ w.cell? ⟨kg, c, none⟩ = some (.pointer (some ⟨f.b, 0, none⟩))) := by
        refine ⟨hn, fun f hf => ⟨hkt f hf, hkm f hf⟩, fun c f hf => ?_⟩
        rcases hrn.form with ⟨h1, h2⟩ | ⟨g, c', h1, _⟩
        · rw [h2] at hf; simp at hf
        · simp only [Value.slice.injEq] at h1
          obtain ⟨rfl, h2, rfl⟩ := h1
          exact ⟨g, rfl, hrn.cell hn hf⟩
      clear hk hh hnode hre hrn hkt hkl hkm hkr hr hn t
      subst hnr
      have hr1 : ¬ ((r : Int) + 1 = 0) := by omega
      cases ir with
      | true =>
        clear hmin
        cases eo with
        | true =>
          clear hroot
          by_cases hr0 : r = 0
          · have hr00 : ((r : Int) = 0) := by omega
            have hrz : decide ((r : Int) = 0) = true := decide_eq_true hr00
            clear hr00
            go_enter Try.func15, Try.ntmps15
            go_wp2_with (go_at_call 14; refine HNF.out.mono ?_; rintro e w' ⟨rfl, m, rfl⟩)
            try generalize ((r : Int) + 1 == 0) = zz84
            try generalize (decide ((63 : Int) < (r : Int)) || decide ((r : Int) < 31)) = zz85
            try generalize decide ((63 : Int) < (r : Int)) = zz86
            try generalize decide ((r : Int) < 31) = zz87
            go_loopw [13, 14] (ShRel w (r + 1) h) (fun _ cv _ => r + 1 - (intOf cv).toNat)
            case atStart => exact ⟨0, _, 0, rfl, rfl, Nat.zero_le _, .inl rfl, rfl⟩
            case round =>
              obtain ⟨c, m, x, rfl, rfl, hc, hx, rfl⟩ := hrel
              by_cases hlt : c < r + 1
              · obtain ⟨f, hf⟩ : ∃ f, ks[c]? = some f := ⟨_, List.getElem?_eq_getElem (by have := HF.out.1; omega)⟩
                obtain ⟨kg, hka, hcell⟩ := HF.out.2.2 c f hf
                subst hka
                have hcl : (w.drewN m).cell? ⟨kg, c, none⟩ = some (.pointer (some ⟨f.b, 0, none⟩)) := hcell
                have HC : Hid (Calls Try.prog 15 #[.pointer (some ⟨f.b, 0, none⟩), .bool false, .bool false, .int .i64 ((B : Int) - 1)] (w.drewN m) fun e w' => e = .returned (.tuple #[.int .i64 ((h : Int) + 1), .bool true]) ∧ ∃ m', w' = (w.drewN m).drewN m') := by
                  have := HIH.out h (by omega) (w.drewN m) f false false (B - 1) ((HF.out.2.1 f (List.mem_of_getElem? hf)).1.drewN m) (by omega) (by omega) (fun _ => (HF.out.2.1 f (List.mem_of_getElem? hf)).2) (fun h => by cases h)
                  rw [show ((B - 1 : Nat) : Int) = (B : Int) - 1 by omega] at this
                  exact this
                clear hf hcell
                rcases hx with rfl | rfl
                · go_wp2_with (go_at_call 15; refine HC.out.mono ?_; rintro e w' ⟨rfl, m', rfl⟩)
                  go_roundw
                  case rel => exact ⟨1, m + m', (h : Int) + 1, rfl, by go_num, by omega, .inr rfl, by simp [World.drewN, Nat.add_assoc]⟩
                  case measure => simp [intOf] <;> omega
                · by_cases hc0 : c = 0
                  · subst hc0
                    go_wp2_with (go_at_call 15; refine HC.out.mono ?_; rintro e w' ⟨rfl, m', rfl⟩)
                    go_roundw
                    case rel => exact ⟨1, m + m', (h : Int) + 1, rfl, by go_num, by omega, .inr rfl, by simp [World.drewN, Nat.add_assoc]⟩
                    case measure => simp [intOf] <;> omega
                  · first
                    | (exfalso; omega)
                    | (go_wp2_with (go_at_call 15; refine HC.out.mono ?_; rintro e w' ⟨rfl, m', rfl⟩)
                       go_roundw
                       case rel => exact ⟨c + 1, m + m', (h : Int) + 1, rfl, by go_num, by omega, .inr rfl, by simp [World.drewN, Nat.add_assoc]⟩
                       case measure => simp [intOf] <;> omega)
              · have hcn : c = r + 1 := by omega
                have hx' : x = (h : Int) + 1 := by omega
                subst hcn hx'
                go_wp2
                go_ret2
                refine ⟨?_, m, rfl⟩
                go_num
          · have hrz : ¬ ((r : Int) = 0) := by omega
            go_enter Try.func15, Try.ntmps15
            go_wp2_with (go_at_call 14; refine HNF.out.mono ?_; rintro e w' ⟨rfl, m, rfl⟩)
            try generalize ((r : Int) + 1 == 0) = zz129
            try generalize (decide ((63 : Int) < (r : Int)) || decide ((r : Int) < 31)) = zz130
            try generalize decide ((63 : Int) < (r : Int)) = zz131
            try generalize decide ((r : Int) < 31) = zz132
            go_loopw [13, 14] (ShRel w (r + 1) h) (fun _ cv _ => r + 1 - (intOf cv).toNat)
            case atStart => exact ⟨0, _, 0, rfl, rfl, Nat.zero_le _, .inl rfl, rfl⟩
            case round =>
              obtain ⟨c, m, x, rfl, rfl, hc, hx, rfl⟩ := hrel
              by_cases hlt : c < r + 1
              · obtain ⟨f, hf⟩ : ∃ f, ks[c]? = some f := ⟨_, List.getElem?_eq_getElem (by have := HF.out.1; omega)⟩
                obtain ⟨kg, hka, hcell⟩ := HF.out.2.2 c f hf
                subst hka
                have hcl : (w.drewN m).cell? ⟨kg, c, none⟩ = some (.pointer (some ⟨f.b, 0, none⟩)) := hcell
                have HC : Hid (Calls Try.prog 15 #[.pointer (some ⟨f.b, 0, none⟩), .bool false, .bool false, .int .i64 ((B : Int) - 1)] (w.drewN m) fun e w' => e = .returned (.tuple #[.int .i64 ((h : Int) + 1), .bool true]) ∧ ∃ m', w' = (w.drewN m).drewN m') := by
                  have := HIH.out h (by omega) (w.drewN m) f false false (B - 1) ((HF.out.2.1 f (List.mem_of_getElem? hf)).1.drewN m) (by omega) (by omega) (fun _ => (HF.out.2.1 f (List.mem_of_getElem? hf)).2) (fun h => by cases h)
                  rw [show ((B - 1 : Nat) : Int) = (B : Int) - 1 by omega] at this
                  exact this
                clear hf hcell
                rcases hx with rfl | rfl
                · go_wp2_with (go_at_call 15; refine HC.out.mono ?_; rintro e w' ⟨rfl, m', rfl⟩)
                  go_roundw
                  case rel => exact ⟨1, m + m', (h : Int) + 1, rfl, by go_num, by omega, .inr rfl, by simp [World.drewN, Nat.add_assoc]⟩
                  case measure => simp [intOf] <;> omega
                · by_cases hc0 : c = 0
                  · subst hc0
                    go_wp2_with (go_at_call 15; refine HC.out.mono ?_; rintro e w' ⟨rfl, m', rfl⟩)
                    go_roundw
                    case rel => exact ⟨1, m + m', (h : Int) + 1, rfl, by go_num, by omega, .inr rfl, by simp [World.drewN, Nat.add_assoc]⟩
                    case measure => simp [intOf] <;> omega
                  · first
                    | (exfalso; omega)
                    | (go_wp2_with (go_at_call 15; refine HC.out.mono ?_; rintro e w' ⟨rfl, m', rfl⟩)
                       go_roundw
                       case rel => exact ⟨c + 1, m + m', (h : Int) + 1, rfl, by go_num, by omega, .inr rfl, by simp [World.drewN, Nat.add_assoc]⟩
                       case measure => simp [intOf] <;> omega)
              · have hcn : c = r + 1 := by omega
                have hx' : x = (h : Int) + 1 := by omega
                subst hcn hx'
                go_wp2
                go_ret2
                refine ⟨?_, m, rfl⟩
                go_num
        | false =>
          have hroot' := hroot rfl rfl (by omega)
          have hroot2 : decide ((r : Int) = 0) = false := decide_eq_false (by omega)
          clear hroot
          go_enter Try.func15, Try.ntmps15
          go_wp2_with (go_at_call 14; refine HNF.out.mono ?_; rintro e w' ⟨rfl, m, rfl⟩)
          try generalize ((r : Int) + 1 == 0) = zz177
          try generalize (decide ((63 : Int) < (r : Int)) || decide ((r : Int) < 31)) = zz178
          try generalize decide ((63 : Int) < (r : Int)) = zz179
          try generalize decide ((r : Int) < 31) = zz180
          go_loopw [13, 14] (ShRel w (r + 1) h) (fun _ cv _ => r + 1 - (intOf cv).toNat)
          case atStart => exact ⟨0, _, 0, rfl, rfl, Nat.zero_le _, .inl rfl, rfl⟩
          case round =>
            obtain ⟨c, m, x, rfl, rfl, hc, hx, rfl⟩ := hrel
            by_cases hlt : c < r + 1
            · obtain ⟨f, hf⟩ : ∃ f, ks[c]? = some f := ⟨_, List.getElem?_eq_getElem (by have := HF.out.1; omega)⟩
              obtain ⟨kg, hka, hcell⟩ := HF.out.2.2 c f hf
              subst hka
              have hcl : (w.drewN m).cell? ⟨kg, c, none⟩ = some (.pointer (some ⟨f.b, 0, none⟩)) := hcell
              have HC : Hid (Calls Try.prog 15 #[.pointer (some ⟨f.b, 0, none⟩), .bool false, .bool false, .int .i64 ((B : Int) - 1)] (w.drewN m) fun e w' => e = .returned (.tuple #[.int .i64 ((h : Int) + 1), .bool true]) ∧ ∃ m', w' = (w.drewN m).drewN m') := by
                have := HIH.out h (by omega) (w.drewN m) f false false (B - 1) ((HF.out.2.1 f (List.mem_of_getElem? hf)).1.drewN m) (by omega) (by omega) (fun _ => (HF.out.2.1 f (List.mem_of_getElem? hf)).2) (fun h => by cases h)
                rw [show ((B - 1 : Nat) : Int) = (B : Int) - 1 by omega] at this
                exact this
              clear hf hcell
              rcases hx with rfl | rfl
              · go_wp2_with (go_at_call 15; refine HC.out.mono ?_; rintro e w' ⟨rfl, m', rfl⟩)
                go_roundw
                case rel => exact ⟨1, m + m', (h : Int) + 1, rfl, by go_num, by omega, .inr rfl, by simp [World.drewN, Nat.add_assoc]⟩
                case measure => simp [intOf] <;> omega
              · by_cases hc0 : c = 0
                · subst hc0
                  go_wp2_with (go_at_call 15; refine HC.out.mono ?_; rintro e w' ⟨rfl, m', rfl⟩)
                  go_roundw
                  case rel => exact ⟨1, m + m', (h : Int) + 1, rfl, by go_num, by omega, .inr rfl, by simp [World.drewN, Nat.add_assoc]⟩
                  case measure => simp [intOf] <;> omega
                · first
                  | (exfalso; omega)
                  | (go_wp2_with (go_at_call 15; refine HC.out.mono ?_; rintro e w' ⟨rfl, m', rfl⟩)
                     go_roundw
                     case rel => exact ⟨c + 1, m + m', (h : Int) + 1, rfl, by go_num, by omega, .inr rfl, by simp [World.drewN, Nat.add_assoc]⟩
                     case measure => simp [intOf] <;> omega)
            · have hcn : c = r + 1 := by omega
              have hx' : x = (h : Int) + 1 := by omega
              subst hcn hx'
              go_wp2
              go_ret2
              refine ⟨?_, m, rfl⟩
              go_num
      | false =>
        have hmin' := hmin rfl
        clear hmin hroot
        go_enter Try.func15, Try.ntmps15
        go_wp2_with (go_at_call 14; refine HNF.out.mono ?_; rintro e w' ⟨rfl, m, rfl⟩)
        try generalize ((r : Int) + 1 == 0) = zz224
        try generalize (decide ((63 : Int) < (r : Int)) || decide ((r : Int) < 31)) = zz225
        try generalize decide ((63 : Int) < (r : Int)) = zz226
        try generalize decide ((r : Int) < 31) = zz227
        go_loopw [13, 14] (ShRel w (r + 1) h) (fun _ cv _ => r + 1 - (intOf cv).toNat)
        case atStart => exact ⟨0, _, 0, rfl, rfl, Nat.zero_le _, .inl rfl, rfl⟩
        case round =>
          obtain ⟨c, m, x, rfl, rfl, hc, hx, rfl⟩ := hrel
          by_cases hlt : c < r + 1
          · obtain ⟨f, hf⟩ : ∃ f, ks[c]? = some f := ⟨_, List.getElem?_eq_getElem (by have := HF.out.1; omega)⟩
            obtain ⟨kg, hka, hcell⟩ := HF.out.2.2 c f hf
            subst hka
            have hcl : (w.drewN m).cell? ⟨kg, c, none⟩ = some (.pointer (some ⟨f.b, 0, none⟩)) := hcell
            have HC : Hid (Calls Try.prog 15 #[.pointer (some ⟨f.b, 0, none⟩), .bool false, .bool false, .int .i64 ((B : Int) - 1)] (w.drewN m) fun e w' => e = .returned (.tuple #[.int .i64 ((h : Int) + 1), .bool true]) ∧ ∃ m', w' = (w.drewN m).drewN m') := by
              have := HIH.out h (by omega) (w.drewN m) f false false (B - 1) ((HF.out.2.1 f (List.mem_of_getElem? hf)).1.drewN m) (by omega) (by omega) (fun _ => (HF.out.2.1 f (List.mem_of_getElem? hf)).2) (fun h => by cases h)
              rw [show ((B - 1 : Nat) : Int) = (B : Int) - 1 by omega] at this
              exact this
            clear hf hcell
            rcases hx with rfl | rfl
            · go_wp2_with (go_at_call 15; refine HC.out.mono ?_; rintro e w' ⟨rfl, m', rfl⟩)
              go_roundw
              case rel => exact ⟨1, m + m', (h : Int) + 1, rfl, by go_num, by omega, .inr rfl, by simp [World.drewN, Nat.add_assoc]⟩
              case measure => simp [intOf] <;> omega
            · by_cases hc0 : c = 0
              · subst hc0
                go_wp2_with (go_at_call 15; refine HC.out.mono ?_; rintro e w' ⟨rfl, m', rfl⟩)
                go_roundw
                case rel => exact ⟨1, m + m', (h : Int) + 1, rfl, by go_num, by omega, .inr rfl, by simp [World.drewN, Nat.add_assoc]⟩
                case measure => simp [intOf] <;> omega
              · first
                | (exfalso; omega)
                | (go_wp2_with (go_at_call 15; refine HC.out.mono ?_; rintro e w' ⟨rfl, m', rfl⟩)
                   go_roundw
                   case rel => exact ⟨c + 1, m + m', (h : Int) + 1, rfl, by go_num, by omega, .inr rfl, by simp [World.drewN, Nat.add_assoc]⟩
                   case measure => simp [intOf] <;> omega)
          · have hcn : c = r + 1 := by omega
            have hx' : x = (h : Int) + 1 := by omega
            subst hcn hx'
            go_wp2
            go_ret2
            refine ⟨?_, m, rfl⟩
            go_num

theorem shape15 (h : Nat) : ShapeStmt h := Nat.strongRecOn h (fun h ih => shape15_step h ih)


end Go.Proofs.Qxb6601706a
