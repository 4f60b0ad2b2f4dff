import Derived.Test.Qxb6601459aWalkG
namespace Go.Proofs.Qxb6601459a.Wk
open Go.RowKit

/-- valueEndModel (15), whatever the value. -/
theorem mod_any (b off n cap i : Nat) (B : Nat → Int) (w : World) (hn : n ≤ 1048576) (hi : i < n) (hc : ∀ i, i < n → w.cell? ⟨b, off + i, none⟩ = some (.int .u8 (B i))) :
    Calls Try.prog 15 #[.slice (some ⟨b, off, none⟩) n cap, .int .i64 (i : Int)] w fun e w' => w = w' ∧ ((∃ q : Nat, e = .returned (.tuple #[.int .i64 (q : Int), .bool true]) ∧ Pl.VEnd B n i q) ∨ e = .returned (.tuple #[.int .i64 0, .bool false])) := by
  by_cases hb : Pl.Bare (B i)
  · refine (mod_bare b off n cap i B w hn hi hb.1 hb.2.1 hb.2.2 hc).mono fun e w' ⟨hw, q, he, hq⟩ => ⟨hw, .inl ⟨q, he, .inl ⟨hb, hq⟩⟩⟩
  · have hd : B i = 34 ∨ B i = 123 ∨ B i = 91 := by unfold Pl.Bare at hb; omega
    refine (mod_deep b off n cap i B w hn hi hd hc).mono fun e w' ⟨hw, h⟩ => ⟨hw, ?_⟩
    rcases h with ⟨K, he, hK⟩ | he
    · exact .inl ⟨i + K + 1, he, .inr ⟨hb, K, hK, rfl⟩⟩
    · exact .inr he

/-! ### valueEnd (23) -/
set_option maxHeartbeats 2000000 in
theorem ve_bare (b off n cap i q : Nat) (B : Nat → Int) (w : World) (hn : n ≤ 1048576) (hi : i < n) (h1 : B i ≠ 34) (h2 : B i ≠ 123) (h3 : B i ≠ 91) (hq : Pl.FirstDelim B n i q) (hc : ∀ i, i < n → w.cell? ⟨b, off + i, none⟩ = some (.int .u8 (B i))) :
    Calls Try.prog 23 #[.slice (some ⟨b, off, none⟩) n cap, .int .i64 (i : Int)] w fun e w' => e = .returned (.int .i64 (q : Int)) ∧ w = w' := by
  have hci := hc i hi
  have HC : Hid (∀ i, i < n → w.cell? ⟨b, off + i, none⟩ = some (.int .u8 (B i))) := hc
  have HQ : Hid (Pl.FirstDelim B n i q) := hq
  have hq1 : i ≤ q := hq.1
  have hq2 : q ≤ n := hq.2.1
  have g1 : (B i == 34) = false := by simp [h1]
  have g2 : (B i == 123) = false := by simp [h2]
  have g3 : (B i == 91) = false := by simp [h3]
  clear hc hq h1 h2 h3
  go_enter Try.func23, Try.ntmps23
  go_wp2
  clear hci g1 g2 g3
  go_loop [1] (fun t => ∃ k : Nat, i ≤ k ∧ k ≤ q ∧ t = .int .i64 (k : Int)) (fun t => q - (intOf t).toNat)
  case atStart => exact ⟨i, Nat.le_refl _, hq1, rfl⟩
  case round =>
    obtain ⟨k, hk1, hk2, rfl⟩ := hrel
    by_cases hlt : k < q
    · have hkn : k < n := by omega
      have hcx := HC.out k hkn
      have hd := HQ.out.2.2.1 k hk1 hlt
      have H := spc_no (B k) w (fun h => hd (delim_of_spc h))
      unfold Pl.delim at hd
      have e1 : (B k != 44) = true := by simp; omega
      have e2 : (B k != 125) = true := by simp; omega
      have e3 : (B k != 93) = true := by simp; omega
      clear hd
      go_wp2_with (go_at_call 28; refine H.mono ?_; rintro e w' ⟨rfl, rfl⟩)
      go_round
      case rel => exact ⟨k + 1, by omega, by omega, by go_num⟩
      case measure => simp [intOf]; omega
    · obtain rfl : q = k := by omega
      by_cases hqn : q < n
      · have hcx := HC.out q hqn
        have hd := HQ.out.2.2.2 hqn
        by_cases hs : Spc (B q)
        · have H := spc_yes (B q) w hs
          clear hs hd
          go_wp2_with (go_at_call 28; refine H.mono ?_; rintro e w' ⟨rfl, rfl⟩)
          go_ret
          exact ⟨rfl, rfl⟩
        · have H := spc_no (B q) w hs
          have hd' : B q = 44 ∨ B q = 125 ∨ B q = 93 := by unfold Pl.delim at hd; unfold Spc at hs; omega
          clear hd hs
          rcases hd' with h | h | h
          all_goals
            rw [h] at H hcx
            go_wp2_with (go_at_call 28; refine H.mono ?_; rintro e w' ⟨rfl, rfl⟩)
            go_ret
            exact ⟨rfl, rfl⟩
      · go_wp2
        go_ret
        exact ⟨rfl, rfl⟩

set_option maxHeartbeats 1000000 in
theorem ve_str (b off n cap i K : Nat) (B : Nat → Int) (w : World) (hB : ∀ i, 0 ≤ B i ∧ B i ≤ 255) (hn : n ≤ 1048576) (hcap : n ≤ cap) (h34 : B i = 34) (hK : Pl.FirstStop B n i K) (hc : ∀ i, i < n → w.cell? ⟨b, off + i, none⟩ = some (.int .u8 (B i))) :
    Calls Try.prog 23 #[.slice (some ⟨b, off, none⟩) n cap, .int .i64 (i : Int)] w fun e w' => e = .returned (.int .i64 ((i + K + 1 : Nat) : Int)) ∧ w = w' := by
  have hiK : i + K < n := hK.1
  have hi : i < n := by omega
  have hci := hc i hi
  have H := strEnd_any b off n cap (i + 1) (i + K) B w hB hn hcap (by omega) (by rw [Nat.add_sub_cancel, h34]; decide) (Pl.text_first h34 hK).1 hc
  rw [show ((i + 1 : Nat) : Int) = (i : Int) + 1 from by omega] at H
  clear hc hB hK
  go_enter Try.func23, Try.ntmps23
  go_wp2_with (go_at_call 22; refine H.mono ?_; rintro e w' ⟨rfl, rfl⟩)
  go_ret
  exact ⟨by go_num, rfl⟩

set_option maxHeartbeats 4000000 in
theorem ve_box (b off n cap i K : Nat) (B : Nat → Int) (w : World) (hB : ∀ i, 0 ≤ B i ∧ B i ≤ 255) (hn : n ≤ 1048576) (hcap : n ≤ cap) (hbox : B i = 123 ∨ B i = 91) (hK : Pl.FirstStop B n i K) (hc : ∀ i, i < n → w.cell? ⟨b, off + i, none⟩ = some (.int .u8 (B i))) :
    Calls Try.prog 23 #[.slice (some ⟨b, off, none⟩) n cap, .int .i64 (i : Int)] w fun e w' => e = .returned (.int .i64 ((i + K + 1 : Nat) : Int)) ∧ w = w' := by
  have hiK : i + K < n := hK.1
  have hi : i < n := by omega
  have hci := hc i hi
  have HC : Hid (∀ i, i < n → w.cell? ⟨b, off + i, none⟩ = some (.int .u8 (B i))) := hc
  have HB : Hid (∀ i, 0 ≤ B i ∧ B i ≤ 255) := hB
  have HK : Hid (Pl.FirstStop B n i K) := hK
  have H0 : Hid (B i = 123 ∨ B i = 91) := hbox
  clear hc hB hK
  rcases hbox with hd | hd
  all_goals
    go_enter Try.func23, Try.ntmps23
    go_wp2
    clear hci hd
    go_loop [1, 5] (fun t u => ∃ (k : Nat) (d : Int), k ≤ K ∧ t = .int .i64 ((i + k : Nat) : Int) ∧ u = .int .i64 d ∧ Pl.st B i k = (d, false, false) ∧ (1 ≤ k → 1 ≤ d)) (fun t _ => n - (intOf t).toNat)
    case atStart => exact ⟨0, 0, Nat.zero_le _, rfl, rfl, rfl, by omega⟩
    case round =>
      obtain ⟨k, d, hk, rfl, rfl, hst, hpos⟩ := hrel
      have hbd : -(k : Int) ≤ d ∧ d ≤ k := by have := Pl.st_bd B i k; rw [hst] at this; exact this
      obtain ⟨hbd1, hbd2⟩ := hbd
      have hkn : i + k < n := by omega
      have hcx := HC.out (i + k) hkn
      have HX : Hid (∀ s', ¬ Pl.stops (B (i + k)) (d, false, false) → Pl.step (B (i + k)) (d, false, false) = s' → k + 1 ≤ K ∧ Pl.st B i (k + 1) = s') := fun s' h1 h2 => by
        refine ⟨?_, by rw [Pl.st_succ, hst]; exact h2⟩
        rcases Nat.lt_or_eq_of_le hk with h | h
        · omega
        · subst h
          have := HK.out.2.1
          rw [hst] at this
          exact absurd this h1
      have HY : Hid (Pl.stops (B (i + k)) (d, false, false) → K = k) := fun h => by
        rcases Nat.lt_or_eq_of_le hk with h' | h'
        · have := HK.out.2.2 k h'
          rw [hst] at this
          exact absurd h this
        · exact h'.symm
      by_cases h34 : B (i + k) = 34
      · have hk1 : 1 ≤ k := by
          rcases Nat.eq_zero_or_pos k with h | h
          · subst h
            have := H0.out
            rw [Nat.add_zero] at h34
            omega
          · exact h
        have hd1 : 1 ≤ d := hpos hk1
        obtain ⟨q, hq, hsq, hqK⟩ := Pl.text_skip hst (by omega) h34 HK.out hk
        have H := strEnd_any b off n cap (i + k + 1) q B w HB.out hn hcap (by omega) (by rw [Nat.add_sub_cancel, h34]; decide) hq HC.out
        rw [show ((i + k + 1 : Nat) : Int) = (i : Int) + (k : Int) + 1 from by omega] at H
        have hq1 : i + k + 1 ≤ q := hq.1
        have HS : Hid (Pl.st B i (q + 1 - i) = (d, false, false)) := hsq
        clear hq hsq hst HX HY
        go_wp2_with (go_at_call 22; refine H.mono ?_; rintro e w' ⟨rfl, rfl⟩)
        go_round
        case rel => exact ⟨q + 1 - i, d, by omega, by go_num, rfl, HS.out, by omega⟩
        case measure => simp [intOf]; omega
      · clear hst
        by_cases h123 : B (i + k) = 123
        · have hd0 : 0 ≤ d := by by_cases h : 1 ≤ k; have := hpos h; omega; omega
          have HZ : Hid (k + 1 ≤ K ∧ Pl.st B i (k + 1) = (d + 1, false, false)) := HX.out _ (by simp [Pl.stops, h123]) (by simp [Pl.step, h123])
          clear HX HY
          go_wp2
          go_round
          case rel => exact ⟨k + 1, d + 1, HZ.out.1, by go_num, rfl, HZ.out.2, by omega⟩
          case measure => simp [intOf]; omega
        · by_cases h91 : B (i + k) = 91
          · have hd0 : 0 ≤ d := by by_cases h : 1 ≤ k; have := hpos h; omega; omega
            have HZ : Hid (k + 1 ≤ K ∧ Pl.st B i (k + 1) = (d + 1, false, false)) := HX.out _ (by simp [Pl.stops, h91]) (by simp [Pl.step, h91])
            clear HX HY
            go_wp2
            go_round
            case rel => exact ⟨k + 1, d + 1, HZ.out.1, by go_num, rfl, HZ.out.2, by omega⟩
            case measure => simp [intOf]; omega
          · have hk1 : 1 ≤ k := by
              rcases Nat.eq_zero_or_pos k with h | h
              · subst h
                have := H0.out
                rw [Nat.add_zero] at h123 h91
                omega
              · exact h
            have hd1 : 1 ≤ d := hpos hk1
            by_cases h125 : B (i + k) = 125
            · by_cases hd : d = 1
              · have HZ : Hid (K = k) := HY.out (by simp [Pl.stops, h125, hd])
                clear HX HY
                go_wp2
                go_ret
                exact ⟨by rw [HZ.out]; go_num, rfl⟩
              · have hd2 : ¬ d - 1 = 0 := by omega
                have HZ : Hid (k + 1 ≤ K ∧ Pl.st B i (k + 1) = (d - 1, false, false)) := HX.out _ (by simp [Pl.stops, h125, hd]) (by simp [Pl.step, h125])
                clear HX HY
                go_wp2
                go_round
                case rel => exact ⟨k + 1, d - 1, HZ.out.1, by go_num, rfl, HZ.out.2, by omega⟩
                case measure => simp [intOf]; omega
            · by_cases h93 : B (i + k) = 93
              · by_cases hd : d = 1
                · have HZ : Hid (K = k) := HY.out (by simp [Pl.stops, h93, hd])
                  clear HX HY
                  go_wp2
                  go_ret
                  exact ⟨by rw [HZ.out]; go_num, rfl⟩
                · have hd2 : ¬ d - 1 = 0 := by omega
                  have HZ : Hid (k + 1 ≤ K ∧ Pl.st B i (k + 1) = (d - 1, false, false)) := HX.out _ (by simp [Pl.stops, h93, hd]) (by simp [Pl.step, h93])
                  clear HX HY
                  go_wp2
                  go_round
                  case rel => exact ⟨k + 1, d - 1, HZ.out.1, by go_num, rfl, HZ.out.2, by omega⟩
                  case measure => simp [intOf]; omega
              · have HZ : Hid (k + 1 ≤ K ∧ Pl.st B i (k + 1) = (d, false, false)) := HX.out _ (by simp [Pl.stops, h125, h93]) (by simp [Pl.step, h34, h123, h91, h125, h93])
                clear HX HY
                go_wp2
                go_round
                case rel => exact ⟨k + 1, d, HZ.out.1, by go_num, rfl, HZ.out.2, by omega⟩
                case measure => simp [intOf]; omega

end Go.Proofs.Qxb6601459a.Wk
