import Derived.Test.Qxb6601459aWalkF
namespace Go.Proofs.Qxb6601459a.Wk
open Go.RowKit

/-! ### valueEndModel (15) -/
set_option maxHeartbeats 1000000 in
theorem mod_bare (b off n cap i : Nat) (B : Nat → Int) (w : World) (hn : n ≤ 1048576) (hi : i < n) (h1 : B i ≠ 34) (h2 : B i ≠ 123) (h3 : B i ≠ 91) (hc : ∀ i, i < n → w.cell? ⟨b, off + i, none⟩ = some (.int .u8 (B i))) :
    Calls Try.prog 15 #[.slice (some ⟨b, off, none⟩) n cap, .int .i64 (i : Int)] w fun e w' => w = w' ∧ ∃ q : Nat, e = .returned (.tuple #[.int .i64 (q : Int), .bool true]) ∧ Pl.FirstDelim B n i q := by
  have hci := hc i hi
  have HC : Hid (∀ i, i < n → w.cell? ⟨b, off + i, none⟩ = some (.int .u8 (B i))) := hc
  clear hc
  have g1 : (B i != 34) = true := by simp [h1]
  have g2 : (B i != 123) = true := by simp [h2]
  have g3 : (B i != 91) = true := by simp [h3]
  go_enter Try.func15, Try.ntmps15
  go_wp2
  clear hci g1 g2 g3 h1 h2 h3
  go_loop [7] (fun t => ∃ k : Nat, i ≤ k ∧ k ≤ n ∧ t = .int .i64 (k : Int) ∧ ∀ m, i ≤ m → m < k → ¬ Pl.delim (B m)) (fun t => n - (intOf t).toNat)
  case atStart => exact ⟨i, Nat.le_refl _, by omega, rfl, fun m h1 h2 => by omega⟩
  case round =>
    obtain ⟨k, hk1, hk2, rfl, hno⟩ := hrel
    have HN : Hid (∀ m, i ≤ m → m < k → ¬ Pl.delim (B m)) := hno
    clear hno
    by_cases hlt : k < n
    · have hcx := HC.out k hlt
      by_cases hd : Pl.delim (B k)
      · have H := dlm_yes (B k) w hd
        have HF : Hid (Pl.FirstDelim B n i k) := ⟨hk1, hk2, HN.out, fun _ => hd⟩
        clear hd
        go_wp2_with (go_at_call 18; refine H.mono ?_; rintro e w' ⟨rfl, rfl⟩)
        go_ret2
        exact ⟨rfl, k, rfl, HF.out⟩
      · have H := dlm_no (B k) w hd
        have HN2 : Hid (∀ m, i ≤ m → m < k + 1 → ¬ Pl.delim (B m)) := fun m h1 h2 hdm => by
          by_cases hm : m < k
          · exact HN.out m h1 hm hdm
          · obtain rfl : m = k := by omega
            exact hd hdm
        clear hd
        go_wp2_with (go_at_call 18; refine H.mono ?_; rintro e w' ⟨rfl, rfl⟩)
        go_round
        case rel => exact ⟨k + 1, by omega, by omega, by go_num, HN2.out⟩
        case measure => simp [intOf]; omega
    · have HF : Hid (Pl.FirstDelim B n i k) := ⟨hk1, hk2, HN.out, fun h => absurd h hlt⟩
      go_wp2
      go_ret2
      exact ⟨rfl, k, rfl, HF.out⟩

def NoStop (B : Nat → Int) (i k : Nat) : Prop := ∀ m, m < k → ¬ Pl.stops (B (i + m)) (Pl.st B i m)

theorem nostop_succ {B : Nat → Int} {i k : Nat} (h : NoStop B i k) (hk : ¬ Pl.stops (B (i + k)) (Pl.st B i k)) : NoStop B i (k + 1) := by
  intro m hm
  by_cases hmk : m < k
  · exact h m hmk
  · obtain rfl : m = k := by omega
    exact hk

/-- A round of the model that goes on. -/
theorem mod_next {B : Nat → Int} {i k : Nat} {s s' : Int × Bool × Bool} (hs : Pl.st B i k = s) (hno : NoStop B i k) (hk : ¬ Pl.stops (B (i + k)) s) (hstep : Pl.step (B (i + k)) s = s') : Pl.st B i (k + 1) = s' ∧ NoStop B i (k + 1) := by
  subst hs
  exact ⟨hstep, nostop_succ hno hk⟩

set_option maxHeartbeats 4000000 in
theorem mod_deep (b off n cap i : Nat) (B : Nat → Int) (w : World) (hn : n ≤ 1048576) (hi : i < n) (hdeep : B i = 34 ∨ B i = 123 ∨ B i = 91) (hc : ∀ i, i < n → w.cell? ⟨b, off + i, none⟩ = some (.int .u8 (B i))) :
    Calls Try.prog 15 #[.slice (some ⟨b, off, none⟩) n cap, .int .i64 (i : Int)] w fun e w' => w = w' ∧ ((∃ K : Nat, e = .returned (.tuple #[.int .i64 ((i + K + 1 : Nat) : Int), .bool true]) ∧ Pl.FirstStop B n i K) ∨ e = .returned (.tuple #[.int .i64 0, .bool false])) := by
  have hci := hc i hi
  have HC : Hid (∀ i, i < n → w.cell? ⟨b, off + i, none⟩ = some (.int .u8 (B i))) := hc
  clear hc
  rcases hdeep with hd | hd | hd
  all_goals
    go_enter Try.func15, Try.ntmps15
    go_wp2
    clear hci hd
    go_loop [8, 9, 10, 11] (fun u v x t => ∃ (k : Nat) (d : Int) (p q : Bool), i + k ≤ n ∧ u = .int .i64 d ∧ v = .bool p ∧ x = .bool q ∧ t = .int .i64 ((i + k : Nat) : Int) ∧ Pl.st B i k = (d, p, q) ∧ NoStop B i k) (fun _ _ _ t => n - (intOf t).toNat)
    case atStart => exact ⟨0, 0, false, false, by omega, rfl, rfl, rfl, rfl, rfl, fun m h => by omega⟩
    case round =>
      obtain ⟨k, d, p, q, hk, rfl, rfl, rfl, rfl, hst, hno⟩ := hrel
      have hbd : -(k : Int) ≤ d ∧ d ≤ k := by have := Pl.st_bd B i k; rw [hst] at this; exact this
      obtain ⟨hbd1, hbd2⟩ := hbd
      by_cases hlt : i + k < n
      · have hcx := HC.out (i + k) hlt
        have HX : Hid (∀ s', ¬ Pl.stops (B (i + k)) (d, p, q) → Pl.step (B (i + k)) (d, p, q) = s' → Pl.st B i (k + 1) = s' ∧ NoStop B i (k + 1)) := fun s' h1 h2 => mod_next hst hno h1 h2
        have HY : Hid (Pl.stops (B (i + k)) (d, p, q) → Pl.FirstStop B n i k) := fun h => ⟨hlt, by rw [hst]; exact h, hno⟩
        clear hst hno
        cases p
        · by_cases h34 : B (i + k) = 34
          · have HZ : Hid (Pl.st B i (k + 1) = (d, true, q) ∧ NoStop B i (k + 1)) := HX.out _ (by simp [Pl.stops, h34]) (by simp [Pl.step, h34])
            clear HX HY
            go_wp2
            go_round
            case rel => exact ⟨k + 1, d, true, q, by omega, rfl, rfl, rfl, by go_num, HZ.out.1, HZ.out.2⟩
            case measure => simp [intOf]; omega
          · by_cases h123 : B (i + k) = 123
            · have HZ : Hid (Pl.st B i (k + 1) = (d + 1, false, q) ∧ NoStop B i (k + 1)) := HX.out _ (by simp [Pl.stops, h123]) (by simp [Pl.step, h123])
              clear HX HY
              go_wp2
              go_round
              case rel => exact ⟨k + 1, d + 1, false, q, by omega, rfl, rfl, rfl, by go_num, HZ.out.1, HZ.out.2⟩
              case measure => simp [intOf]; omega
            · by_cases h91 : B (i + k) = 91
              · have HZ : Hid (Pl.st B i (k + 1) = (d + 1, false, q) ∧ NoStop B i (k + 1)) := HX.out _ (by simp [Pl.stops, h91]) (by simp [Pl.step, h91])
                clear HX HY
                go_wp2
                go_round
                case rel => exact ⟨k + 1, d + 1, false, q, by omega, rfl, rfl, rfl, by go_num, HZ.out.1, HZ.out.2⟩
                case measure => simp [intOf]; omega
              · by_cases h125 : B (i + k) = 125
                · by_cases hd1 : d = 1
                  · have HZ : Hid (Pl.FirstStop B n i k) := HY.out (by simp [Pl.stops, h125, hd1])
                    clear HX HY
                    go_wp2
                    go_ret2
                    exact ⟨rfl, .inl ⟨k, by go_num, HZ.out⟩⟩
                  · have hd0 : ¬ d - 1 = 0 := by omega
                    have HZ : Hid (Pl.st B i (k + 1) = (d - 1, false, q) ∧ NoStop B i (k + 1)) := HX.out _ (by simp [Pl.stops, h125, hd1]) (by simp [Pl.step, h125])
                    clear HX HY
                    go_wp2
                    go_round
                    case rel => exact ⟨k + 1, d - 1, false, q, by omega, rfl, rfl, rfl, by go_num, HZ.out.1, HZ.out.2⟩
                    case measure => simp [intOf]; omega
                · by_cases h93 : B (i + k) = 93
                  · by_cases hd1 : d = 1
                    · have HZ : Hid (Pl.FirstStop B n i k) := HY.out (by simp [Pl.stops, h93, hd1])
                      clear HX HY
                      go_wp2
                      go_ret2
                      exact ⟨rfl, .inl ⟨k, by go_num, HZ.out⟩⟩
                    · have hd0 : ¬ d - 1 = 0 := by omega
                      have HZ : Hid (Pl.st B i (k + 1) = (d - 1, false, q) ∧ NoStop B i (k + 1)) := HX.out _ (by simp [Pl.stops, h93, hd1]) (by simp [Pl.step, h93])
                      clear HX HY
                      go_wp2
                      go_round
                      case rel => exact ⟨k + 1, d - 1, false, q, by omega, rfl, rfl, rfl, by go_num, HZ.out.1, HZ.out.2⟩
                      case measure => simp [intOf]; omega
                  · have HZ : Hid (Pl.st B i (k + 1) = (d, false, q) ∧ NoStop B i (k + 1)) := HX.out _ (by simp [Pl.stops, h125, h93]) (by simp [Pl.step, h34, h123, h91, h125, h93])
                    have e1 : (B (i + k) == 123) = false := by simp [h123]
                    have e2 : (B (i + k) == 91) = false := by simp [h91]
                    have e3 : (B (i + k) == 125) = false := by simp [h125]
                    have e4 : (B (i + k) == 93) = false := by simp [h93]
                    clear HX HY
                    go_wp2
                    go_round
                    case rel => exact ⟨k + 1, d, false, q, by omega, rfl, rfl, rfl, by go_num, HZ.out.1, HZ.out.2⟩
                    case measure => simp [intOf]; omega
        · cases q
          · by_cases h92 : B (i + k) = 92
            · have HZ : Hid (Pl.st B i (k + 1) = (d, true, true) ∧ NoStop B i (k + 1)) := HX.out _ (by simp [Pl.stops, h92]) (by simp [Pl.step, h92])
              clear HX HY
              go_wp2
              go_round
              case rel => exact ⟨k + 1, d, true, true, by omega, rfl, rfl, rfl, by go_num, HZ.out.1, HZ.out.2⟩
              case measure => simp [intOf]; omega
            · by_cases h34 : B (i + k) = 34
              · by_cases hd0 : d = 0
                · have HZ : Hid (Pl.FirstStop B n i k) := HY.out (by simp [Pl.stops, h34, hd0])
                  clear HX HY
                  go_wp2
                  go_ret2
                  exact ⟨rfl, .inl ⟨k, by go_num, HZ.out⟩⟩
                · have HZ : Hid (Pl.st B i (k + 1) = (d, false, false) ∧ NoStop B i (k + 1)) := HX.out _ (by simp [Pl.stops, h34, hd0]) (by simp [Pl.step, h34])
                  clear HX HY
                  go_wp2
                  go_round
                  case rel => exact ⟨k + 1, d, false, false, by omega, rfl, rfl, rfl, by go_num, HZ.out.1, HZ.out.2⟩
                  case measure => simp [intOf]; omega
              · have HZ : Hid (Pl.st B i (k + 1) = (d, true, false) ∧ NoStop B i (k + 1)) := HX.out _ (by simp [Pl.stops, h34]) (by simp [Pl.step, h34, h92])
                clear HX HY
                go_wp2
                go_round
                case rel => exact ⟨k + 1, d, true, false, by omega, rfl, rfl, rfl, by go_num, HZ.out.1, HZ.out.2⟩
                case measure => simp [intOf]; omega
          · have HZ : Hid (Pl.st B i (k + 1) = (d, true, false) ∧ NoStop B i (k + 1)) := HX.out _ (by simp [Pl.stops]) rfl
            clear HX HY
            go_wp2
            go_round
            case rel => exact ⟨k + 1, d, true, false, by omega, rfl, rfl, rfl, by go_num, HZ.out.1, HZ.out.2⟩
            case measure => simp [intOf]; omega
      · go_wp2
        go_ret2
        exact ⟨rfl, .inr rfl⟩

end Go.Proofs.Qxb6601459a.Wk
