import Derived.Test.Qxb6601459aWalkB
namespace Go.Proofs.Qxb6601459a.Wk
open Go.RowKit

/-! ### firstOpenQuote (10) -/
theorem ret_pair {a c : Int} {p q : Bool} (h : a = c) (k : p = q) : Ending.returned (.tuple #[.int .i64 a, .bool p]) = .returned (.tuple #[.int .i64 c, .bool q]) := by rw [h, k]

set_option maxHeartbeats 1000000 in
theorem foq_any (b off n cap i : Nat) (B : Nat → Int) (w : World) (hn : n ≤ 1048576) (hi : i ≤ n) (hc : ∀ i, i < n → w.cell? ⟨b, off + i, none⟩ = some (.int .u8 (B i))) :
    Calls Try.prog 10 #[.slice (some ⟨b, off, none⟩) n cap, .int .i64 (i : Int)] w fun e w' => w = w' ∧ ((∃ q : Nat, e = .returned (.tuple #[.int .i64 (q : Int), .bool true]) ∧ Pl.FirstOpen B n i q) ∨ e = .returned (.tuple #[.int .i64 0, .bool false])) := by
  go_enter Try.func10, Try.ntmps10
  go_wp2
  go_loop [6, 7] (fun t j => ∃ k : Nat, i + k ≤ n ∧ j = .int .i64 ((i + k : Nat) : Int) ∧ t = .bool (Pl.esc B i k) ∧ ∀ m, i ≤ m → m < i + k → ¬ Pl.OpenAt B i m) (fun _ j => n - (intOf j).toNat)
  case atStart => exact ⟨0, by omega, rfl, rfl, fun m h1 h2 => by omega⟩
  case round =>
    obtain ⟨k, hk, rfl, rfl, hno⟩ := hrel
    have HN : Hid (∀ m, i ≤ m → m < i + k → ¬ Pl.OpenAt B i m) := hno
    clear hno
    by_cases hlt : i + k < n
    · have hcx := hc (i + k) hlt
      have HE : Hid (Pl.esc B i (k + 1) = (!Pl.esc B i k && decide (B (i + k) = 92))) := Pl.esc_succ B i k
      clear hc
      have HO : Hid (Pl.OpenAt B i (i + k) ↔ B (i + k) = 34 ∧ Pl.esc B i k = false) := by
        show _ ↔ _
        unfold Pl.OpenAt
        rw [show i + k - i = k from by omega]
      cases hes : Pl.esc B i k
      · by_cases h92 : B (i + k) = 92
        · have HE2 : Hid (Pl.esc B i (k + 1) = true) := by show _ = _; rw [HE.out, hes]; simp [h92]
          have HN2 : Hid (∀ m, i ≤ m → m < i + (k + 1) → ¬ Pl.OpenAt B i m) := fun m h1 h2 ho => by
            by_cases hm : m < i + k
            · exact HN.out m h1 hm ho
            · obtain rfl : m = i + k := by omega
              have := ho.1
              omega
          clear HO HE hes
          go_wp2
          go_round
          case rel => exact ⟨k + 1, by omega, by go_num, by rw [HE2.out], HN2.out⟩
          case measure => simp [intOf]; omega
        · by_cases h34 : B (i + k) = 34
          · have HF : Hid (Pl.FirstOpen B n i (i + k)) := ⟨by omega, hlt, HO.out.2 ⟨h34, hes⟩, HN.out⟩
            clear HO HE hes
            go_wp2
            go_ret2
            exact ⟨rfl, .inl ⟨i + k, rfl, HF.out⟩⟩
          · have HE2 : Hid (Pl.esc B i (k + 1) = false) := by show _ = _; rw [HE.out, hes]; simp [h92]
            have HN2 : Hid (∀ m, i ≤ m → m < i + (k + 1) → ¬ Pl.OpenAt B i m) := fun m h1 h2 ho => by
              by_cases hm : m < i + k
              · exact HN.out m h1 hm ho
              · obtain rfl : m = i + k := by omega
                exact h34 ho.1
            clear HO HE hes
            go_wp2
            go_round
            case rel => exact ⟨k + 1, by omega, by go_num, by rw [HE2.out], HN2.out⟩
            case measure => simp [intOf]; omega
      · have HE2 : Hid (Pl.esc B i (k + 1) = false) := by show _ = _; rw [HE.out, hes]; simp
        have HN2 : Hid (∀ m, i ≤ m → m < i + (k + 1) → ¬ Pl.OpenAt B i m) := fun m h1 h2 ho => by
          by_cases hm : m < i + k
          · exact HN.out m h1 hm ho
          · obtain rfl : m = i + k := by omega
            have := (HO.out.1 ho).2
            rw [hes] at this
            cases this
        clear HO HE hes
        go_wp2
        go_round
        case rel => exact ⟨k + 1, by omega, by go_num, by rw [HE2.out], HN2.out⟩
        case measure => simp [intOf]; omega
    · go_wp2
      go_ret2
      exact ⟨rfl, .inr rfl⟩

end Go.Proofs.Qxb6601459a.Wk
