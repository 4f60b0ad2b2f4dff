import Derived.Test.Qxb6602401aWalkB
namespace Go.Proofs.Qxb6602401a.Wk
open Go.RowKit

/-! ### b1ModelClosingQuote (9) -/
set_option maxHeartbeats 1000000 in
theorem mod_any (b off n cap i q : Nat) (B : Nat → Int) (w : World) (hn : n ≤ 1048576) (hi : i ≤ n) (hq : Pl.Close B n i q) (hc : ∀ i, i < n → w.cell? ⟨b, off + i, none⟩ = some (.int .u8 (B i))) :
    Calls Try.prog 9 #[.slice (some ⟨b, off, none⟩) n cap, .int .i64 (i : Int)] w fun e w' => e = .returned (.int .i64 (q : Int)) ∧ w = w' := by
  have HQ : Hid (Pl.Close B n i q) := hq
  clear hq
  go_enter Try.func9, Try.ntmps9
  go_wp2
  go_loop [5, 6] (fun t j => ∃ k : Nat, i + k ≤ n ∧ j = .int .i64 ((i + k : Nat) : Int) ∧ t = .bool (Pl.esc B i k) ∧ ∀ m, i ≤ m → m < i + k → ¬ Pl.OpenAt B i m) (fun _ j => n - (intOf j).toNat)
  case atStart => exact ⟨0, by omega, rfl, rfl, fun m h1 h2 => by omega⟩
  case round =>
    obtain ⟨k, hk, rfl, rfl, hno⟩ := hrel
    have HN : Hid (∀ m, i ≤ m → m < i + k → ¬ Pl.OpenAt B i m) := hno
    clear hno
    by_cases hlt : i + k < n
    · have hcx := hc (i + k) hlt
      have HE : Hid (Pl.esc B i (k + 1) = (!Pl.esc B i k && decide (B (i + k) = 92))) := Pl.esc_succ B i k
      clear hc
      have HO : Hid (Pl.OpenAt B i (i + k) ↔ B (i + k) = 34 ∧ Pl.esc B i k = false) := by
        show _ ↔ _
        unfold Pl.OpenAt
        rw [show i + k - i = k from by omega]
      cases hes : Pl.esc B i k
      · by_cases h92 : B (i + k) = 92
        · have HE2 : Hid (Pl.esc B i (k + 1) = true) := by show _ = _; rw [HE.out, hes]; simp [h92]
          have HN2 : Hid (∀ m, i ≤ m → m < i + (k + 1) → ¬ Pl.OpenAt B i m) := fun m h1 h2 ho => by
            by_cases hm : m < i + k
            · exact HN.out m h1 hm ho
            · obtain rfl : m = i + k := by omega
              have := ho.1
              omega
          clear HO HE hes
          go_wp2
          go_round
          case rel => exact ⟨k + 1, by omega, by go_num, by rw [HE2.out], HN2.out⟩
          case measure => simp [intOf]; omega
        · by_cases h34 : B (i + k) = 34
          · have HF : Hid (q = i + k) := Pl.close_unique HQ.out (.inl ⟨by omega, hlt, HO.out.2 ⟨h34, hes⟩, HN.out⟩)
            clear HO HE hes
            go_wp2
            go_ret
            exact ⟨by rw [HF.out]; go_num, rfl⟩
          · have HE2 : Hid (Pl.esc B i (k + 1) = false) := by show _ = _; rw [HE.out, hes]; simp [h92]
            have HN2 : Hid (∀ m, i ≤ m → m < i + (k + 1) → ¬ Pl.OpenAt B i m) := fun m h1 h2 ho => by
              by_cases hm : m < i + k
              · exact HN.out m h1 hm ho
              · obtain rfl : m = i + k := by omega
                exact h34 ho.1
            clear HO HE hes
            go_wp2
            go_round
            case rel => exact ⟨k + 1, by omega, by go_num, by rw [HE2.out], HN2.out⟩
            case measure => simp [intOf]; omega
      · have HE2 : Hid (Pl.esc B i (k + 1) = false) := by show _ = _; rw [HE.out, hes]; simp
        have HN2 : Hid (∀ m, i ≤ m → m < i + (k + 1) → ¬ Pl.OpenAt B i m) := fun m h1 h2 ho => by
          by_cases hm : m < i + k
          · exact HN.out m h1 hm ho
          · obtain rfl : m = i + k := by omega
            have := (HO.out.1 ho).2
            rw [hes] at this
            cases this
        clear HO HE hes
        go_wp2
        go_round
        case rel => exact ⟨k + 1, by omega, by go_num, by rw [HE2.out], HN2.out⟩
        case measure => simp [intOf]; omega
    · have HF : Hid (q = n) := Pl.close_unique HQ.out (.inr ⟨rfl, fun m h1 h2 => HN.out m h1 (by omega)⟩)
      go_wp2
      go_ret
      exact ⟨by rw [HF.out]; rfl, rfl⟩

/-! ### closingQuote (16) -/
set_option maxHeartbeats 2000000 in
theorem close_any (b off n cap i q : Nat) (B : Nat → Int) (w : World) (hB : ∀ i, 0 ≤ B i ∧ B i ≤ 255) (hn : n ≤ 1048576) (hcap : n ≤ cap) (hi1 : 1 ≤ i) (hin : i ≤ n) (hb92 : B (i - 1) ≠ 92) (hq : Pl.Close B n i q)
    (hc : ∀ i, i < n → w.cell? ⟨b, off + i, none⟩ = some (.int .u8 (B i))) :
    Calls Try.prog 16 #[.slice (some ⟨b, off, none⟩) n cap, .int .i64 (i : Int)] w fun e w' => e = .returned (.int .i64 (q : Int)) ∧ w = w' := by
  have HQ : Hid (Pl.Close B n i q) := hq
  have hq1 : i ≤ q := Pl.close_ge hin hq
  have hq2 : q ≤ n := Pl.close_le hq
  have HB : Hid (∀ i, 0 ≤ B i ∧ B i ≤ 255) := hB
  have H92 : Hid (B (i - 1) ≠ 92) := hb92
  have HC : Hid (∀ i, i < n → w.cell? ⟨b, off + i, none⟩ = some (.int .u8 (B i))) := hc
  clear hq hB hb92 hc
  go_enter Try.func16, Try.ntmps16
  go_wp2
  go_loop [1] (fun t => ∃ p : Nat, i ≤ p ∧ p ≤ q ∧ t = .int .i64 (p : Int)) (fun t => q - (intOf t).toNat)
  case atStart => exact ⟨i, Nat.le_refl _, hq1, rfl⟩
  case round =>
    obtain ⟨p, hp1, hp2, rfl⟩ := hrel
    by_cases hpn : p < n
    · have hidx := idx_any b (off + p) (n - p) (cap - p) (fun k => B (p + k)) 34 w (fun k hk => by rw [Nat.add_assoc]; exact HC.out (p + k) (by omega))
      have hspec := Pl.indexByte_spec (fun k => B (p + k)) (n - p) (fun k => HB.out (p + k)) 34 (by omega)
      go_wp2_with fail
      refine hidx.mono ?_
      rintro e w' ⟨he, rfl⟩
      rcases hspec with ⟨h1, h2⟩ | ⟨o, h1, h2, h3, h4⟩
      · rw [h1] at he
        subst he
        have HF : Hid (q = n) := Pl.close_none HQ.out hp2 (fun y hy1 hy2 => by have := h2 (y - p) (by omega); simp only [show p + (y - p) = y from by omega] at this; exact this)
        clear h1 h2 hidx
        go_wp2
        go_ret
        exact ⟨by rw [HF.out]; rfl, rfl⟩
      · rw [h1] at he
        subst he
        have HO2 : Hid (B (p + o) = 34) := h3
        have HO3 : Hid (∀ y, p ≤ y → y < p + o → B y ≠ 34) := fun y hy1 hy2 => by have := h4 (y - p) (by omega); simp only [show p + (y - p) = y from by omega] at this; exact this
        clear h1 h3 h4 hidx
        go_wp2
        go_loop [6] (fun t => ∃ k : Nat, k ≤ p + o - i ∧ t = .int .i64 (k : Int) ∧ Pl.bk B (p + o) = k + Pl.bk B (p + o - k)) (fun t => n - (intOf t).toNat)
        case atStart => exact ⟨0, Nat.zero_le _, rfl, by simp⟩
        case round =>
          obtain ⟨k, hk, rfl, hbk⟩ := hrel
          have HK : Hid (Pl.bk B (p + o) = k + Pl.bk B (p + o - k)) := hbk
          clear hbk
          obtain ⟨j, hj, hjn, HJ⟩ : ∃ j : Nat, (o : Int) + (p : Int) - 1 - (k : Int) = (j : Int) ∧ j < n ∧ Hid (j = p + o - k - 1) := ⟨p + o - k - 1, by omega, by omega, rfl⟩
          have hcx := HC.out j hjn
          by_cases hB : B j = 92
          · have HB2 : Hid (k + 1 ≤ p + o - i) := by
              show k + 1 ≤ p + o - i
              apply Classical.byContradiction
              intro hlt
              apply H92.out
              rw [show i - 1 = j from by rw [HJ.out]; omega]
              exact hB
            have HK2 : Hid (Pl.bk B (p + o) = (k + 1) + Pl.bk B (p + o - (k + 1))) := by
              show _ = _
              have h1 : Pl.bk B (p + o - k) = Pl.bk B (p + o - k - 1) + 1 := Pl.bk_succ (by omega) (by rw [← HJ.out]; exact hB)
              rw [HK.out, h1, show p + o - (k + 1) = p + o - k - 1 from by omega]
              omega
            go_wp2
            go_round
            case rel => exact ⟨k + 1, HB2.out, by go_num, HK2.out⟩
            case measure => simp [intOf]; omega
          · have HK2 : Hid (Pl.bk B (p + o) = k) := by
              show _ = _
              have h1 : Pl.bk B (p + o - k) = 0 := Pl.bk_zero (by omega) (by rw [← HJ.out]; exact hB)
              rw [HK.out, h1]
              rfl
            have HE : Hid (Pl.esc B i (p + o - i) = decide (k % 2 = 1)) := by
              show _ = _
              rw [Pl.esc_bk hi1 H92.out (p + o - i), show i + (p + o - i) = p + o from by omega, HK2.out]
            by_cases hpar : k % 2 = 0
            · have HOq : Hid (q = p + o) := Pl.close_hit_open HQ.out hp1 hp2 HO2.out (by omega) (by omega) HO3.out (by rw [HE.out]; exact decide_eq_false (by omega))
              go_wp2
              go_ret
              exact ⟨by rw [HOq.out]; go_num, rfl⟩
            · have HOq : Hid (p + o + 1 ≤ q) := Pl.close_hit_taken HQ.out hp2 (by omega) HO3.out (by rw [HE.out]; exact decide_eq_true (by omega))
              go_wp2
              go_round
              case rel => exact ⟨p + o + 1, by omega, HOq.out, by go_num⟩
              case measure => have hm := HOq.out; simp [intOf]; omega
    · have HF : Hid (q = n) := by show q = n; omega
      have hspec : Lib.indexByte (Lib.bytesOf (Pl.lst B (n - p))) ((34 : Int).toNat).toUInt8 = -1 := by
        rcases Pl.indexByte_spec B (n - p) HB.out 34 (by omega) with ⟨h1, _⟩ | ⟨o, _, h2, _⟩
        · exact h1
        · omega
      go_wp2_with fail
      all_goals
        refine (idx_any b _ (n - p) _ B 34 w (fun k hk => by omega)).mono ?_
        rintro e w' ⟨he, rfl⟩
        rw [hspec] at he
        subst he
        clear hspec
        go_wp2
        go_ret
        exact ⟨by rw [HF.out]; rfl, rfl⟩

/-! ### ZZclosingQuote (8) -/
set_option maxHeartbeats 400000 in
theorem zzClose_any (b off n cap i q : Nat) (B : Nat → Int) (w : World) (hB : ∀ i, 0 ≤ B i ∧ B i ≤ 255) (hn : n ≤ 1048576) (hcap : n ≤ cap) (hi1 : 1 ≤ i) (hin : i ≤ n) (hb92 : B (i - 1) ≠ 92) (hq : Pl.Close B n i q)
    (hc : ∀ i, i < n → w.cell? ⟨b, off + i, none⟩ = some (.int .u8 (B i))) :
    Calls Try.prog 8 #[.slice (some ⟨b, off, none⟩) n cap, .int .i64 (i : Int)] w fun e w' => e = .returned (.int .i64 (q : Int)) ∧ w = w' := by
  have H := close_any b off n cap i q B w hB hn hcap hi1 hin hb92 hq hc
  clear hB hb92 hq hc
  go_enter Try.func8, Try.ntmps8
  go_wp2_with (go_at_call 16; refine H.mono ?_; rintro e w' ⟨rfl, rfl⟩)
  go_ret
  exact ⟨rfl, rfl⟩

/-! ### zzBytes_FnClosingQuoteMatchesEscapeAutomaton (6) -/
set_option maxHeartbeats 400000 in
theorem zzb6_le (a : Option Addr) (n cap : Nat) (i : Int) (w : World) (hn : n ≤ 1048576) :
    Calls Try.prog 6 #[.slice a n cap, .int .i64 i] w fun e w' => e = .returned (.bool true) ∧ w = w' := by
  go_enter Try.func6, Try.ntmps6
  go_wp2
  go_ret
  exact ⟨rfl, rfl⟩

set_option maxHeartbeats 400000 in
theorem zzb6_gt (a : Option Addr) (n cap : Nat) (i : Int) (w : World) (hn : ¬ n ≤ 1048576) :
    Calls Try.prog 6 #[.slice a n cap, .int .i64 i] w fun e w' => e = .returned (.bool false) ∧ w = w' := by
  go_enter Try.func6, Try.ntmps6
  go_wp2
  go_ret
  exact ⟨rfl, rfl⟩

end Go.Proofs.Qxb6602401a.Wk
