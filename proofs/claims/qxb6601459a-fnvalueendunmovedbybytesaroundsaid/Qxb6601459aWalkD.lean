import Derived.Test.Qxb6601459aWalkC
import Derived.OpenShut
namespace Go.Proofs.Qxb6601459a.Wk
open Go.RowKit

/-! ### stringEnd (22) -/
set_option maxHeartbeats 1000000 in
theorem strEnd_any (b off n cap i q : Nat) (B : Nat → Int) (w : World) (hB : ∀ i, 0 ≤ B i ∧ B i ≤ 255) (hn : n ≤ 1048576) (hcap : n ≤ cap) (hi1 : 1 ≤ i) (hb92 : B (i - 1) ≠ 92) (hq : Pl.FirstOpen B n i q)
    (hc : ∀ i, i < n → w.cell? ⟨b, off + i, none⟩ = some (.int .u8 (B i))) :
    Calls Try.prog 22 #[.slice (some ⟨b, off, none⟩) n cap, .int .i64 (i : Int)] w fun e w' => e = .returned (.int .i64 (q : Int)) ∧ w = w' := by
  have HQ : Hid (Pl.FirstOpen B n i q) := hq
  have hq1 : i ≤ q := hq.1
  have hq2 : q < n := hq.2.1
  have HB : Hid (∀ i, 0 ≤ B i ∧ B i ≤ 255) := hB
  have H92 : Hid (B (i - 1) ≠ 92) := hb92
  have HC : Hid (∀ i, i < n → w.cell? ⟨b, off + i, none⟩ = some (.int .u8 (B i))) := hc
  clear hq hB hb92 hc
  go_enter Try.func22, Try.ntmps22
  go_wp2
  go_loop [1] (fun t => ∃ p : Nat, i ≤ p ∧ p ≤ q ∧ t = .int .i64 (p : Int)) (fun t => q - (intOf t).toNat)
  case atStart => exact ⟨i, Nat.le_refl _, hq1, rfl⟩
  case round =>
    obtain ⟨p, hp1, hp2, rfl⟩ := hrel
    have hidx := idx_hit b (off + p) (n - p) (cap - p) (q - p) (fun k => B (p + k)) w (fun k => HB.out (p + k)) (by omega) (by show B (p + (q - p)) = 34; rw [show p + (q - p) = q from by omega]; exact HQ.out.2.2.1.1)
      (fun k hk => by rw [Nat.add_assoc]; exact HC.out (p + k) (by omega))
    have HI := hidx
    clear hidx
    go_wp2_with (go_at_call 27; refine HI.mono ?_; rintro e w' ⟨o, rfl, rfl, ho1, ho2, ho3⟩; have HO2 : Hid (B (p + o) = 34) := ho2; clear ho2; have HO3 : Hid (∀ k, k < o → B (p + k) ≠ 34) := ho3; clear ho3)
    go_loop [6] (fun t => ∃ k : Nat, k ≤ p + o - i ∧ t = .int .i64 (k : Int) ∧ Pl.bk B (p + o) = k + Pl.bk B (p + o - k)) (fun t => n - (intOf t).toNat)
    case atStart => exact ⟨0, Nat.zero_le _, rfl, by simp⟩
    case round =>
      obtain ⟨k, hk, rfl, hbk⟩ := hrel
      have HK : Hid (Pl.bk B (p + o) = k + Pl.bk B (p + o - k)) := hbk
      clear hbk
      obtain ⟨j, hj, hjn, HJ⟩ : ∃ j : Nat, (p : Int) + (o : Int) - (k : Int) - 1 = (j : Int) ∧ j < n ∧ Hid (j = p + o - k - 1) := ⟨p + o - k - 1, by omega, by omega, rfl⟩
      have hcx := HC.out j hjn
      by_cases hB : B j = 92
      · have HB2 : Hid (k + 1 ≤ p + o - i) := by
          show k + 1 ≤ p + o - i
          apply Classical.byContradiction
          intro hlt
          apply H92.out
          rw [show i - 1 = j from by rw [HJ.out]; omega]
          exact hB
        have HK2 : Hid (Pl.bk B (p + o) = (k + 1) + Pl.bk B (p + o - (k + 1))) := by
          show _ = _
          have h1 : Pl.bk B (p + o - k) = Pl.bk B (p + o - k - 1) + 1 := Pl.bk_succ (by omega) (by rw [← HJ.out]; exact hB)
          rw [HK.out, h1, show p + o - (k + 1) = p + o - k - 1 from by omega]
          omega
        go_wp2
        go_round
        case rel => exact ⟨k + 1, HB2.out, by go_num, HK2.out⟩
        case measure => simp [intOf]; omega
      · have HK2 : Hid (Pl.bk B (p + o) = k) := by
          show _ = _
          have h1 : Pl.bk B (p + o - k) = 0 := Pl.bk_zero (by omega) (by rw [← HJ.out]; exact hB)
          rw [HK.out, h1]
          rfl
        have HE : Hid (Pl.esc B i (p + o - i) = decide (k % 2 = 1)) := by
          show _ = _
          rw [Pl.esc_bk hi1 H92.out (p + o - i), show i + (p + o - i) = p + o from by omega, HK2.out]
        by_cases hpar : k % 2 = 0
        · have HOq : Hid (p + o = q) := by
            show p + o = q
            rcases Nat.lt_or_ge (p + o) q with hlt | hge
            · refine absurd ⟨HO2.out, ?_⟩ (HQ.out.2.2.2 (p + o) (by omega) hlt)
              rw [HE.out]
              exact decide_eq_false (by omega)
            · omega
          go_wp2
          go_ret
          exact ⟨by rw [← HOq.out]; go_num, rfl⟩
        · have HOq : Hid (p + o + 1 ≤ q) := by
            show p + o + 1 ≤ q
            rcases Nat.lt_or_ge (p + o) q with hlt | hge
            · omega
            · have : p + o = q := by omega
              have h2 := HQ.out.2.2.1.2
              rw [← this, HE.out] at h2
              have := of_decide_eq_false h2
              omega
          go_wp2
          go_round
          case rel => exact ⟨p + o + 1, by omega, HOq.out, by go_num⟩
          case measure => have hm := HOq.out; simp [intOf]; omega

/-! ### ZZStringEnd (11) -/
set_option maxHeartbeats 1000000 in
theorem zzStr_any (b off n cap i q : Nat) (B : Nat → Int) (w : World) (hB : ∀ i, 0 ≤ B i ∧ B i ≤ 255) (hn : n ≤ 1048576) (hcap : n ≤ cap) (hi1 : 1 ≤ i) (hb92 : B (i - 1) ≠ 92) (hq : Pl.FirstOpen B n i q)
    (hc : ∀ i, i < n → w.cell? ⟨b, off + i, none⟩ = some (.int .u8 (B i))) :
    Calls Try.prog 11 #[.slice (some ⟨b, off, none⟩) n cap, .int .i64 (i : Int)] w fun e w' => e = .returned (.int .i64 (q : Int)) ∧ w = w' := by
  have H := strEnd_any b off n cap i q B w hB hn hcap hi1 hb92 hq hc
  clear hB hb92 hq hc
  go_enter Try.func11, Try.ntmps11
  go_wp2_with (go_at_call 22; refine H.mono ?_; rintro e w' ⟨rfl, rfl⟩)
  go_ret
  exact ⟨rfl, rfl⟩

/-! ### zzBytes_FnStringEndIsFirstUnescapedQuote (8) -/
set_option maxHeartbeats 400000 in
theorem zzb8_le (a : Option Addr) (n cap : Nat) (i : Int) (w : World) (hn : n ≤ 1048576) :
    Calls Try.prog 8 #[.slice a n cap, .int .i64 i] w fun e w' => e = .returned (.bool true) ∧ w = w' := by
  go_enter Try.func8, Try.ntmps8
  go_wp2
  go_ret
  exact ⟨rfl, rfl⟩

set_option maxHeartbeats 400000 in
theorem zzb8_gt (a : Option Addr) (n cap : Nat) (i : Int) (w : World) (hn : ¬ n ≤ 1048576) :
    Calls Try.prog 8 #[.slice a n cap, .int .i64 i] w fun e w' => e = .returned (.bool false) ∧ w = w' := by
  go_enter Try.func8, Try.ntmps8
  go_wp2
  go_ret
  exact ⟨rfl, rfl⟩

/-! ### What the row hands over, in the walks' words -/
/-- A slice of n bytes B: where there is a byte its address is written out and its cells are known. -/
def RowAt (w : World) (a : Option Addr) (n cap : Nat) (B : Nat → Int) : Prop := n ≤ cap ∧ (n = 0 ∨ ∃ b off, a = some ⟨b, off, none⟩ ∧ ∀ i, i < n → w.cell? ⟨b, off + i, none⟩ = some (.int .u8 (B i)))

theorem row_open {w : World} {a : Option Addr} {len cap : Nat} {zs : List Int}
    (h : (a = none ∧ len = 0 ∧ cap = 0 ∧ zs = []) ∨ ∃ x, a = some x ∧ len ≤ cap ∧ cap ≤ maxLen ∧ zs.length = cap ∧ (∀ i, i < zs.length → w.cell? (x.add i) = some (.int .u8 (zs.getD i 0))) ∧ ∀ n ∈ zs, (Lit.int .u8 n).wf = true) :
    ∃ B : Nat → Int, (∀ i, 0 ≤ B i ∧ B i ≤ 255) ∧ RowAt w a len cap B := by
  rcases h with ⟨rfl, rfl, rfl, rfl⟩ | ⟨x, rfl, hl, _, hz, hc, hw⟩
  · exact ⟨fun _ => 0, fun _ => ⟨Int.le_refl 0, (by decide : (0 : Int) ≤ 255)⟩, Nat.le_refl _, .inl rfl⟩
  · refine ⟨fun i => zs.getD i 0, fun i => ?_, hl, ?_⟩
    · show 0 ≤ zs.getD i 0 ∧ zs.getD i 0 ≤ 255
      rw [List.getD_eq_getElem?_getD]
      exact range_u8 hw i
    · by_cases h0 : len = 0
      · exact .inl h0
      · refine .inr ?_
        obtain ⟨b, off, spot⟩ := x
        have hspot : spot = none := by simpa [Addr.add] using World.cell?_spot (hc 0 (by omega))
        subst hspot
        refine ⟨b, off, rfl, fun i hi => ?_⟩
        have h1 := hc i (by omega)
        have h2 : (⟨b, off, none⟩ : Addr).add i = ⟨b, off + i, none⟩ := by unfold Addr.add; split <;> simp_all
        rw [h2] at h1
        exact h1

end Go.Proofs.Qxb6601459a.Wk
