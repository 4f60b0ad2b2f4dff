import Derived.Test.Qxb6601459aWalkH
namespace Go.Proofs.Qxb6601459a.Wk
open Go.RowKit

theorem ve_any (b off n cap i q : Nat) (B : Nat → Int) (w : World) (hB : ∀ i, 0 ≤ B i ∧ B i ≤ 255) (hn : n ≤ 1048576) (hcap : n ≤ cap) (hi : i < n) (hq : Pl.VEnd B n i q) (hc : ∀ i, i < n → w.cell? ⟨b, off + i, none⟩ = some (.int .u8 (B i))) :
    Calls Try.prog 23 #[.slice (some ⟨b, off, none⟩) n cap, .int .i64 (i : Int)] w fun e w' => e = .returned (.int .i64 (q : Int)) ∧ w = w' := by
  rcases hq with ⟨hb, hq⟩ | ⟨hb, K, hK, rfl⟩
  · exact ve_bare b off n cap i q B w hn hi hb.1 hb.2.1 hb.2.2 hq hc
  · by_cases h34 : B i = 34
    · exact ve_str b off n cap i K B w hB hn hcap h34 hK hc
    · exact ve_box b off n cap i K B w hB hn hcap (by unfold Pl.Bare at hb; omega) hK hc

set_option maxHeartbeats 400000 in
theorem zzVe_any (b off n cap i q : Nat) (B : Nat → Int) (w : World) (hB : ∀ i, 0 ≤ B i ∧ B i ≤ 255) (hn : n ≤ 1048576) (hcap : n ≤ cap) (hi : i < n) (hq : Pl.VEnd B n i q) (hc : ∀ i, i < n → w.cell? ⟨b, off + i, none⟩ = some (.int .u8 (B i))) :
    Calls Try.prog 16 #[.slice (some ⟨b, off, none⟩) n cap, .int .i64 (i : Int)] w fun e w' => e = .returned (.int .i64 (q : Int)) ∧ w = w' := by
  have H := ve_any b off n cap i q B w hB hn hcap hi hq hc
  clear hB hq hc
  go_enter Try.func16, Try.ntmps16
  go_wp2_with (go_at_call 23; refine H.mono ?_; rintro e w' ⟨rfl, rfl⟩)
  go_ret
  exact ⟨rfl, rfl⟩

/-! ### zzBytes_FnValueEndMatchesOnePassModel (14), zzBytes_FnValueEndUnmovedByBytesAround (17) -/
set_option maxHeartbeats 400000 in
theorem zzb14_le (a : Option Addr) (n cap : Nat) (i : Int) (w : World) (hn : n ≤ 1048576) :
    Calls Try.prog 14 #[.slice a n cap, .int .i64 i] w fun e w' => e = .returned (.bool true) ∧ w = w' := by
  go_enter Try.func14, Try.ntmps14
  go_wp2
  go_ret
  exact ⟨rfl, rfl⟩

set_option maxHeartbeats 400000 in
theorem zzb14_gt (a : Option Addr) (n cap : Nat) (i : Int) (w : World) (hn : ¬ n ≤ 1048576) :
    Calls Try.prog 14 #[.slice a n cap, .int .i64 i] w fun e w' => e = .returned (.bool false) ∧ w = w' := by
  go_enter Try.func14, Try.ntmps14
  go_wp2
  go_ret
  exact ⟨rfl, rfl⟩

set_option maxHeartbeats 400000 in
theorem zzb17_le (a b c : Option Addr) (n1 n2 n3 c1 c2 c3 : Nat) (i : Int) (w : World) (hn : n1 + n2 + n3 ≤ 1048576) :
    Calls Try.prog 17 #[.slice a n1 c1, .slice b n2 c2, .slice c n3 c3, .int .i64 i] w fun e w' => e = .returned (.bool true) ∧ w = w' := by
  go_enter Try.func17, Try.ntmps17
  go_wp2
  go_ret
  exact ⟨rfl, rfl⟩

set_option maxHeartbeats 1000000 in
theorem zzb17_gt (a b c : Option Addr) (n1 n2 n3 c1 c2 c3 : Nat) (i : Int) (w : World) (hn : ¬ n1 + n2 + n3 ≤ 1048576) :
    Calls Try.prog 17 #[.slice a n1 c1, .slice b n2 c2, .slice c n3 c3, .int .i64 i] w fun e w' => e = .returned (.bool false) ∧ w = w' := by
  by_cases h1 : n1 ≤ 1048576
  · by_cases h2 : n2 ≤ 1048576
    · by_cases h3 : n1 + n2 ≤ 1048576
      · by_cases h4 : n3 ≤ 1048576
        all_goals
          go_enter Try.func17, Try.ntmps17
          go_wp2
          go_ret
          exact ⟨rfl, rfl⟩
      · go_enter Try.func17, Try.ntmps17
        go_wp2
        go_ret
        exact ⟨rfl, rfl⟩
    · go_enter Try.func17, Try.ntmps17
      go_wp2
      go_ret
      exact ⟨rfl, rfl⟩
  · go_enter Try.func17, Try.ntmps17
    go_wp2
    go_ret
    exact ⟨rfl, rfl⟩

end Go.Proofs.Qxb6601459a.Wk
