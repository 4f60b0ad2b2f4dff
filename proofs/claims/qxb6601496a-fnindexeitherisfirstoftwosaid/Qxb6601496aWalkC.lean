import Derived.Test.Qxb6601496aWalkB
namespace Go.Proofs.Qxb6601496a.Wk
open Go.RowKit

/-! ### indexEither (9) -/
set_option maxHeartbeats 1000000 in
theorem either_any (a : Option Addr) (n c : Nat) (B : Nat → Int) (x y : Int) (w : World) (_hn : n ≤ 1048576) (hB : ∀ i, 0 ≤ B i ∧ B i ≤ 255) (hx : 0 ≤ x ∧ x ≤ 255) (hy : 0 ≤ y ∧ y ≤ 255) (hr : RowZ w a n c B) :
    Calls Try.prog 9 #[.slice a n c, .int .u8 x, .int .u8 y] w fun e w' => w = w' ∧ ∃ r : Int, e = .returned (.int .i64 r) ∧ Pl.FirstEither B n x y r := by
  have Hx := idx_row a n c B x w hB hx hr
  have HB : Hid (∀ i, 0 ≤ B i ∧ B i ≤ 255) := hB
  have HR : Hid (RowZ w a n c B) := hr
  clear hB hr
  go_enter Try.func9, Try.ntmps9
  go_wp2_with fail
  refine Hx.mono ?_
  rintro e w' ⟨rfl, r, rfl, hf⟩
  rcases Pl.byte_cases hf with rfl | ⟨o, rfl, ho⟩
  · have HF : Hid (Pl.FirstByte B n x (-1)) := hf
    clear hf Hx
    go_wp2_with fail
    refine (idx_row a n c B y w HB.out hy HR.out).mono ?_
    rintro e w' ⟨rfl, s, rfl, hg⟩
    have HG : Hid (Pl.FirstByte B n y s) := hg
    clear hg
    go_wp2
    go_ret
    exact ⟨rfl, s, rfl, Pl.either_no HF.out HG.out⟩
  · have HF : Hid (Pl.FirstByte B n x (o : Int)) := hf
    clear hf Hx
    obtain ⟨hnc, ⟨rfl, h0, _⟩ | ⟨b, off, rfl, hc⟩⟩ := HR.out
    · omega
    · have HC : Hid (∀ i, i < n → w.cell? ⟨b, off + i, none⟩ = some (.int .u8 (B i))) := hc
      clear hc HR
      go_wp2_with fail
      refine (idx_at b off o c B y w HB.out hy (fun i hi => HC.out i (by omega))).mono ?_
      rintro e w' ⟨rfl, s, rfl, hg⟩
      rcases Pl.byte_cases hg with rfl | ⟨p, rfl, hp⟩
      · have HG : Hid (Pl.FirstByte B o y (-1)) := hg
        clear hg
        go_wp2
        go_ret
        exact ⟨rfl, o, rfl, Pl.either_at HF.out HG.out⟩
      · have HG : Hid (Pl.FirstByte B o y (p : Int)) := hg
        clear hg
        go_wp2
        go_ret
        exact ⟨rfl, p, rfl, Pl.either_before HF.out HG.out⟩

/-! ### ZZindexEither (7) -/
set_option maxHeartbeats 400000 in
theorem zzEither_any (a : Option Addr) (n c : Nat) (B : Nat → Int) (x y : Int) (w : World) (hn : n ≤ 1048576) (hB : ∀ i, 0 ≤ B i ∧ B i ≤ 255) (hx : 0 ≤ x ∧ x ≤ 255) (hy : 0 ≤ y ∧ y ≤ 255) (hr : RowZ w a n c B) :
    Calls Try.prog 7 #[.slice a n c, .int .u8 x, .int .u8 y] w fun e w' => w = w' ∧ ∃ r : Int, e = .returned (.int .i64 r) ∧ Pl.FirstEither B n x y r := by
  have H := either_any a n c B x y w hn hB hx hy hr
  clear hB hr hx hy
  go_enter Try.func7, Try.ntmps7
  go_wp2_with fail
  refine H.mono ?_
  rintro e w' ⟨rfl, r, rfl, hf⟩
  have HF : Hid (Pl.FirstEither B n x y r) := hf
  clear hf H
  go_wp2
  go_ret
  exact ⟨rfl, r, rfl, HF.out⟩

/-! ### zzBytes_.. (5, 8) -/
set_option maxHeartbeats 400000 in
theorem zzb5_le (a : Option Addr) (n cap : Nat) (x y : Int) (w : World) (hn : n ≤ 1048576) :
    Calls Try.prog 5 #[.slice a n cap, .int .u8 x, .int .u8 y] w fun e w' => e = .returned (.bool true) ∧ w = w' := by
  go_enter Try.func5, Try.ntmps5
  go_wp2
  go_ret
  exact ⟨rfl, rfl⟩

set_option maxHeartbeats 400000 in
theorem zzb5_gt (a : Option Addr) (n cap : Nat) (x y : Int) (w : World) (hn : ¬ n ≤ 1048576) :
    Calls Try.prog 5 #[.slice a n cap, .int .u8 x, .int .u8 y] w fun e w' => e = .returned (.bool false) ∧ w = w' := by
  go_enter Try.func5, Try.ntmps5
  go_wp2
  go_ret
  exact ⟨rfl, rfl⟩

set_option maxHeartbeats 400000 in
theorem zzb8_le (a : Option Addr) (n cap : Nat) (x y : Int) (w : World) (hn : n ≤ 1048576) :
    Calls Try.prog 8 #[.slice a n cap, .int .u8 x, .int .u8 y] w fun e w' => e = .returned (.bool true) ∧ w = w' := by
  go_enter Try.func8, Try.ntmps8
  go_wp2
  go_ret
  exact ⟨rfl, rfl⟩

set_option maxHeartbeats 400000 in
theorem zzb8_gt (a : Option Addr) (n cap : Nat) (x y : Int) (w : World) (hn : ¬ n ≤ 1048576) :
    Calls Try.prog 8 #[.slice a n cap, .int .u8 x, .int .u8 y] w fun e w' => e = .returned (.bool false) ∧ w = w' := by
  go_enter Try.func8, Try.ntmps8
  go_wp2
  go_ret
  exact ⟨rfl, rfl⟩

end Go.Proofs.Qxb6601496a.Wk
