import Derived.Test.Qxb6601597aRows
import Derived.Test.Qxb6601597aPlain
import Derived.WalkKit
import Derived.WalkLawsBesides
import Derived.OpenShut
namespace Go.Proofs.Qxb6601597a.Wk
open Go.RowKit

theorem info5 : (Try.prog.info? 5).map (fun i => (i.zero, i.size, i.bytes)) = some (some (.int .u8 0), 1, 1) := by kernel_rfl
theorem info3 : (Try.prog.info? 3).map (fun i => (i.zero, i.size, i.bytes)) = some (some (.int .i64 0), 1, 8) := by kernel_rfl

/-! ### strings.IndexByte (33) -/
set_option maxHeartbeats 400000 in
set_option maxRecDepth 100000 in
theorem slite_any (s : ByteArray) (cv : Int) (w : World) :
    Calls Try.prog 34 #[.string s, .int .u8 cv] w fun e w' => e = .returned (.int .i64 (Lib.indexByte s.data.toList cv.toNat.toUInt8)) ∧ w = w' := by
  have hr := Lib.run_indexByteString (P := Try.prog) s cv w
  go_enter Try.func34, Try.ntmps34
  go_wp2
  rw [run_callFunc_extern Try.func35 (by kernel_rfl) (by kernel_rfl) (by kernel_rfl) (e := Extern.BytealgIndexByte.indexByte) (by kernel_rfl), hr]
  simp only [Result.andThen]
  rw [Oper.upon_value]
  go_wp2
  go_ret
  exact ⟨rfl, rfl⟩

set_option maxHeartbeats 400000 in
theorem sidx_any (s : ByteArray) (cv : Int) (w : World) :
    Calls Try.prog 33 #[.string s, .int .u8 cv] w fun e w' => e = .returned (.int .i64 (Lib.indexByte s.data.toList cv.toNat.toUInt8)) ∧ w = w' := by
  have H := slite_any s cv w
  go_enter Try.func33, Try.ntmps33
  go_wp2_with fail
  refine H.mono ?_
  rintro e w' ⟨rfl, rfl⟩
  go_wp2
  go_ret
  exact ⟨rfl, rfl⟩

/-- A character of the alphabet is found in it. -/
theorem al_hit (c : UInt8) (w : World) (h : Pl.isAl c = true) :
    Calls Try.prog 33 #[.string ⟨#[46, 47, 48, 49, 50, 51, 52, 53, 54, 55, 56, 57, 65, 66, 67, 68, 69, 70, 71, 72, 73, 74, 75, 76, 77, 78, 79, 80, 81, 82, 83, 84, 85, 86, 87, 88, 89, 90, 97, 98, 99, 100, 101, 102, 103, 104, 105, 106, 107, 108, 109, 110, 111, 112, 113, 114, 115, 116, 117, 118, 119, 120, 121, 122]⟩, .int .u8 (c.toNat : Int)] w fun e w' => ∃ r : Nat, e = .returned (.int .i64 (r : Int)) ∧ w = w' := by
  refine (sidx_any _ _ w).mono ?_
  rintro e w' ⟨he, hw⟩
  have h0 := Pl.index_nonneg c h
  have hc : ((c.toNat : Int).toNat).toUInt8 = c := by simp
  rw [hc] at he
  have he' : e = .returned (.int .i64 (Lib.indexByte Pl.alph c)) := he
  refine ⟨(Lib.indexByte Pl.alph c).toNat, ?_, hw⟩
  rw [he', show (((Lib.indexByte Pl.alph c).toNat : Nat) : Int) = Lib.indexByte Pl.alph c from by omega]

/-! ### inAlphabet (31), ZZInAlphabet (19) -/
set_option maxHeartbeats 1000000 in
theorem inAl_any (s : ByteArray) (w : World) (hs : s.size ≤ 1048576) (hal : ∀ i (h : i < s.size), Pl.isAl s[i] = true) :
    Calls Try.prog 31 #[.string s] w fun e w' => e = .returned (.bool true) ∧ w = w' := by
  have HA : Hid (∀ i (h : i < s.size), Pl.isAl s[i] = true) := hal
  clear hal
  go_enter Try.func31, Try.ntmps31
  go_wp2
  go_loop [3] (fun i => ∃ k : Nat, k ≤ s.size ∧ i = .int .i64 (k : Int)) (fun i => s.size - (intOf i).toNat)
  case atStart => exact ⟨0, Nat.zero_le _, rfl⟩
  case round =>
    obtain ⟨k, hk, rfl⟩ := hrel
    by_cases hlt : k < s.size
    · have H := al_hit s[k] w (HA.out k hlt)
      go_wp2_with fail
      refine H.mono ?_
      rintro e w' ⟨r, rfl, rfl⟩
      clear H
      go_wp2
      go_round
      case rel => exact ⟨k + 1, by omega, by go_num⟩
      case measure => simp [intOf]; omega
    · go_wp2
      go_ret
      exact ⟨rfl, rfl⟩

set_option maxHeartbeats 400000 in
theorem zzInAl_any (s : ByteArray) (w : World) (hs : s.size ≤ 1048576) (hal : ∀ i (h : i < s.size), Pl.isAl s[i] = true) :
    Calls Try.prog 19 #[.string s] w fun e w' => e = .returned (.bool true) ∧ w = w' := by
  have H := inAl_any s w hs hal
  clear hal
  go_enter Try.func19, Try.ntmps19
  go_wp2_with fail
  refine H.mono ?_
  rintro e w' ⟨rfl, rfl⟩
  go_wp2
  go_ret
  exact ⟨rfl, rfl⟩

/-! ### encodedLen (30), ZZEncodedLen (18) -/
set_option maxHeartbeats 400000 in
theorem encLen_any (a : Option Addr) (m c : Nat) (w : World) (hm : m ≤ 131072) :
    Calls Try.prog 30 #[.slice a m c] w fun e w' => e = .returned (.int .i64 (Pl.encLen m : Int)) ∧ w = w' := by
  have HE : Hid ((Pl.encLen m : Int) = ((m : Int) * 8 + 5) / 6) := by show _ = _; unfold Pl.encLen; omega
  go_enter Try.func30, Try.ntmps30
  go_wp2
  go_ret
  exact ⟨by rw [HE.out]; rfl, rfl⟩

set_option maxHeartbeats 400000 in
theorem zzEncLen_any (a : Option Addr) (m c : Nat) (w : World) (hm : m ≤ 131072) :
    Calls Try.prog 18 #[.slice a m c] w fun e w' => e = .returned (.int .i64 (Pl.encLen m : Int)) ∧ w = w' := by
  have H := encLen_any a m c w hm
  go_enter Try.func18, Try.ntmps18
  go_wp2_with fail
  refine H.mono ?_
  rintro e w' ⟨rfl, rfl⟩
  go_wp2
  go_ret
  exact ⟨rfl, rfl⟩

end Go.Proofs.Qxb6601597a.Wk
