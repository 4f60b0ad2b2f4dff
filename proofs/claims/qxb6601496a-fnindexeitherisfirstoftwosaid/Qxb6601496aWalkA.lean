import Derived.Test.Qxb6601496aRows
import Derived.Test.Qxb6601496aPlain
import Derived.WalkKit
import Derived.WalkLawsBesides
import Derived.OpenShut
import Derived.Lib.BytesEntry
namespace Go.Proofs.Qxb6601496a.Wk
open Go.RowKit

theorem info5 : (Try.prog.info? 5).map (fun i => (i.zero, i.size, i.bytes)) = some (some (.int .u8 0), 1, 1) := by kernel_rfl

/-- A slice of n bytes B that the walks read: nil, or at an address that is written out, its cells known. -/
def RowZ (w : World) (a : Option Addr) (n cap : Nat) (B : Nat → Int) : Prop :=
  n ≤ cap ∧ ((a = none ∧ n = 0 ∧ cap = 0) ∨ ∃ b off, a = some ⟨b, off, none⟩ ∧ ∀ i, i < n → w.cell? ⟨b, off + i, none⟩ = some (.int .u8 (B i)))

/-! ### bytes.IndexByte (10) -/
set_option maxHeartbeats 400000 in
set_option maxRecDepth 100000 in
theorem idx_at (b off n c : Nat) (B : Nat → Int) (cv : Int) (w : World) (hB : ∀ i, 0 ≤ B i ∧ B i ≤ 255) (hcv : 0 ≤ cv ∧ cv ≤ 255) (hc : ∀ i, i < n → w.cell? ⟨b, off + i, none⟩ = some (.int .u8 (B i))) :
    Calls Try.prog 10 #[.slice (some ⟨b, off, none⟩) n c, .int .u8 cv] w fun e w' => w = w' ∧ ∃ r : Int, e = .returned (.int .i64 r) ∧ Pl.FirstByte B n cv r := by
  have HS : Hid (Pl.FirstByte B n cv (Lib.indexByte (Lib.bytesOf (Pl.lst B n)) cv.toNat.toUInt8)) := Pl.indexByte_spec B n hB cv hcv
  have hr := Lib.run_indexByteSlice (P := Try.prog) w b off n c (Pl.lst B n) (Pl.lst_length B n) (fun i hi => by rw [Pl.lst_getD B n i hi]; exact hc i hi) cv
  clear hc hB hcv
  go_enter Try.func10, Try.ntmps10
  go_wp2
  rw [run_callFunc_extern Try.func11 (by kernel_rfl) (by kernel_rfl) (by kernel_rfl) (e := Extern.BytealgIndexByte.indexByte) (by kernel_rfl), hr]
  simp only [Result.andThen]
  rw [Oper.upon_value]
  go_wp2
  go_ret
  exact ⟨rfl, _, rfl, HS.out⟩

set_option maxHeartbeats 400000 in
set_option maxRecDepth 100000 in
theorem idx_nil (B : Nat → Int) (cv : Int) (w : World) :
    Calls Try.prog 10 #[.slice none 0 0, .int .u8 cv] w fun e w' => w = w' ∧ ∃ r : Int, e = .returned (.int .i64 r) ∧ Pl.FirstByte B 0 cv r := by
  have HS : Hid (Pl.FirstByte B 0 cv (-1)) := .inl ⟨rfl, fun k hk => by omega⟩
  go_enter Try.func10, Try.ntmps10
  go_wp2
  rw [run_callFunc_extern Try.func11 (by kernel_rfl) (by kernel_rfl) (by kernel_rfl) (e := Extern.BytealgIndexByte.indexByte) (by kernel_rfl), Lib.run_indexByteNil w 0 0 cv]
  simp only [Result.andThen]
  rw [Oper.upon_value]
  go_wp2
  go_ret
  exact ⟨rfl, _, rfl, HS.out⟩

theorem idx_row (a : Option Addr) (n c : Nat) (B : Nat → Int) (cv : Int) (w : World) (hB : ∀ i, 0 ≤ B i ∧ B i ≤ 255) (hcv : 0 ≤ cv ∧ cv ≤ 255) (hr : RowZ w a n c B) :
    Calls Try.prog 10 #[.slice a n c, .int .u8 cv] w fun e w' => w = w' ∧ ∃ r : Int, e = .returned (.int .i64 r) ∧ Pl.FirstByte B n cv r := by
  rcases hr.2 with ⟨rfl, rfl, rfl⟩ | ⟨b, off, rfl, hc⟩
  · exact idx_nil B cv w
  · exact idx_at b off n c B cv w hB hcv hc

end Go.Proofs.Qxb6601496a.Wk
