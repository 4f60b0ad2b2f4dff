import Derived.Test.Qxb6602401aRows
import Derived.Test.Qxb6602401aPlain
import Derived.WalkKit
import Derived.WalkLawsBesides
import Derived.Lib.BytesEntry
import Derived.OpenShut
namespace Go.Proofs.Qxb6602401a.Wk
open Go.RowKit

theorem info5 : (Try.prog.info? 5).map (fun i => (i.zero, i.size, i.bytes)) = some (some (.int .u8 0), 1, 1) := by kernel_rfl

/-! ### bytes.IndexByte (18) -/
set_option maxHeartbeats 400000 in
set_option maxRecDepth 100000 in
theorem idx_any (b off n c : Nat) (B : Nat → Int) (cv : Int) (w : World) (hc : ∀ i, i < n → w.cell? ⟨b, off + i, none⟩ = some (.int .u8 (B i))) :
    Calls Try.prog 18 #[.slice (some ⟨b, off, none⟩) n c, .int .u8 cv] w fun e w' => e = .returned (.int .i64 (Lib.indexByte (Lib.bytesOf (Pl.lst B n)) cv.toNat.toUInt8)) ∧ w = w' := by
  have hr := Lib.run_indexByteSlice (P := Try.prog) w b off n c (Pl.lst B n) (Pl.lst_length B n) (fun i hi => by rw [Pl.lst_getD B n i hi]; exact hc i hi) cv
  clear hc
  go_enter Try.func18, Try.ntmps18
  go_wp2
  rw [run_callFunc_extern Try.func20 (by kernel_rfl) (by kernel_rfl) (by kernel_rfl) (e := Extern.BytealgIndexByte.indexByte) (by kernel_rfl), hr]
  simp only [Result.andThen]
  rw [Oper.upon_value]
  go_wp2
  go_ret
  exact ⟨rfl, rfl⟩

end Go.Proofs.Qxb6602401a.Wk
