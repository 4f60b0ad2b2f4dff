import Derived.Test.Qxb6601459aRows
import Derived.Test.Qxb6601459aPlain
import Derived.WalkKit
import Derived.WalkLawsBesides
import Derived.Lib.BytesEntry
namespace Go.Proofs.Qxb6601459a.Wk
open Go.RowKit

theorem info5 : (Try.prog.info? 5).map (fun i => (i.zero, i.size, i.bytes)) = some (some (.int .u8 0), 1, 1) := by kernel_rfl

/-! ### bytes.IndexByte (27) -/
set_option maxHeartbeats 400000 in
set_option maxRecDepth 100000 in
theorem idx_any (b off n c : Nat) (B : Nat → Int) (cv : Int) (w : World) (hc : ∀ i, i < n → w.cell? ⟨b, off + i, none⟩ = some (.int .u8 (B i))) :
    Calls Try.prog 27 #[.slice (some ⟨b, off, none⟩) n c, .int .u8 cv] w fun e w' => e = .returned (.int .i64 (Lib.indexByte (Lib.bytesOf (Pl.lst B n)) cv.toNat.toUInt8)) ∧ w = w' := by
  have hr := Lib.run_indexByteSlice (P := Try.prog) w b off n c (Pl.lst B n) (Pl.lst_length B n) (fun i hi => by rw [Pl.lst_getD B n i hi]; exact hc i hi) cv
  clear hc
  go_enter Try.func27, Try.ntmps27
  go_wp2
  rw [run_callFunc_extern Try.func29 (by kernel_rfl) (by kernel_rfl) (by kernel_rfl) (e := Extern.BytealgIndexByte.indexByte) (by kernel_rfl), hr]
  simp only [Result.andThen]
  rw [Oper.upon_value]
  go_wp2
  go_ret
  exact ⟨rfl, rfl⟩

/-- Where there is a quote at q the answer is the first one, at most q. -/
theorem idx_hit (b off n c q : Nat) (B : Nat → Int) (w : World) (hB : ∀ i, 0 ≤ B i ∧ B i ≤ 255) (hq : q < n) (hBq : B q = 34) (hc : ∀ i, i < n → w.cell? ⟨b, off + i, none⟩ = some (.int .u8 (B i))) :
    Calls Try.prog 27 #[.slice (some ⟨b, off, none⟩) n c, .int .u8 34] w fun e w' => ∃ o : Nat, e = .returned (.int .i64 (o : Int)) ∧ w = w' ∧ o ≤ q ∧ B o = 34 ∧ ∀ k, k < o → B k ≠ 34 := by
  refine (idx_any b off n c B 34 w hc).mono fun e w' ⟨he, hw⟩ => ?_
  rcases Pl.indexByte_spec B n hB 34 (by omega) with ⟨_, h⟩ | ⟨o, ho, hon, h1, h2⟩
  · exact absurd hBq (h q hq)
  · refine ⟨o, by rw [he, ho], hw, ?_, h1, h2⟩
    apply Classical.byContradiction
    intro hlt
    exact h2 q (by omega) hBq

end Go.Proofs.Qxb6601459a.Wk
