import Derived.Test.Qxb6602401aWalkA
namespace Go.Proofs.Qxb6602401a.Wk
open Go.RowKit

/-! ### b1Clone (7) -/
/-- What the clone holds behind k rounds. -/
def cl (B : Nat → Int) (n k : Nat) : List Value := (List.range n).map fun j => Value.int .u8 (if j < k then B j else 0)

theorem cl_zero (B : Nat → Int) (n : Nat) : (madeCells (Value.int .u8 0).cells (n * 1)).toList = cl B n 0 := by
  rw [Nat.mul_one]
  show (madeCells #[Value.int .u8 0] n).toList = _
  rw [toList_madeCells_one]
  apply List.ext_getElem?
  intro j
  by_cases hj : j < n
  · simp [cl, hj]
  · simp [cl, hj]

theorem cl_set (B : Nat → Int) (n k : Nat) (hk : k < n) : (cl B n k).set k (.int .u8 (B k)) = cl B n (k + 1) := by
  apply List.ext_getElem?
  intro j
  rw [List.getElem?_set]
  by_cases hj : k = j
  · subst hj
    simp [cl, hk]
  · rw [if_neg hj]
    by_cases hjn : j < n
    · have e : (j < k + 1) = (j < k) := by apply propext; omega
      simp [cl, hjn, e]
    · simp [cl, hjn]

theorem cl_at (B : Nat → Int) (n k j : Nat) (hj : j < n) : (cl B n k)[j]? = some (.int .u8 (if j < k then B j else 0)) := by simp [cl, hj]

set_option maxHeartbeats 1000000 in
theorem clone_any (b off n cap : Nat) (B : Nat → Int) (w : World) (hn : n ≤ 1048576) (hc : ∀ i, i < n → w.cell? ⟨b, off + i, none⟩ = some (.int .u8 (B i))) :
    Calls Try.prog 7 #[.slice (some ⟨b, off, none⟩) n cap] w fun e w' => e = .returned (.slice (some ⟨w.heap.size, 0, none⟩) n n) ∧ (∀ i, i < n → w'.cell? ⟨w.heap.size, i, none⟩ = some (.int .u8 (B i))) ∧ Below w.heap.size w w' ∧ w.heap.size < w'.heap.size := by
  obtain ⟨i0, hi, hz0, hz1, hz2⟩ := info_parts info5
  have q22 : ∀ (w : World) (a : Option Addr) (n c n' c' : Nat), (binOp .eql 22 (.slice a n c) (.slice none n' c')).run Try.prog w = .ok (.bool a.isNone) w := fun w a n c n' c' => Lib.run_eql_slice_nil w _ _ a n c n' c' Try.underlying22
  go_enter Try.func7, Try.ntmps7
  go_wp2_with (at_make; refine wpList_make_full _ rfl _ _ 22 rfl w.heap.size 5 i0 (.int .u8 0) 1 Try.underlying22 hi hz0 hz1 .i64 .i64 _ _ n rfl rfl rfl rfl (by rw [hz2]; omega) (by unfold maxLen; omega) (Nat.le_refl _) ?_; intro w1 hown hgr)
  rw [cl_zero B n] at hown
  have hb1 : Below w.heap.size w w1 := (Below.refl _ _).grown hgr (Nat.le_refl _) (fun k h => by cases h)
  clear hgr
  go_loopw [4] (fun i wr => ∃ k : Nat, k ≤ n ∧ i = .int .i64 k ∧ wr.ownsRow w.heap.size 5 1 (.slice (some ⟨w.heap.size, 0, none⟩) n n) n (cl B n k) ∧ Below w.heap.size w wr) (fun i _ => n - (intOf i).toNat)
  case atStart => exact ⟨0, Nat.zero_le _, rfl, hown, hb1⟩
  case round =>
    obtain ⟨k, hk, rfl, hown, hb⟩ := hrel
    by_cases hlt : k < n
    · have hbw : b < w.heap.size := World.block_lt_of_cell? w ⟨b, off + k, none⟩ (hc k hlt)
      have hcx : wr.cell? ⟨b, off + k, none⟩ = some (.int .u8 (B k)) := (hb.cell (by exact hbw)).trans (hc k hlt)
      have hdx : wr.cell? ⟨w.heap.size, k, none⟩ = some (.int .u8 0) := by
        rw [hown.cellAt k (by omega), cl_at B n k k hlt, if_neg (Nat.lt_irrefl k)]
      have hfx : wr.frozen? ⟨w.heap.size, k, none⟩ = false := hown.frozenAt k
      have hst := (hown.stored k (.int .u8 (B k))).1
      rw [cl_set B n k hlt] at hst
      have hb2 : Below w.heap.size w (wr.setCell ⟨w.heap.size, k, none⟩ (.int .u8 (B k))) := hb.setCell (Nat.le_refl _) _
      clear hown hb hc
      go_wp2
      go_roundw
      case rel => exact ⟨k + 1, by omega, by go_num, hst, hb2⟩
      case measure => simp [intOf]; omega
    · obtain rfl : k = n := by omega
      have hce : ∀ i, i < k → wr.cell? ⟨w.heap.size, i, none⟩ = some (.int .u8 (B i)) := by
        intro i hi
        rw [hown.cellAt i (by omega), cl_at B k k i hi, if_pos hi]
      have hsz : w.heap.size < wr.heap.size := (hown.lt w.heap.size rfl).2
      clear hown hc
      go_wp2
      go_ret
      exact ⟨rfl, hce, hb, hsz⟩

/-! ### What the row hands over, in the walks' words -/
/-- A slice of n bytes B: where there is a byte its address is written out and its cells are known. -/
def RowAt (w : World) (a : Option Addr) (n cap : Nat) (B : Nat → Int) : Prop := n ≤ cap ∧ (n = 0 ∨ ∃ b off, a = some ⟨b, off, none⟩ ∧ ∀ i, i < n → w.cell? ⟨b, off + i, none⟩ = some (.int .u8 (B i)))

theorem row_open {w : World} {a : Option Addr} {len cap : Nat} {zs : List Int}
    (h : (a = none ∧ len = 0 ∧ cap = 0 ∧ zs = []) ∨ ∃ x, a = some x ∧ len ≤ cap ∧ cap ≤ maxLen ∧ zs.length = cap ∧ (∀ i, i < zs.length → w.cell? (x.add i) = some (.int .u8 (zs.getD i 0))) ∧ ∀ n ∈ zs, (Lit.int .u8 n).wf = true) :
    ∃ B : Nat → Int, (∀ i, 0 ≤ B i ∧ B i ≤ 255) ∧ RowAt w a len cap B := by
  rcases h with ⟨rfl, rfl, rfl, rfl⟩ | ⟨x, rfl, hl, _, hz, hc, hw⟩
  · exact ⟨fun _ => 0, fun _ => ⟨Int.le_refl 0, (by decide : (0 : Int) ≤ 255)⟩, Nat.le_refl _, .inl rfl⟩
  · refine ⟨fun i => zs.getD i 0, fun i => ?_, hl, ?_⟩
    · show 0 ≤ zs.getD i 0 ∧ zs.getD i 0 ≤ 255
      rw [List.getD_eq_getElem?_getD]
      exact range_u8 hw i
    · by_cases h0 : len = 0
      · exact .inl h0
      · refine .inr ?_
        obtain ⟨b, off, spot⟩ := x
        have hspot : spot = none := by simpa [Addr.add] using World.cell?_spot (hc 0 (by omega))
        subst hspot
        refine ⟨b, off, rfl, fun i hi => ?_⟩
        have h1 := hc i (by omega)
        have h2 : (⟨b, off, none⟩ : Addr).add i = ⟨b, off + i, none⟩ := by unfold Addr.add; split <;> simp_all
        rw [h2] at h1
        exact h1

end Go.Proofs.Qxb6602401a.Wk
