import Derived.Test.Qxb6601597aWalkA
namespace Go.Proofs.Qxb6601597a.Wk
open Go.RowKit

/-- What the clone holds behind k rounds. -/
def cl (q : IntKind) (B : Nat → Int) (n k : Nat) : List Value := (List.range n).map fun j => Value.int q (if j < k then B j else 0)

theorem cl_zero (q : IntKind) (B : Nat → Int) (n : Nat) : (madeCells (Value.int q 0).cells (n * 1)).toList = cl q B n 0 := by
  rw [Nat.mul_one]
  show (madeCells #[Value.int q 0] n).toList = _
  rw [toList_madeCells_one]
  apply List.ext_getElem?
  intro j
  by_cases hj : j < n
  · simp [cl, hj]
  · simp [cl, hj]

theorem cl_set (q : IntKind) (B : Nat → Int) (n k : Nat) (hk : k < n) : (cl q B n k).set k (.int q (B k)) = cl q B n (k + 1) := by
  apply List.ext_getElem?
  intro j
  rw [List.getElem?_set]
  by_cases hj : k = j
  · subst hj
    simp [cl, hk]
  · rw [if_neg hj]
    by_cases hjn : j < n
    · have e : (j < k + 1) = (j < k) := by apply propext; omega
      simp [cl, hjn, e]
    · simp [cl, hjn]

theorem cl_at (q : IntKind) (B : Nat → Int) (n k j : Nat) (hj : j < n) : (cl q B n k)[j]? = some (.int q (if j < k then B j else 0)) := by simp [cl, hj]

/-! ### cloneBytes (14) -/
set_option maxHeartbeats 1000000 in
theorem cloneB_any (b off n cap : Nat) (B : Nat → Int) (w : World) (hn : n ≤ 1048576) (hc : ∀ i, i < n → w.cell? ⟨b, off + i, none⟩ = some (.int .u8 (B i))) :
    Calls Try.prog 14 #[.slice (some ⟨b, off, none⟩) n cap] w fun e w' => e = .returned (.slice (some ⟨w.heap.size, 0, none⟩) n n) ∧ (∀ i, i < n → w'.cell? ⟨w.heap.size, i, none⟩ = some (.int .u8 (B i))) ∧ Below w.heap.size w w' ∧ w.heap.size < w'.heap.size := by
  obtain ⟨i0, hi, hz0, hz1, hz2⟩ := info_parts info5
  have q23 : ∀ (w : World) (a : Option Addr) (n c n' c' : Nat), (binOp .eql 23 (.slice a n c) (.slice none n' c')).run Try.prog w = .ok (.bool a.isNone) w := fun w a n c n' c' => Lib.run_eql_slice_nil w _ _ a n c n' c' Try.underlying23
  go_enter Try.func14, Try.ntmps14
  go_wp2_with (at_make; refine wpList_make_full _ rfl _ _ 23 rfl w.heap.size 5 i0 (.int .u8 0) 1 Try.underlying23 hi hz0 hz1 .i64 .i64 _ _ n rfl rfl rfl rfl (by rw [hz2]; omega) (by unfold maxLen; omega) (Nat.le_refl _) ?_; intro w1 hown hgr)
  rw [cl_zero .u8 B n] at hown
  have hb1 : Below w.heap.size w w1 := (Below.refl _ _).grown hgr (Nat.le_refl _) (fun k h => by cases h)
  clear hgr
  go_loopw [4] (fun i wr => ∃ k : Nat, k ≤ n ∧ i = .int .i64 k ∧ wr.ownsRow w.heap.size 5 1 (.slice (some ⟨w.heap.size, 0, none⟩) n n) n (cl .u8 B n k) ∧ Below w.heap.size w wr) (fun i _ => n - (intOf i).toNat)
  case atStart => exact ⟨0, Nat.zero_le _, rfl, hown, hb1⟩
  case round =>
    obtain ⟨k, hk, rfl, hown, hb⟩ := hrel
    by_cases hlt : k < n
    · have hbw : b < w.heap.size := World.block_lt_of_cell? w ⟨b, off + k, none⟩ (hc k hlt)
      have hcx : wr.cell? ⟨b, off + k, none⟩ = some (.int .u8 (B k)) := (hb.cell (by exact hbw)).trans (hc k hlt)
      have hdx : wr.cell? ⟨w.heap.size, k, none⟩ = some (.int .u8 0) := by
        rw [hown.cellAt k (by omega), cl_at .u8 B n k k hlt, if_neg (Nat.lt_irrefl k)]
      have hfx : wr.frozen? ⟨w.heap.size, k, none⟩ = false := hown.frozenAt k
      have hst := (hown.stored k (.int .u8 (B k))).1
      rw [cl_set .u8 B n k hlt] at hst
      have hb2 : Below w.heap.size w (wr.setCell ⟨w.heap.size, k, none⟩ (.int .u8 (B k))) := hb.setCell (Nat.le_refl _) _
      clear hown hb hc
      go_wp2
      go_roundw
      case rel => exact ⟨k + 1, by omega, by go_num, hst, hb2⟩
      case measure => simp [intOf]; omega
    · obtain rfl : k = n := by omega
      have hce : ∀ i, i < k → wr.cell? ⟨w.heap.size, i, none⟩ = some (.int .u8 (B i)) := by
        intro i hi
        rw [hown.cellAt i (by omega), cl_at .u8 B k k i hi, if_pos hi]
      have hsz : w.heap.size < wr.heap.size := (hown.lt w.heap.size rfl).2
      clear hown hc
      go_wp2
      go_ret
      exact ⟨rfl, hce, hb, hsz⟩

set_option maxHeartbeats 1000000 in
theorem cloneB_nil (cap : Nat) (w : World) :
    Calls Try.prog 14 #[.slice none 0 cap] w fun e w' => e = .returned (.slice none 0 0) ∧ w = w' := by
  have q23 : ∀ (w : World) (a : Option Addr) (n c n' c' : Nat), (binOp .eql 23 (.slice a n c) (.slice none n' c')).run Try.prog w = .ok (.bool a.isNone) w := fun w a n c n' c' => Lib.run_eql_slice_nil w _ _ a n c n' c' Try.underlying23
  go_enter Try.func14, Try.ntmps14
  go_wp2
  go_ret
  exact ⟨rfl, rfl⟩

set_option maxHeartbeats 1000000 in
theorem cloneB_empty (x : Addr) (cap : Nat) (w : World) :
    Calls Try.prog 14 #[.slice (some x) 0 cap] w fun e w' => e = .returned (.slice (some ⟨w.heap.size, 0, none⟩) 0 0) ∧ Below w.heap.size w w' := by
  obtain ⟨i0, hi, hz0, hz1, hz2⟩ := info_parts info5
  have q23 : ∀ (w : World) (a : Option Addr) (n c n' c' : Nat), (binOp .eql 23 (.slice a n c) (.slice none n' c')).run Try.prog w = .ok (.bool a.isNone) w := fun w a n c n' c' => Lib.run_eql_slice_nil w _ _ a n c n' c' Try.underlying23
  go_enter Try.func14, Try.ntmps14
  go_wp2_with (at_make; refine wpList_make_full _ rfl _ _ 23 rfl w.heap.size 5 i0 (.int .u8 0) 1 Try.underlying23 hi hz0 hz1 .i64 .i64 _ _ 0 rfl rfl rfl rfl (by rw [hz2]; omega) (by unfold maxLen; omega) (Nat.le_refl _) ?_; intro w1 hown hgr)
  have hb1 : Below w.heap.size w w1 := (Below.refl _ _).grown hgr (Nat.le_refl _) (fun k h => by cases h)
  clear hgr hown
  refine wp_loop_rounds 1 ?_
  rw [rounds_succ]
  go_wp2
  go_ret
  exact ⟨rfl, hb1⟩

/-! ### cloneInts (13) -/
set_option maxHeartbeats 1000000 in
theorem cloneI_any (b off n cap : Nat) (B : Nat → Int) (w : World) (hn : n ≤ 1048576) (hc : ∀ i, i < n → w.cell? ⟨b, off + i, none⟩ = some (.int .i64 (B i))) :
    Calls Try.prog 13 #[.slice (some ⟨b, off, none⟩) n cap] w fun e w' => e = .returned (.slice (some ⟨w.heap.size, 0, none⟩) n n) ∧ (∀ i, i < n → w'.cell? ⟨w.heap.size, i, none⟩ = some (.int .i64 (B i))) ∧ Below w.heap.size w w' ∧ w.heap.size < w'.heap.size := by
  obtain ⟨i0, hi, hz0, hz1, hz2⟩ := info_parts info3
  have q22 : ∀ (w : World) (a : Option Addr) (n c n' c' : Nat), (binOp .eql 22 (.slice a n c) (.slice none n' c')).run Try.prog w = .ok (.bool a.isNone) w := fun w a n c n' c' => Lib.run_eql_slice_nil w _ _ a n c n' c' Try.underlying22
  go_enter Try.func13, Try.ntmps13
  go_wp2_with (at_make; refine wpList_make_full _ rfl _ _ 22 rfl w.heap.size 3 i0 (.int .i64 0) 1 Try.underlying22 hi hz0 hz1 .i64 .i64 _ _ n rfl rfl rfl rfl (by rw [hz2]; omega) (by unfold maxLen; omega) (Nat.le_refl _) ?_; intro w1 hown hgr)
  rw [cl_zero .i64 B n] at hown
  have hb1 : Below w.heap.size w w1 := (Below.refl _ _).grown hgr (Nat.le_refl _) (fun k h => by cases h)
  clear hgr
  go_loopw [4] (fun i wr => ∃ k : Nat, k ≤ n ∧ i = .int .i64 k ∧ wr.ownsRow w.heap.size 3 1 (.slice (some ⟨w.heap.size, 0, none⟩) n n) n (cl .i64 B n k) ∧ Below w.heap.size w wr) (fun i _ => n - (intOf i).toNat)
  case atStart => exact ⟨0, Nat.zero_le _, rfl, hown, hb1⟩
  case round =>
    obtain ⟨k, hk, rfl, hown, hb⟩ := hrel
    by_cases hlt : k < n
    · have hbw : b < w.heap.size := World.block_lt_of_cell? w ⟨b, off + k, none⟩ (hc k hlt)
      have hcx : wr.cell? ⟨b, off + k, none⟩ = some (.int .i64 (B k)) := (hb.cell (by exact hbw)).trans (hc k hlt)
      have hdx : wr.cell? ⟨w.heap.size, k, none⟩ = some (.int .i64 0) := by
        rw [hown.cellAt k (by omega), cl_at .i64 B n k k hlt, if_neg (Nat.lt_irrefl k)]
      have hfx : wr.frozen? ⟨w.heap.size, k, none⟩ = false := hown.frozenAt k
      have hst := (hown.stored k (.int .i64 (B k))).1
      rw [cl_set .i64 B n k hlt] at hst
      have hb2 : Below w.heap.size w (wr.setCell ⟨w.heap.size, k, none⟩ (.int .i64 (B k))) := hb.setCell (Nat.le_refl _) _
      clear hown hb hc
      go_wp2
      go_roundw
      case rel => exact ⟨k + 1, by omega, by go_num, hst, hb2⟩
      case measure => simp [intOf]; omega
    · obtain rfl : k = n := by omega
      have hce : ∀ i, i < k → wr.cell? ⟨w.heap.size, i, none⟩ = some (.int .i64 (B i)) := by
        intro i hi
        rw [hown.cellAt i (by omega), cl_at .i64 B k k i hi, if_pos hi]
      have hsz : w.heap.size < wr.heap.size := (hown.lt w.heap.size rfl).2
      clear hown hc
      go_wp2
      go_ret
      exact ⟨rfl, hce, hb, hsz⟩

set_option maxHeartbeats 1000000 in
theorem cloneI_nil (cap : Nat) (w : World) :
    Calls Try.prog 13 #[.slice none 0 cap] w fun e w' => e = .returned (.slice none 0 0) ∧ w = w' := by
  have q22 : ∀ (w : World) (a : Option Addr) (n c n' c' : Nat), (binOp .eql 22 (.slice a n c) (.slice none n' c')).run Try.prog w = .ok (.bool a.isNone) w := fun w a n c n' c' => Lib.run_eql_slice_nil w _ _ a n c n' c' Try.underlying22
  go_enter Try.func13, Try.ntmps13
  go_wp2
  go_ret
  exact ⟨rfl, rfl⟩

set_option maxHeartbeats 1000000 in
theorem cloneI_empty (x : Addr) (cap : Nat) (w : World) :
    Calls Try.prog 13 #[.slice (some x) 0 cap] w fun e w' => e = .returned (.slice (some ⟨w.heap.size, 0, none⟩) 0 0) ∧ Below w.heap.size w w' := by
  obtain ⟨i0, hi, hz0, hz1, hz2⟩ := info_parts info3
  have q22 : ∀ (w : World) (a : Option Addr) (n c n' c' : Nat), (binOp .eql 22 (.slice a n c) (.slice none n' c')).run Try.prog w = .ok (.bool a.isNone) w := fun w a n c n' c' => Lib.run_eql_slice_nil w _ _ a n c n' c' Try.underlying22
  go_enter Try.func13, Try.ntmps13
  go_wp2_with (at_make; refine wpList_make_full _ rfl _ _ 22 rfl w.heap.size 3 i0 (.int .i64 0) 1 Try.underlying22 hi hz0 hz1 .i64 .i64 _ _ 0 rfl rfl rfl rfl (by rw [hz2]; omega) (by unfold maxLen; omega) (Nat.le_refl _) ?_; intro w1 hown hgr)
  have hb1 : Below w.heap.size w w1 := (Below.refl _ _).grown hgr (Nat.le_refl _) (fun k h => by cases h)
  clear hgr hown
  refine wp_loop_rounds 1 ?_
  rw [rounds_succ]
  go_wp2
  go_ret
  exact ⟨rfl, hb1⟩

/-! ### What the row hands over, in the walks' words -/
/-- A slice of n bytes B: where there is a byte its address is written out and its cells are known. -/
def RowAt (q : IntKind) (w : World) (a : Option Addr) (n cap : Nat) (B : Nat → Int) : Prop := n ≤ cap ∧ (n = 0 ∨ ∃ b off, a = some ⟨b, off, none⟩ ∧ ∀ i, i < n → w.cell? ⟨b, off + i, none⟩ = some (.int q (B i)))

theorem row_open {q : IntKind} {w : World} {a : Option Addr} {len cap : Nat} {zs : List Int}
    (h : (a = none ∧ len = 0 ∧ cap = 0 ∧ zs = []) ∨ ∃ x, a = some x ∧ len ≤ cap ∧ cap ≤ maxLen ∧ zs.length = cap ∧ (∀ i, i < zs.length → w.cell? (x.add i) = some (.int q (zs.getD i 0))) ∧ ∀ n ∈ zs, (Lit.int q n).wf = true) :
    ∃ B : Nat → Int, (∀ i, i < cap → (Lit.int q (B i)).wf = true) ∧ RowAt q w a len cap B := by
  rcases h with ⟨rfl, rfl, rfl, rfl⟩ | ⟨x, rfl, hl, _, hz, hc, hw⟩
  · exact ⟨fun _ => 0, fun i hi => absurd hi (Nat.not_lt_zero i), Nat.le_refl _, .inl rfl⟩
  · refine ⟨fun i => zs.getD i 0, fun i => ?_, hl, ?_⟩
    · intro hi
      have hi' : i < zs.length := by omega
      show (Lit.int q (zs.getD i 0)).wf = true
      rw [List.getD_eq_getElem?_getD, List.getElem?_eq_getElem hi']
      exact hw _ (List.getElem_mem hi')
    · by_cases h0 : len = 0
      · exact .inl h0
      · refine .inr ?_
        obtain ⟨b, off, spot⟩ := x
        have hspot : spot = none := by simpa [Addr.add] using World.cell?_spot (hc 0 (by omega))
        subst hspot
        refine ⟨b, off, rfl, fun i hi => ?_⟩
        have h1 := hc i (by omega)
        have h2 : (⟨b, off, none⟩ : Addr).add i = ⟨b, off + i, none⟩ := by unfold Addr.add; split <;> simp_all
        rw [h2] at h1
        exact h1

theorem RowAt.below {q : IntKind} {w w' : World} {a : Option Addr} {n cap : Nat} {B : Nat → Int} (h : RowAt q w a n cap B) (hb : Below w.heap.size w w') : RowAt q w' a n cap B := by
  obtain ⟨h1, h2 | ⟨b, off, h3, h4⟩⟩ := h
  · exact ⟨h1, .inl h2⟩
  · refine ⟨h1, .inr ⟨b, off, h3, fun i hi => ?_⟩⟩
    exact (hb.cell (p := ⟨b, off + i, none⟩) (World.block_lt_of_cell? w ⟨b, off + i, none⟩ (h4 i hi))).trans (h4 i hi)

/-- A row's cell in a later world. -/
theorem row_cell {q : IntKind} {w wr : World} {a : Option Addr} {n cap k : Nat} {B : Nat → Int} (hr : RowAt q w a n cap B) (hk : k < n) (hb : Below w.heap.size w wr) : ∃ b off, a = some ⟨b, off, none⟩ ∧ wr.cell? ⟨b, off + k, none⟩ = some (.int q (B k)) := by
  rcases (hr.below hb).2 with h | ⟨b, off, h1, h2⟩
  · omega
  · exact ⟨b, off, h1, h2 k hk⟩

theorem below_then {w w1 w2 : World} (h : Below w.heap.size w w1) (k : Below w1.heap.size w1 w2) : Below w.heap.size w w2 := h.trans (k.mono h.size)

theorem cloneB_row (a : Option Addr) (n cap : Nat) (B : Nat → Int) (w : World) (hn : n ≤ 1048576) (hr : RowAt .u8 w a n cap B) :
    Calls Try.prog 14 #[.slice a n cap] w fun e w' => ∃ a', e = .returned (.slice a' n n) ∧ RowAt .u8 w' a' n n B ∧ Below w.heap.size w w' := by
  cases a with
  | none =>
    obtain rfl : n = 0 := by rcases hr.2 with h | ⟨_, _, h, _⟩; exact h; cases h
    refine (cloneB_nil cap w).mono fun e w' ⟨he, hw⟩ => ?_
    subst hw
    exact ⟨none, he, ⟨Nat.le_refl _, .inl rfl⟩, Below.refl _ _⟩
  | some x =>
    rcases hr.2 with rfl | ⟨b, off, hx, hc⟩
    · refine (cloneB_empty x cap w).mono fun e w' ⟨he, hb⟩ => ?_
      exact ⟨_, he, ⟨Nat.le_refl _, .inl rfl⟩, hb⟩
    · cases hx
      refine (cloneB_any b off n cap B w hn hc).mono fun e w' ⟨he, hc1, hb, _⟩ => ?_
      exact ⟨_, he, ⟨Nat.le_refl _, .inr ⟨_, 0, rfl, fun i hi => by rw [Nat.zero_add]; exact hc1 i hi⟩⟩, hb⟩

theorem cloneI_row (a : Option Addr) (n cap : Nat) (B : Nat → Int) (w : World) (hn : n ≤ 1048576) (hr : RowAt .i64 w a n cap B) :
    Calls Try.prog 13 #[.slice a n cap] w fun e w' => ∃ a', e = .returned (.slice a' n n) ∧ RowAt .i64 w' a' n n B ∧ Below w.heap.size w w' := by
  cases a with
  | none =>
    obtain rfl : n = 0 := by rcases hr.2 with h | ⟨_, _, h, _⟩; exact h; cases h
    refine (cloneI_nil cap w).mono fun e w' ⟨he, hw⟩ => ?_
    subst hw
    exact ⟨none, he, ⟨Nat.le_refl _, .inl rfl⟩, Below.refl _ _⟩
  | some x =>
    rcases hr.2 with rfl | ⟨b, off, hx, hc⟩
    · refine (cloneI_empty x cap w).mono fun e w' ⟨he, hb⟩ => ?_
      exact ⟨_, he, ⟨Nat.le_refl _, .inl rfl⟩, hb⟩
    · cases hx
      refine (cloneI_any b off n cap B w hn hc).mono fun e w' ⟨he, hc1, hb, _⟩ => ?_
      exact ⟨_, he, ⟨Nat.le_refl _, .inr ⟨_, 0, rfl, fun i hi => by rw [Nat.zero_add]; exact hc1 i hi⟩⟩, hb⟩

/-! ### indicesIn (12) -/
set_option maxHeartbeats 1000000 in
theorem indIn_any (a : Option Addr) (m cap n : Nat) (E : Nat → Int) (w : World) (hm : m ≤ 131072) (hr : RowAt .i64 w a m cap E) :
    Calls Try.prog 12 #[.slice a m cap, .int .i64 (n : Int)] w fun e w' => w = w' ∧ (e = .returned (.bool false) ∨ (e = .returned (.bool true) ∧ ∀ k, k < m → 0 ≤ E k ∧ E k < n)) := by
  have HR : Hid (RowAt .i64 w a m cap E) := hr
  clear hr
  go_enter Try.func12, Try.ntmps12
  go_wp2
  go_loop [5] (fun i => ∃ k : Nat, k ≤ m ∧ i = .int .i64 (k : Int) ∧ ∀ j, j < k → 0 ≤ E j ∧ E j < n) (fun i => m - (intOf i).toNat)
  case atStart => exact ⟨0, Nat.zero_le _, rfl, fun j hj => by omega⟩
  case round =>
    obtain ⟨k, hk, rfl, hall⟩ := hrel
    have HA : Hid (∀ j, j < k → 0 ≤ E j ∧ E j < n) := hall
    clear hall
    by_cases hlt : k < m
    · obtain ⟨b, off, rfl, hcx⟩ := row_cell HR.out hlt (Below.refl _ _)
      by_cases h1 : E k < 0
      · go_wp2
        go_ret
        exact ⟨rfl, .inl rfl⟩
      · by_cases h2 : (n : Int) ≤ E k
        · go_wp2
          go_ret
          exact ⟨rfl, .inl rfl⟩
        · have HA2 : Hid (∀ j, j < k + 1 → 0 ≤ E j ∧ E j < n) := fun j hj => by
            by_cases hjk : j < k
            · exact HA.out j hjk
            · obtain rfl : j = k := by omega
              exact ⟨by omega, by omega⟩
          go_wp2
          go_round
          case rel => exact ⟨k + 1, by omega, by go_num, HA2.out⟩
          case measure => simp [intOf]; omega
    · have HA2 : Hid (∀ j, j < m → 0 ≤ E j ∧ E j < n) := fun j hj => HA.out j (by omega)
      go_wp2
      go_ret
      exact ⟨rfl, .inr ⟨rfl, HA2.out⟩⟩

end Go.Proofs.Qxb6601597a.Wk
