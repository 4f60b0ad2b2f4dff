import Derived.Test.Qxb6601459aWalkD
namespace Go.Proofs.Qxb6601459a.Wk
open Go.RowKit

theorem RowAt.below {w w' : World} {a : Option Addr} {n cap : Nat} {B : Nat → Int} (h : RowAt w a n cap B) (hb : Below w.heap.size w w') : RowAt w' a n cap B := by
  obtain ⟨h1, h2 | ⟨b, off, h3, h4⟩⟩ := h
  · exact ⟨h1, .inl h2⟩
  · refine ⟨h1, .inr ⟨b, off, h3, fun i hi => ?_⟩⟩
    exact (hb.cell (p := ⟨b, off + i, none⟩) (World.block_lt_of_cell? w ⟨b, off + i, none⟩ (h4 i hi))).trans (h4 i hi)

theorem RowAt.cells {w : World} {b off n cap : Nat} {B : Nat → Int} (h : RowAt w (some ⟨b, off, none⟩) n cap B) : ∀ i, i < n → w.cell? ⟨b, off + i, none⟩ = some (.int .u8 (B i)) := by
  rcases h.2 with h2 | ⟨b', off', h3, h4⟩
  · intro i hi; omega
  · cases h3; exact h4

theorem RowAt.of {w : World} {b n : Nat} {B : Nat → Int} (h : ∀ i, i < n → w.cell? ⟨b, i, none⟩ = some (.int .u8 (B i))) : RowAt w (some ⟨b, 0, none⟩) n n B :=
  ⟨Nat.le_refl _, .inr ⟨b, 0, rfl, fun i hi => by rw [Nat.zero_add]; exact h i hi⟩⟩

/-- Two steps of memory made. -/
theorem below_then {w w1 w2 : World} (h : Below w.heap.size w w1) (k : Below w1.heap.size w1 w2) : Below w.heap.size w w2 := h.trans (k.mono h.size)

/-! ### cloneBytes (9), of whatever row -/
set_option maxHeartbeats 1000000 in
theorem clone_nil (cap : Nat) (w : World) :
    Calls Try.prog 9 #[.slice none 0 cap] w fun e w' => e = .returned (.slice none 0 0) ∧ w = w' := by
  have q22 : ∀ (w : World) (a : Option Addr) (n c n' c' : Nat), (binOp .eql 22 (.slice a n c) (.slice none n' c')).run Try.prog w = .ok (.bool a.isNone) w := fun w a n c n' c' => Lib.run_eql_slice_nil w _ _ a n c n' c' Try.underlying22
  go_enter Try.func9, Try.ntmps9
  go_wp2
  go_ret
  exact ⟨rfl, rfl⟩

set_option maxHeartbeats 1000000 in
theorem clone_empty (x : Addr) (cap : Nat) (w : World) :
    Calls Try.prog 9 #[.slice (some x) 0 cap] w fun e w' => e = .returned (.slice (some ⟨w.heap.size, 0, none⟩) 0 0) ∧ Below w.heap.size w w' := by
  obtain ⟨i0, hi, hz0, hz1, hz2⟩ := info_parts info5
  have q22 : ∀ (w : World) (a : Option Addr) (n c n' c' : Nat), (binOp .eql 22 (.slice a n c) (.slice none n' c')).run Try.prog w = .ok (.bool a.isNone) w := fun w a n c n' c' => Lib.run_eql_slice_nil w _ _ a n c n' c' Try.underlying22
  go_enter Try.func9, Try.ntmps9
  go_wp2_with (at_make; refine wpList_make_full _ rfl _ _ 22 rfl w.heap.size 5 i0 (.int .u8 0) 1 Try.underlying22 hi hz0 hz1 .i64 .i64 _ _ 0 rfl rfl rfl rfl (by rw [hz2]; omega) (by unfold maxLen; omega) (Nat.le_refl _) ?_; intro w1 hown hgr)
  have hb1 : Below w.heap.size w w1 := (Below.refl _ _).grown hgr (Nat.le_refl _) (fun k h => by cases h)
  clear hgr hown
  refine wp_loop_rounds 1 ?_
  rw [rounds_succ]
  go_wp2
  go_ret
  exact ⟨rfl, hb1⟩

theorem clone_row (a : Option Addr) (n cap : Nat) (B : Nat → Int) (w : World) (hn : n ≤ 1048576) (hr : RowAt w a n cap B) :
    Calls Try.prog 9 #[.slice a n cap] w fun e w' => ∃ a', e = .returned (.slice a' n n) ∧ RowAt w' a' n n B ∧ Below w.heap.size w w' := by
  cases a with
  | none =>
    obtain rfl : n = 0 := by rcases hr.2 with h | ⟨_, _, h, _⟩; exact h; cases h
    refine (clone_nil cap w).mono fun e w' ⟨he, hw⟩ => ?_
    subst hw
    exact ⟨none, he, ⟨Nat.le_refl _, .inl rfl⟩, Below.refl _ _⟩
  | some x =>
    rcases hr.2 with rfl | ⟨b, off, hx, hc⟩
    · refine (clone_empty x cap w).mono fun e w' ⟨he, hb⟩ => ?_
      exact ⟨_, he, ⟨Nat.le_refl _, .inl rfl⟩, hb⟩
    · cases hx
      refine (clone_any b off n cap B w hn hc).mono fun e w' ⟨he, hc1, hb, _⟩ => ?_
      exact ⟨_, he, ⟨Nat.le_refl _, .inr ⟨_, 0, rfl, fun i hi => by rw [Nat.zero_add]; exact hc1 i hi⟩⟩, hb⟩

/-! ### concat3 (13) -/
def cat (A B D : Nat → Int) (n1 n2 : Nat) (i : Nat) : Int := if i < n1 then A i else if i < n1 + n2 then B (i - n1) else D (i - n1 - n2)

theorem cat_1 {A B D : Nat → Int} {n1 n2 k : Nat} (h : k < n1) : cat A B D n1 n2 k = A k := by unfold cat; rw [if_pos h]
theorem cat_2 {A B D : Nat → Int} {n1 n2 k : Nat} (h : k < n2) : cat A B D n1 n2 (n1 + k) = B k := by
  unfold cat
  rw [if_neg (by omega), if_pos (by omega), show n1 + k - n1 = k from by omega]
theorem cat_3 {A B D : Nat → Int} {n1 n2 k : Nat} : cat A B D n1 n2 (n1 + n2 + k) = D k := by
  unfold cat
  rw [if_neg (by omega), if_neg (by omega), show n1 + n2 + k - n1 - n2 = k from by omega]

theorem cat_bd {A B D : Nat → Int} {n1 n2 : Nat} (hA : ∀ i, 0 ≤ A i ∧ A i ≤ 255) (hB : ∀ i, 0 ≤ B i ∧ B i ≤ 255) (hD : ∀ i, 0 ≤ D i ∧ D i ≤ 255) : ∀ i, 0 ≤ cat A B D n1 n2 i ∧ cat A B D n1 n2 i ≤ 255 := by
  intro i
  unfold cat
  split
  · exact hA i
  · split
    · exact hB _
    · exact hD _

/-- One store of the concatenation: what the round needs and what it leaves. -/
theorem cat_round {w wr : World} {N k : Nat} {C : Nat → Int} {x : Int} (hk : k < N) (hx : C k = x) (hown : wr.ownsRow w.heap.size 5 1 (.slice (some ⟨w.heap.size, 0, none⟩) N N) N (cl C N k)) (hb : Below w.heap.size w wr) :
    wr.cell? ⟨w.heap.size, k, none⟩ = some (.int .u8 0) ∧ wr.frozen? ⟨w.heap.size, k, none⟩ = false ∧
    Hid ((wr.setCell ⟨w.heap.size, k, none⟩ (.int .u8 x)).ownsRow w.heap.size 5 1 (.slice (some ⟨w.heap.size, 0, none⟩) N N) N (cl C N (k + 1)) ∧ Below w.heap.size w (wr.setCell ⟨w.heap.size, k, none⟩ (.int .u8 x))) := by
  have hst := (hown.stored k (.int .u8 (C k))).1
  rw [cl_set C N k hk, hx] at hst
  refine ⟨?_, hown.frozenAt k, hst, hb.setCell (Nat.le_refl _) _⟩
  rw [hown.cellAt k (by omega), cl_at C N k k hk, if_neg (Nat.lt_irrefl k)]

/-- A row's cell in the round. -/
theorem row_cell {w wr : World} {a : Option Addr} {n cap k : Nat} {B : Nat → Int} (hr : RowAt w a n cap B) (hk : k < n) (hb : Below w.heap.size w wr) : ∃ b off, a = some ⟨b, off, none⟩ ∧ wr.cell? ⟨b, off + k, none⟩ = some (.int .u8 (B k)) := by
  rcases (hr.below hb).2 with h | ⟨b, off, h1, h2⟩
  · omega
  · exact ⟨b, off, h1, h2 k hk⟩

set_option maxHeartbeats 2000000 in
theorem concat_any (a b c : Option Addr) (n1 n2 n3 c1 c2 c3 : Nat) (A B D : Nat → Int) (w : World) (hn : n1 + n2 + n3 ≤ 1048576) (hra : RowAt w a n1 c1 A) (hrb : RowAt w b n2 c2 B) (hrc : RowAt w c n3 c3 D) :
    Calls Try.prog 13 #[.slice a n1 c1, .slice b n2 c2, .slice c n3 c3] w fun e w' => ∃ N, N = n1 + n2 + n3 ∧ e = .returned (.slice (some ⟨w.heap.size, 0, none⟩) N N) ∧ (∀ i, i < N → w'.cell? ⟨w.heap.size, 0 + i, none⟩ = some (.int .u8 (cat A B D n1 n2 i))) ∧ Below w.heap.size w w' := by
  obtain ⟨i0, hi, hz0, hz1, hz2⟩ := info_parts info5
  obtain ⟨N, hN1, hN2, HN⟩ : ∃ N, N ≤ n1 + n2 + n3 ∧ n1 + n2 + n3 ≤ N ∧ Hid (N = n1 + n2 + n3) := ⟨_, Nat.le_refl _, Nat.le_refl _, rfl⟩
  obtain ⟨C, HC⟩ : ∃ C, Hid (C = cat A B D n1 n2) := ⟨_, rfl⟩
  have HA : Hid (RowAt w a n1 c1 A) := hra
  have HB : Hid (RowAt w b n2 c2 B) := hrb
  have HD : Hid (RowAt w c n3 c3 D) := hrc
  clear hra hrb hrc
  go_enter Try.func13, Try.ntmps13
  go_wp2_with (at_make; refine wpList_make_full _ rfl _ _ 22 rfl w.heap.size 5 i0 (.int .u8 0) 1 Try.underlying22 hi hz0 hz1 .i64 .i64 _ _ N rfl rfl (by omega) (by omega) (by rw [hz2]; omega) (by unfold maxLen; omega) (Nat.le_refl _) ?_; intro w1 hown hgr)
  rw [cl_zero C N] at hown
  have hb1 : Below w.heap.size w w1 := (Below.refl _ _).grown hgr (Nat.le_refl _) (fun k h => by cases h)
  clear hgr
  go_loopw [8, 9] (fun t i wr => ∃ k : Nat, k ≤ n1 ∧ t = .int .i64 k ∧ i = .int .i64 k ∧ wr.ownsRow w.heap.size 5 1 (.slice (some ⟨w.heap.size, 0, none⟩) N N) N (cl C N k) ∧ Below w.heap.size w wr) (fun _ i _ => n1 - (intOf i).toNat)
  case atStart => exact ⟨0, Nat.zero_le _, rfl, rfl, hown, hb1⟩
  case round =>
    obtain ⟨k, hk, rfl, rfl, hown, hb⟩ := hrel
    by_cases hlt : k < n1
    · obtain ⟨b1, off1, rfl, hcx⟩ := row_cell HA.out hlt hb
      obtain ⟨hdx, hfx, HS⟩ := cat_round (by omega) (show C k = A k by rw [HC.out]; exact cat_1 hlt) hown hb
      clear hown hb hb1
      go_wp2
      go_roundw
      case rel => exact ⟨k + 1, by omega, by go_num, by go_num, HS.out.1, HS.out.2⟩
      case measure => simp [intOf]; omega
    · obtain rfl : n1 = k := by omega
      clear hb1
      go_wp2
      obtain ⟨wo, rfl⟩ : ∃ wo : World, wo = wr := ⟨_, rfl⟩
      go_loopw [8, 10] (fun t i wr => ∃ k : Nat, k ≤ n2 ∧ t = .int .i64 ((n1 + k : Nat) : Int) ∧ i = .int .i64 k ∧ wr.ownsRow w.heap.size 5 1 (.slice (some ⟨w.heap.size, 0, none⟩) N N) N (cl C N (n1 + k)) ∧ Below w.heap.size w wr) (fun _ i _ => n2 - (intOf i).toNat)
      case atStart => exact ⟨0, Nat.zero_le _, rfl, rfl, hown, hb⟩
      case round =>
        clear hown hb
        obtain ⟨k, hk, rfl, rfl, hown, hb⟩ := hrel
        by_cases hlt : k < n2
        · obtain ⟨b1, off1, rfl, hcx⟩ := row_cell HB.out hlt hb
          obtain ⟨hdx, hfx, HS⟩ := cat_round (by omega) (show C (n1 + k) = B k by rw [HC.out]; exact cat_2 hlt) hown hb
          clear hown hb
          go_wp2
          go_roundw
          case rel => exact ⟨k + 1, by omega, by go_num, by go_num, HS.out.1, HS.out.2⟩
          case measure => simp [intOf]; omega
        · obtain rfl : n2 = k := by omega
          go_wp2
          obtain ⟨wp, rfl⟩ : ∃ wp : World, wp = wr := ⟨_, rfl⟩
          go_loopw [8, 11] (fun t i wr => ∃ k : Nat, k ≤ n3 ∧ t = .int .i64 ((n1 + n2 + k : Nat) : Int) ∧ i = .int .i64 k ∧ wr.ownsRow w.heap.size 5 1 (.slice (some ⟨w.heap.size, 0, none⟩) N N) N (cl C N (n1 + n2 + k)) ∧ Below w.heap.size w wr) (fun _ i _ => n3 - (intOf i).toNat)
          case atStart => exact ⟨0, Nat.zero_le _, rfl, rfl, hown, hb⟩
          case round =>
            clear hown hb
            obtain ⟨k, hk, rfl, rfl, hown, hb⟩ := hrel
            by_cases hlt : k < n3
            · obtain ⟨b1, off1, rfl, hcx⟩ := row_cell HD.out hlt hb
              obtain ⟨hdx, hfx, HS⟩ := cat_round (by omega) (show C (n1 + n2 + k) = D k by rw [HC.out]; exact cat_3) hown hb
              clear hown hb
              go_wp2
              go_roundw
              case rel => exact ⟨k + 1, by omega, by go_num, by go_num, HS.out.1, HS.out.2⟩
              case measure => simp [intOf]; omega
            · have hce : ∀ i, i < N → wr.cell? ⟨w.heap.size, 0 + i, none⟩ = some (.int .u8 (cat A B D n1 n2 i)) := by
                intro i hi
                rw [Nat.zero_add, hown.cellAt i (by omega), cl_at C N _ i hi, if_pos (by omega), HC.out]
              have HCE : Hid (∀ i, i < N → wr.cell? ⟨w.heap.size, 0 + i, none⟩ = some (.int .u8 (cat A B D n1 n2 i))) := hce
              clear hown hce
              go_wp2
              go_ret
              exact ⟨N, HN.out, rfl, HCE.out, hb⟩

/-! ### zzBytes_FnStringEndUnmovedByBytesAround (12) -/
set_option maxHeartbeats 400000 in
theorem zzb12_le (a b c : Option Addr) (n1 n2 n3 c1 c2 c3 : Nat) (i : Int) (w : World) (hn : n1 + n2 + n3 ≤ 1048576) :
    Calls Try.prog 12 #[.slice a n1 c1, .slice b n2 c2, .slice c n3 c3, .int .i64 i] w fun e w' => e = .returned (.bool true) ∧ w = w' := by
  go_enter Try.func12, Try.ntmps12
  go_wp2
  go_ret
  exact ⟨rfl, rfl⟩

set_option maxHeartbeats 1000000 in
theorem zzb12_gt (a b c : Option Addr) (n1 n2 n3 c1 c2 c3 : Nat) (i : Int) (w : World) (hn : ¬ n1 + n2 + n3 ≤ 1048576) :
    Calls Try.prog 12 #[.slice a n1 c1, .slice b n2 c2, .slice c n3 c3, .int .i64 i] w fun e w' => e = .returned (.bool false) ∧ w = w' := by
  by_cases h1 : n1 ≤ 1048576
  · by_cases h2 : n2 ≤ 1048576
    · by_cases h3 : n1 + n2 ≤ 1048576
      · by_cases h4 : n3 ≤ 1048576
        all_goals
          go_enter Try.func12, Try.ntmps12
          go_wp2
          go_ret
          exact ⟨rfl, rfl⟩
      · go_enter Try.func12, Try.ntmps12
        go_wp2
        go_ret
        exact ⟨rfl, rfl⟩
    · go_enter Try.func12, Try.ntmps12
      go_wp2
      go_ret
      exact ⟨rfl, rfl⟩
  · go_enter Try.func12, Try.ntmps12
    go_wp2
    go_ret
    exact ⟨rfl, rfl⟩

end Go.Proofs.Qxb6601459a.Wk
