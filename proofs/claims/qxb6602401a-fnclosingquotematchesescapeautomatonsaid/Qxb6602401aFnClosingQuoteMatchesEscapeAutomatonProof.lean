/-
  THE SHELL OF A PROOF OF 'Rows.FnClosingQuoteMatchesEscapeAutomatonSaid' ('example.com/methodical-runner/methodical-runner/zzlaws_jsonscan_b1.FnClosingQuoteMatchesEscapeAutomaton'), WRITTEN BY PROGRAM (proof-skeleton.mjs, third state) off the guide's own print for that function. Not trusted: Lean checks it.
  THE WALK IS FILLED BY HAND. ALL ELSE IS THE GUIDE's OWN WAY (howto/template/XProofs.lean; Derived/Test/ChunkProofs.lean for 'Below') at this function's number and types: leave it.
-/
import Derived.Test.Qxb6602401aRows
import Derived.WalkKit
import Derived.ProofKit
import Derived.OpenShut
import Derived.ShutString
import Derived.ChangeOld
import Derived.Below
import Derived.Test.Qxb6602401aWalkC
namespace Go.Proofs.Qxb6602401a.fnClosingQuoteMatchesEscapeAutomaton
open Go.ChangeShapes Go.WideShapes Go.ChangeAt Go.RowKit
open Go.ChangeMaps (open_string shut_string)
set_option linter.unusedVariables false

theorem own : ownKnob Try.prog.godebug = none := by kernel_rfl
theorem laidOut : laidOutB Try.prog = true := by kernel_rfl

/-- WHAT THE WALK IS TOLD OF A SLICE OF INTEGERS THAT CAME IN: it is nil; or it leads to a row of 'cap' cells, the numbers 'zs' (the first 'len' are its elements, the rest its spare room), each fitting its kind. -/
def IsRow (k : IntKind) (w : World) (a : Option Addr) (len cap : Nat) (zs : List Int) : Prop :=
  (a = none ∧ len = 0 ∧ cap = 0 ∧ zs = []) ∨
  ∃ x, a = some x ∧ len ≤ cap ∧ cap ≤ maxLen ∧ zs.length = cap ∧ (∀ i, i < zs.length → w.cell? (x.add i) = some (.int k (zs.getD i 0))) ∧ ∀ n ∈ zs, (Lit.int k n).wf = true

set_option maxHeartbeats 1000000 in
/-- The index is inside: the slice has a byte, its cells are known. -/
theorem walk_in (b off n cap i : Nat) (B : Nat → Int) (w : World) (hB : ∀ i, 0 ≤ B i ∧ B i ≤ 255) (hn : n ≤ 1048576) (hcap : n ≤ cap) (hi1 : 1 ≤ i) (hi2 : i ≤ n) (hc : ∀ i, i < n → w.cell? ⟨b, off + i, none⟩ = some (.int .u8 (B i))) :
    Calls Try.prog 3 #[.slice (some ⟨b, off, none⟩) n cap, .int .i64 (i : Int)] w fun e w' => e = .returned (.bool true) ∧ Below w.heap.size w w' := by
  have H6 := Wk.zzb6_le (some ⟨b, off, none⟩) n cap (i : Int) w hn
  have H7 := Wk.clone_any b off n cap B w hn hc
  obtain ⟨j, hj, hjn, HJ⟩ : ∃ j : Nat, (i : Int) - 1 = (j : Int) ∧ j < n ∧ Hid (j = i - 1) := ⟨i - 1, by omega, by omega, rfl⟩
  have hcx := hc j hjn
  have HB : Hid (∀ i, 0 ≤ B i ∧ B i ≤ 255) := hB
  obtain ⟨q, hq⟩ := Pl.close_exists B n i
  have HQ : Hid (Pl.Close B n i q) := hq
  clear hc hB hq
  by_cases h92 : B j = 92
  · clear H7
    go_enter Try.func3, Try.ntmps3
    go_wp2_with (go_at_call 6; refine H6.mono ?_; rintro e w' ⟨rfl, rfl⟩)
    go_ret
    exact ⟨rfl, Below.refl _ _⟩
  · go_enter Try.func3, Try.ntmps3
    go_wp2_with (first | (go_at_call 6; refine H6.mono ?_; rintro e w' ⟨rfl, rfl⟩) | (go_at_call 7; refine H7.mono ?_; rintro e w1 ⟨rfl, hc1, hb1, hs1⟩))
    have hc2 : ∀ i, i < n → w1.cell? ⟨w.heap.size, 0 + i, none⟩ = some (.int .u8 (B i)) := fun i hi => by rw [Nat.zero_add]; exact hc1 i hi
    have H8 := Wk.zzClose_any w.heap.size 0 n n i q B w1 HB.out hn (Nat.le_refl _) hi1 hi2 (by rw [← HJ.out]; exact h92) HQ.out hc2
    have H9 := Wk.mod_any w.heap.size 0 n n i q B w1 hn hi2 HQ.out hc2
    clear hc2 hc1 H6 H7
    refine H8.mono ?_
    rintro e w' ⟨rfl, rfl⟩
    go_wp2_with (go_at_call 9; refine H9.mono ?_; rintro e w' ⟨rfl, rfl⟩)
    go_ret
    exact ⟨rfl, hb1⟩

/-! ### STEP 1: THE WALK: the Go text returns true, AND WRITES NOTHING THAT WAS THERE: 'Below w.heap.size w w'' (Derived/Below.lean: '.refl', '.alloc', '.drew', '.setCell' at a new block, '.trans'). Open each 'IsRow' by 'rcases' AHEAD of 'go_enter'; part every test ahead of the walk. -/
theorem walk (a0 : Option Addr) (len0 cap0 : Nat) (z0 : List Int) (a1 : Int) (w : World) (w0 : IsRow .u8 w a0 len0 cap0 z0) (w1 : (Lit.int .i64 a1).wf = true) :
    Calls Try.prog 3 #[.slice a0 len0 cap0, .int .i64 a1] w fun e w' => e = .returned (.bool true) ∧ Below w.heap.size w w' := by
  obtain ⟨B, hB, hle, hrow⟩ := Wk.row_open (by exact w0)
  clear w0
  by_cases hn : len0 ≤ 1048576
  · have H6 := Wk.zzb6_le a0 len0 cap0 a1 w hn
    by_cases h1 : a1 < 1
    · go_enter Try.func3, Try.ntmps3
      go_wp2_with (go_at_call 6; refine H6.mono ?_; rintro e w' ⟨rfl, rfl⟩)
      go_ret
      exact ⟨rfl, Below.refl _ _⟩
    · by_cases h2 : (len0 : Int) < a1
      · go_enter Try.func3, Try.ntmps3
        go_wp2_with (go_at_call 6; refine H6.mono ?_; rintro e w' ⟨rfl, rfl⟩)
        go_ret
        exact ⟨rfl, Below.refl _ _⟩
      · obtain ⟨i, rfl⟩ : ∃ i : Nat, a1 = (i : Int) := ⟨a1.toNat, by omega⟩
        rcases hrow with h0 | ⟨b, off, rfl, hc⟩
        · omega
        · exact walk_in b off len0 cap0 i B w hB hn hle (by omega) (by omega) hc
  · have H6 := Wk.zzb6_gt a0 len0 cap0 a1 w hn
    go_enter Try.func3, Try.ntmps3
    go_wp2_with (go_at_call 6; refine H6.mono ?_; rintro e w' ⟨rfl, rfl⟩)
    go_ret
    exact ⟨rfl, Below.refl _ _⟩

/-! ### THE ROW's STEP: WRITTEN OUT: LEAVE IT -/
set_option maxRecDepth 100000 in
theorem lifted (os : Os) (started : os.Started) (H : Type) (enc : TypeId × Value → H) :
    ReturnsInHanded {} Try.checked os 3 .any (Rows.fnClosingQuoteMatchesEscapeAutomatonSpec.pre6 enc Try.prog Try.f3 Rows.fnClosingQuoteMatchesEscapeAutomatonRow.domain false) (Rows.fnClosingQuoteMatchesEscapeAutomatonSpec.post enc Try.prog Try.f3 false true false false) := by
  refine returnsInHanded_of_change (C := Try.checked) own started (by kernel_rfl) Try.func3
    (ChangeSpec.witness6 (enc := enc) (C := Try.checked) false ⟨#[], #[.slice none 0 0, .int .i64 0], []⟩ 8 (by kernel_rfl) (by kernel_rfl) (by kernel_rfl) (by kernel_rfl)) ?_
  intro W base args ds gs before hval0 hW hcnd _
  have hval : ∀ (j : Nat) t v, Try.f3.params[j]? = some t → args[j]? = some v → Value.okWide Try.prog W .any base t v := hval0
  have hW' := hW
  obtain ⟨p, q, hA0, hV, rfl, hfz, hnd⟩ := hW
  have hA : DataW.TrodAll enc Try.prog W 0 (fun _ => true) true Try.f3.params.toList args.toList ds p := hA0
  rw [Try.params3] at hA hval
  obtain ⟨v0, vs0, d0, ds0, p0, q0, hargs, rfl, rfl, h0, r0⟩ := trodAll_cons hA
  obtain ⟨v1, vs1, d1, ds1, p1, q1, rfl, rfl, rfl, h1, r1⟩ := trodAll_cons r0
  obtain ⟨rfl, rfl, rfl⟩ := trodAll_nil r1
  obtain rfl : args = #[v0, v1] := by cases args; simp_all
  obtain ⟨rfl, rfl⟩ := trodVars_none hV
  obtain ⟨a0, len0, cap0, rfl⟩ := okWide_slice Try.underlying22 (hval 0 22 v0 rfl rfl)
  have k0 := h0
  have lt0 : ∀ x ∈ p0, x.block < W.heap.size := by obtain ⟨m, hm⟩ := k0; exact DataW.trod_lt m _ _ _ hm
  obtain ⟨z0, w0⟩ : ∃ zs, IsRow .u8 W a0 len0 cap0 zs := by
    obtain ⟨fuel, hf⟩ := h0
    rcases open_ints Try.underlying22 Try.underlying5 (by kernel_rfl) hf with ⟨hcs, _⟩ | ⟨x, l, c, zs, hcs, _, hl, hm, hz, _, hcell, hwz⟩
    · simp [Value.cells] at hcs
      obtain ⟨rfl, rfl, rfl⟩ := hcs
      exact ⟨[], .inl ⟨rfl, rfl, rfl, rfl⟩⟩
    · simp [Value.cells] at hcs
      obtain ⟨rfl, rfl, rfl⟩ := hcs
      exact ⟨zs, .inr ⟨_, rfl, hl, hm, by simpa using hz, hcell, hwz⟩⟩
  obtain ⟨a1, rfl, rfl, rfl, w1⟩ := open_int Try.underlying3 (hval 1 3 v1 rfl rfl) h1
  clear hA0 hval0
  refine (walk a0 len0 cap0 z0 a1 W w0 w1).mono fun e W' ⟨he, bel⟩ => ?_
  subst he
  exact ⟨_, rfl, _, _, _, [], _, [], hW', trodAll_mk1 (shut_bool Try.underlying4 _), (trodAll_cons_mk (Below.trod laidOut (by kernel_rfl) (of_decide_eq_true (by kernel_rfl)) k0 bel lt0) (trodAll_cons_mk (shut_int Try.underlying3 w1) trodAll_mk0)), rfl, bel.frame _, fun h => by cases h⟩

theorem over : Rows.fnClosingQuoteMatchesEscapeAutomatonRow.holds Try.pinned (OpenSpec.ofChange Rows.fnClosingQuoteMatchesEscapeAutomatonSpec) :=
  OpenClaim.holds_of_wide 3 Try.f3 rfl rfl rfl rfl rfl rfl rfl ⟨rfl, rfl, rfl, rfl, rfl⟩ rfl rfl rfl rfl rfl (by kernel_rfl) Try.func3 (by kernel_rfl)
    (of_decide_eq_true (by kernel_rfl)) (by unfold Func.isWrapper; first | (rw [if_pos (by decide +kernel)]; kernel_rfl) | (rw [if_neg (by decide +kernel)]; exact ⟨rfl, rfl⟩))
    (fun os started H enc _ => lifted os started H enc)

/-- ████ THE STATEMENT ████ -/
theorem proved : Rows.FnClosingQuoteMatchesEscapeAutomatonSaid := over
#print axioms proved
end Go.Proofs.Qxb6602401a.fnClosingQuoteMatchesEscapeAutomaton
