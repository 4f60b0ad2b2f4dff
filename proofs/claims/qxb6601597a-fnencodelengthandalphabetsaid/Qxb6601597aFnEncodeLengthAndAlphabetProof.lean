/-
  THE SHELL OF A PROOF OF 'Rows.FnEncodeLengthAndAlphabetSaid' ('example.com/grantline/grantline/zzlaws_internal_crypt_b1.FnEncodeLengthAndAlphabet'), WRITTEN BY PROGRAM (proof-skeleton.mjs, third state) off the guide's own print for that function. Not trusted: Lean checks it.
  THE WALK IS FILLED BY HAND. ALL ELSE IS THE GUIDE's OWN WAY (howto/template/XProofs.lean; Derived/Test/ChunkProofs.lean for 'Below') at this function's number and types: leave it.
-/
import Derived.Test.Qxb6601597aRows
import Derived.WalkKit
import Derived.ProofKit
import Derived.OpenShut
import Derived.ShutString
import Derived.ChangeOld
import Derived.Below
import Derived.Test.Qxb6601597aWalkC
namespace Go.Proofs.Qxb6601597a.fnEncodeLengthAndAlphabet
open Go.ChangeShapes Go.WideShapes Go.ChangeAt Go.RowKit
open Go.ChangeMaps (open_string shut_string)
set_option linter.unusedVariables false

theorem own : ownKnob Try.prog.godebug = none := by kernel_rfl
theorem laidOut : laidOutB Try.prog = true := by kernel_rfl

/-- WHAT THE WALK IS TOLD OF A SLICE OF INTEGERS THAT CAME IN: it is nil; or it leads to a row of 'cap' cells, the numbers 'zs' (the first 'len' are its elements, the rest its spare room), each fitting its kind. -/
def IsRow (k : IntKind) (w : World) (a : Option Addr) (len cap : Nat) (zs : List Int) : Prop :=
  (a = none ∧ len = 0 ∧ cap = 0 ∧ zs = []) ∨
  ∃ x, a = some x ∧ len ≤ cap ∧ cap ≤ maxLen ∧ zs.length = cap ∧ (∀ i, i < zs.length → w.cell? (x.add i) = some (.int k (zs.getD i 0))) ∧ ∀ n ∈ zs, (Lit.int k n).wf = true

set_option maxHeartbeats 2000000 in
/-- The lengths are within the law's own bounds. -/
theorem walk_in (a d : Option Addr) (m n c c' : Nat) (E D : Nat → Int) (w : World) (hm : m ≤ 131072) (h8 : 8 * m + n ≤ 1048576) (hE : Wk.RowAt .i64 w a m c E) (hD : Wk.RowAt .u8 w d n c' D) :
    Calls Try.prog 4 #[.slice a m c, .slice d n c'] w fun e w' => e = .returned (.bool true) ∧ Below w.heap.size w w' := by
  have H17 := Wk.zzb17_le a d m n c c' w (by omega)
  have H12 := Wk.indIn_any a m c n E w hm hE
  have HE : Hid (Wk.RowAt .i64 w a m c E) := hE
  have HD : Hid (Wk.RowAt .u8 w d n c' D) := hD
  clear hE hD
  go_enter Try.func4, Try.ntmps4
  go_wp2_with (go_at_call 17; refine H17.mono ?_; rintro e w' ⟨rfl, rfl⟩)
  refine H12.mono ?_
  rintro e w' ⟨rfl, rfl | ⟨rfl, hin⟩⟩
  · clear H17 H12
    go_wp2
    go_ret
    exact ⟨rfl, Below.refl _ _⟩
  · have HI : Hid (∀ k, k < m → 0 ≤ E k ∧ E k < n) := hin
    clear hin H17 H12
    go_wp2_with fail
    refine (Wk.cloneI_row a m c E w (by omega) HE.out).mono ?_
    rintro e w1 ⟨a', rfl, hra, hb1⟩
    have HE1 : Hid (Wk.RowAt .i64 w1 a' m m E) := hra
    have HD1 : Hid (Wk.RowAt .u8 w1 d n c' D) := HD.out.below hb1
    clear hra HE HD
    go_wp2_with fail
    refine (Wk.cloneB_row d n c' D w1 (by omega) HD1.out).mono ?_
    rintro e w2 ⟨d', rfl, hrd, hb2⟩
    have HE2 : Hid (Wk.RowAt .i64 w2 a' m m E) := HE1.out.below hb2
    have HD2 : Hid (Wk.RowAt .u8 w2 d' n n D) := hrd
    have hbb2 := Wk.below_then hb1 hb2
    clear hrd HE1 HD1 hb1 hb2
    go_wp2_with fail
    refine (Wk.zzEnc_any a' d' m n m n E D w2 hm (by omega) HE2.out HD2.out HI.out).mono ?_
    rintro e w3 ⟨s, rfl, hs, hal, hb3⟩
    have hbb3 := Wk.below_then hbb2 hb3
    clear HE2 HD2 HI hbb2 hb3
    obtain ⟨L, hLm, HL⟩ : ∃ L, L ≤ 1048576 ∧ Hid (L = Pl.encLen m) := ⟨Pl.encLen m, by unfold Pl.encLen; omega, rfl⟩
    have H19 := Wk.zzInAl_any s w3 (by rw [hs, ← HL.out]; exact hLm) hal
    have H18 := Wk.zzEncLen_any a' m m w3 hm
    rw [← HL.out] at hs H18
    clear hal
    by_cases hr : 0 < m % 3
    · have e1 : (L : Int) ≤ 4 * ((m : Int) / 3) + ((m : Int) % 3 + 1) := by have := HL.out; unfold Pl.encLen at this; omega
      have e2 : 4 * ((m : Int) / 3) + ((m : Int) % 3 + 1) ≤ (L : Int) := by have := HL.out; unfold Pl.encLen at this; omega
      have hr' : 0 < (m : Int) % 3 := by omega
      go_wp2_with (first | (go_at_call 18; refine H18.mono ?_; rintro e w' ⟨rfl, rfl⟩) | (go_at_call 19; refine H19.mono ?_; rintro e w' ⟨rfl, rfl⟩))
      go_ret
      exact ⟨rfl, hbb3⟩
    · have e1 : (L : Int) ≤ 4 * ((m : Int) / 3) := by have := HL.out; unfold Pl.encLen at this; omega
      have e2 : 4 * ((m : Int) / 3) ≤ (L : Int) := by have := HL.out; unfold Pl.encLen at this; omega
      have hr' : ¬ 0 < (m : Int) % 3 := by omega
      go_wp2_with (first | (go_at_call 18; refine H18.mono ?_; rintro e w' ⟨rfl, rfl⟩) | (go_at_call 19; refine H19.mono ?_; rintro e w' ⟨rfl, rfl⟩))
      go_ret
      exact ⟨rfl, hbb3⟩

/-! ### STEP 1: THE WALK: the Go text returns true, AND WRITES NOTHING THAT WAS THERE: 'Below w.heap.size w w'' (Derived/Below.lean: '.refl', '.alloc', '.drew', '.setCell' at a new block, '.trans'). Open each 'IsRow' by 'rcases' AHEAD of 'go_enter'; part every test ahead of the walk. -/
theorem walk (a0 : Option Addr) (len0 cap0 : Nat) (z0 : List Int) (a1 : Option Addr) (len1 cap1 : Nat) (z1 : List Int) (w : World) (w0 : IsRow .i64 w a0 len0 cap0 z0) (w1 : IsRow .u8 w a1 len1 cap1 z1) :
    Calls Try.prog 4 #[.slice a0 len0 cap0, .slice a1 len1 cap1] w fun e w' => e = .returned (.bool true) ∧ Below w.heap.size w w' := by
  obtain ⟨E, _, hE⟩ := Wk.row_open (by exact w0)
  obtain ⟨D, _, hD⟩ := Wk.row_open (by exact w1)
  clear w0 w1
  by_cases hn : len0 + len1 ≤ 1048576
  · have H17 := Wk.zzb17_le a0 a1 len0 len1 cap0 cap1 w hn
    by_cases h1 : len0 ≤ 131072
    · by_cases h2 : 8 * len0 + len1 ≤ 1048576
      · exact walk_in a0 a1 len0 len1 cap0 cap1 E D w h1 h2 hE hD
      · clear hE hD
        go_enter Try.func4, Try.ntmps4
        go_wp2_with (go_at_call 17; refine H17.mono ?_; rintro e w' ⟨rfl, rfl⟩)
        all_goals
          go_ret
          exact ⟨rfl, Below.refl _ _⟩
    · clear hE hD
      go_enter Try.func4, Try.ntmps4
      go_wp2_with (go_at_call 17; refine H17.mono ?_; rintro e w' ⟨rfl, rfl⟩)
      all_goals
        go_ret
        exact ⟨rfl, Below.refl _ _⟩
  · have H17 := Wk.zzb17_gt a0 a1 len0 len1 cap0 cap1 w hn
    clear hE hD
    go_enter Try.func4, Try.ntmps4
    go_wp2_with (go_at_call 17; refine H17.mono ?_; rintro e w' ⟨rfl, rfl⟩)
    go_ret
    exact ⟨rfl, Below.refl _ _⟩

/-! ### THE ROW's STEP: WRITTEN OUT: LEAVE IT -/
set_option maxRecDepth 100000 in
theorem lifted (os : Os) (started : os.Started) (H : Type) (enc : TypeId × Value → H) :
    ReturnsInHanded {} Try.checked os 4 .any (Rows.fnEncodeLengthAndAlphabetSpec.pre6 enc Try.prog Try.f4 Rows.fnEncodeLengthAndAlphabetRow.domain false) (Rows.fnEncodeLengthAndAlphabetSpec.post enc Try.prog Try.f4 false true false false) := by
  refine returnsInHanded_of_change (C := Try.checked) own started (by kernel_rfl) Try.func4
    (ChangeSpec.witness6 (enc := enc) (C := Try.checked) false ⟨#[], #[.slice none 0 0, .slice none 0 0], []⟩ 8 (by kernel_rfl) (by kernel_rfl) (by kernel_rfl) (by kernel_rfl)) ?_
  intro W base args ds gs before hval0 hW hcnd _
  have hval : ∀ (j : Nat) t v, Try.f4.params[j]? = some t → args[j]? = some v → Value.okWide Try.prog W .any base t v := hval0
  have hW' := hW
  obtain ⟨p, q, hA0, hV, rfl, hfz, hnd⟩ := hW
  have hA : DataW.TrodAll enc Try.prog W 0 (fun _ => true) true Try.f4.params.toList args.toList ds p := hA0
  rw [Try.params4] at hA hval
  obtain ⟨v0, vs0, d0, ds0, p0, q0, hargs, rfl, rfl, h0, r0⟩ := trodAll_cons hA
  obtain ⟨v1, vs1, d1, ds1, p1, q1, rfl, rfl, rfl, h1, r1⟩ := trodAll_cons r0
  obtain ⟨rfl, rfl, rfl⟩ := trodAll_nil r1
  obtain rfl : args = #[v0, v1] := by cases args; simp_all
  obtain ⟨rfl, rfl⟩ := trodVars_none hV
  obtain ⟨a0, len0, cap0, rfl⟩ := okWide_slice Try.underlying22 (hval 0 22 v0 rfl rfl)
  have k0 := h0
  have lt0 : ∀ x ∈ p0, x.block < W.heap.size := by obtain ⟨m, hm⟩ := k0; exact DataW.trod_lt m _ _ _ hm
  obtain ⟨z0, w0⟩ : ∃ zs, IsRow .i64 W a0 len0 cap0 zs := by
    obtain ⟨fuel, hf⟩ := h0
    rcases open_ints Try.underlying22 Try.underlying3 (by kernel_rfl) hf with ⟨hcs, _⟩ | ⟨x, l, c, zs, hcs, _, hl, hm, hz, _, hcell, hwz⟩
    · simp [Value.cells] at hcs
      obtain ⟨rfl, rfl, rfl⟩ := hcs
      exact ⟨[], .inl ⟨rfl, rfl, rfl, rfl⟩⟩
    · simp [Value.cells] at hcs
      obtain ⟨rfl, rfl, rfl⟩ := hcs
      exact ⟨zs, .inr ⟨_, rfl, hl, hm, by simpa using hz, hcell, hwz⟩⟩
  obtain ⟨a1, len1, cap1, rfl⟩ := okWide_slice Try.underlying23 (hval 1 23 v1 rfl rfl)
  have k1 := h1
  have lt1 : ∀ x ∈ p1, x.block < W.heap.size := by obtain ⟨m, hm⟩ := k1; exact DataW.trod_lt m _ _ _ hm
  obtain ⟨z1, w1⟩ : ∃ zs, IsRow .u8 W a1 len1 cap1 zs := by
    obtain ⟨fuel, hf⟩ := h1
    rcases open_ints Try.underlying23 Try.underlying5 (by kernel_rfl) hf with ⟨hcs, _⟩ | ⟨x, l, c, zs, hcs, _, hl, hm, hz, _, hcell, hwz⟩
    · simp [Value.cells] at hcs
      obtain ⟨rfl, rfl, rfl⟩ := hcs
      exact ⟨[], .inl ⟨rfl, rfl, rfl, rfl⟩⟩
    · simp [Value.cells] at hcs
      obtain ⟨rfl, rfl, rfl⟩ := hcs
      exact ⟨zs, .inr ⟨_, rfl, hl, hm, by simpa using hz, hcell, hwz⟩⟩
  clear hA0 hval0
  refine (walk a0 len0 cap0 z0 a1 len1 cap1 z1 W w0 w1).mono fun e W' ⟨he, bel⟩ => ?_
  subst he
  exact ⟨_, rfl, _, _, _, [], _, [], hW', trodAll_mk1 (shut_bool Try.underlying4 _), (trodAll_cons_mk (Below.trod laidOut (by kernel_rfl) (of_decide_eq_true (by kernel_rfl)) k0 bel lt0) (trodAll_cons_mk (Below.trod laidOut (by kernel_rfl) (of_decide_eq_true (by kernel_rfl)) k1 bel lt1) trodAll_mk0)), rfl, bel.frame _, fun h => by cases h⟩

theorem over : Rows.fnEncodeLengthAndAlphabetRow.holds Try.pinned (OpenSpec.ofChange Rows.fnEncodeLengthAndAlphabetSpec) :=
  OpenClaim.holds_of_wide 4 Try.f4 rfl rfl rfl rfl rfl rfl rfl ⟨rfl, rfl, rfl, rfl, rfl⟩ rfl rfl rfl rfl rfl (by kernel_rfl) Try.func4 (by kernel_rfl)
    (of_decide_eq_true (by kernel_rfl)) (by unfold Func.isWrapper; first | (rw [if_pos (by decide +kernel)]; kernel_rfl) | (rw [if_neg (by decide +kernel)]; exact ⟨rfl, rfl⟩))
    (fun os started H enc _ => lifted os started H enc)

/-- ████ THE STATEMENT ████ -/
theorem proved : Rows.FnEncodeLengthAndAlphabetSaid := over
#print axioms proved
end Go.Proofs.Qxb6601597a.fnEncodeLengthAndAlphabet
