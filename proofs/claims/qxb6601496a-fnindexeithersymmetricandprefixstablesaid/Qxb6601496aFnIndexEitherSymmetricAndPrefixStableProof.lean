/-
  THE SHELL OF A PROOF OF 'Rows.FnIndexEitherSymmetricAndPrefixStableSaid' ('example.com/keywarrant/keywarrant/zzlaws_wire_b1.FnIndexEitherSymmetricAndPrefixStable'), WRITTEN BY PROGRAM (proof-skeleton.mjs, third state) off the guide's own print for that function. Not trusted: Lean checks it.
  THE WALK IS FILLED BY HAND. ALL ELSE IS THE GUIDE's OWN WAY (howto/template/XProofs.lean; Derived/Test/ChunkProofs.lean for 'Below') at this function's number and types: leave it.
-/
import Derived.Test.Qxb6601496aRows
import Derived.WalkKit
import Derived.ProofKit
import Derived.OpenShut
import Derived.ShutString
import Derived.ChangeOld
import Derived.Below
import Derived.Test.Qxb6601496aWalkC
namespace Go.Proofs.Qxb6601496a.fnIndexEitherSymmetricAndPrefixStable
open Go.ChangeShapes Go.WideShapes Go.ChangeAt Go.RowKit
open Go.ChangeMaps (open_string shut_string)
set_option linter.unusedVariables false

theorem own : ownKnob Try.prog.godebug = none := by kernel_rfl
theorem laidOut : laidOutB Try.prog = true := by kernel_rfl

/-- WHAT THE WALK IS TOLD OF A SLICE OF INTEGERS THAT CAME IN: it is nil; or it leads to a row of 'cap' cells, the numbers 'zs' (the first 'len' are its elements, the rest its spare room), each fitting its kind. -/
def IsRow (k : IntKind) (w : World) (a : Option Addr) (len cap : Nat) (zs : List Int) : Prop :=
  (a = none ∧ len = 0 ∧ cap = 0 ∧ zs = []) ∨
  ∃ x, a = some x ∧ len ≤ cap ∧ cap ≤ maxLen ∧ zs.length = cap ∧ (∀ i, i < zs.length → w.cell? (x.add i) = some (.int k (zs.getD i 0))) ∧ ∀ n ∈ zs, (Lit.int k n).wf = true

/-! ### STEP 1: THE WALK: the Go text returns true, AND WRITES NOTHING THAT WAS THERE: 'Below w.heap.size w w'' (Derived/Below.lean: '.refl', '.alloc', '.drew', '.setCell' at a new block, '.trans'). Open each 'IsRow' by 'rcases' AHEAD of 'go_enter'; part every test ahead of the walk. -/
theorem walk (a0 : Option Addr) (len0 cap0 : Nat) (z0 : List Int) (a1 : Int) (a2 : Int) (w : World) (w0 : IsRow .u8 w a0 len0 cap0 z0) (w1 : (Lit.int .u8 a1).wf = true) (w2 : (Lit.int .u8 a2).wf = true) :
    Calls Try.prog 4 #[.slice a0 len0 cap0, .int .u8 a1, .int .u8 a2] w fun e w' => e = .returned (.bool true) ∧ Below w.heap.size w w' := by
  obtain ⟨B, hB, hr⟩ := Wk.row_open (by exact w0)
  have hx := bounds_u8 w1
  have hy := bounds_u8 w2
  clear w0 w1 w2
  by_cases hn : len0 ≤ 1048576
  · have H8 := Wk.zzb8_le a0 len0 cap0 a1 a2 w hn
    have H6 := Wk.clone_row a0 len0 cap0 B w hn hr
    have HB : Hid (∀ i, 0 ≤ B i ∧ B i ≤ 255) := hB
    have HX : Hid (0 ≤ a1 ∧ a1 ≤ 255) := hx
    have HY : Hid (0 ≤ a2 ∧ a2 ≤ 255) := hy
    clear hr hB hx hy
    go_enter Try.func4, Try.ntmps4
    go_wp2_with (first | (go_at_call 8; refine H8.mono ?_; rintro e w' ⟨rfl, rfl⟩) | (go_at_call 6; refine H6.mono ?_; rintro e w1 ⟨a', c', rfl, hz, hb1⟩))
    have HZ : Hid (Wk.RowZ w1 a' len0 c' B) := hz
    clear hz H8 H6
    refine (Wk.zzEither_any a' len0 c' B a1 a2 w1 hn HB.out HX.out HY.out HZ.out).mono ?_
    rintro e w' ⟨rfl, r, rfl, hf⟩
    have HF : Hid (Pl.FirstEither B len0 a1 a2 r) := hf
    clear hf
    go_wp2_with fail
    refine (Wk.zzEither_any a' len0 c' B a2 a1 w1 hn HB.out HY.out HX.out HZ.out).mono ?_
    rintro e w' ⟨rfl, s, rfl, hg⟩
    obtain rfl : r = s := Pl.either_unique HF.out (Pl.either_swap hg)
    clear hg
    rcases Pl.either_cases HF.out with rfl | ⟨o, rfl, ho⟩
    · go_wp2
      go_ret
      exact ⟨rfl, hb1⟩
    · obtain ⟨_, HP1, HP2⟩ := Pl.either_prefix HF.out
      have HQ1 : Hid (Pl.FirstEither B (o + 1) a1 a2 (o : Int)) := HP1
      have HQ2 : Hid (Pl.FirstEither B o a1 a2 (-1)) := HP2
      clear HP1 HP2
      obtain ⟨hnc, ⟨_, h0, _⟩ | ⟨b, off, rfl, hc⟩⟩ := HZ.out
      · omega
      · have HZ1 : Hid (Wk.RowZ w1 (some ⟨b, off, none⟩) (o + 1) c' B) := ⟨by omega, .inr ⟨b, off, rfl, fun i hi => hc i (by omega)⟩⟩
        have HZ2 : Hid (Wk.RowZ w1 (some ⟨b, off, none⟩) o c' B) := ⟨by omega, .inr ⟨b, off, rfl, fun i hi => hc i (by omega)⟩⟩
        clear hc HZ
        have et : ((o : Int) + 1).toNat = o + 1 := by omega
        go_wp2_with fail
        refine (Wk.zzEither_any (some ⟨b, off, none⟩) (o + 1) c' B a1 a2 w1 (by omega) HB.out HX.out HY.out HZ1.out).mono ?_
        rintro e w' ⟨rfl, t, rfl, hg⟩
        obtain rfl : (o : Int) = t := Pl.either_unique HQ1.out hg
        clear hg
        go_wp2_with fail
        refine (Wk.zzEither_any (some ⟨b, off, none⟩) o c' B a1 a2 w1 (by omega) HB.out HX.out HY.out HZ2.out).mono ?_
        rintro e w' ⟨rfl, t, rfl, hg⟩
        obtain rfl : -1 = t := Pl.either_unique HQ2.out hg
        clear hg
        go_wp2
        go_ret
        exact ⟨rfl, hb1⟩
  · have H8 := Wk.zzb8_gt a0 len0 cap0 a1 a2 w hn
    clear hr hB hx hy
    go_enter Try.func4, Try.ntmps4
    go_wp2_with (go_at_call 8; refine H8.mono ?_; rintro e w' ⟨rfl, rfl⟩)
    go_ret
    exact ⟨rfl, Below.refl _ _⟩

/-! ### THE ROW's STEP: WRITTEN OUT: LEAVE IT -/
set_option maxRecDepth 100000 in
theorem lifted (os : Os) (started : os.Started) (H : Type) (enc : TypeId × Value → H) :
    ReturnsInHanded {} Try.checked os 4 .any (Rows.fnIndexEitherSymmetricAndPrefixStableSpec.pre6 enc Try.prog Try.f4 Rows.fnIndexEitherSymmetricAndPrefixStableRow.domain false) (Rows.fnIndexEitherSymmetricAndPrefixStableSpec.post enc Try.prog Try.f4 false true false false) := by
  refine returnsInHanded_of_change (C := Try.checked) own started (by kernel_rfl) Try.func4
    (ChangeSpec.witness6 (enc := enc) (C := Try.checked) false ⟨#[], #[.slice none 0 0, .int .u8 0, .int .u8 0], []⟩ 8 (by kernel_rfl) (by kernel_rfl) (by kernel_rfl) (by kernel_rfl)) ?_
  intro W base args ds gs before hval0 hW hcnd _
  have hval : ∀ (j : Nat) t v, Try.f4.params[j]? = some t → args[j]? = some v → Value.okWide Try.prog W .any base t v := hval0
  have hW' := hW
  obtain ⟨p, q, hA0, hV, rfl, hfz, hnd⟩ := hW
  have hA : DataW.TrodAll enc Try.prog W 0 (fun _ => true) true Try.f4.params.toList args.toList ds p := hA0
  rw [Try.params4] at hA hval
  obtain ⟨v0, vs0, d0, ds0, p0, q0, hargs, rfl, rfl, h0, r0⟩ := trodAll_cons hA
  obtain ⟨v1, vs1, d1, ds1, p1, q1, rfl, rfl, rfl, h1, r1⟩ := trodAll_cons r0
  obtain ⟨v2, vs2, d2, ds2, p2, q2, rfl, rfl, rfl, h2, r2⟩ := trodAll_cons r1
  obtain ⟨rfl, rfl, rfl⟩ := trodAll_nil r2
  obtain rfl : args = #[v0, v1, v2] := by cases args; simp_all
  obtain ⟨rfl, rfl⟩ := trodVars_none hV
  obtain ⟨a0, len0, cap0, rfl⟩ := okWide_slice Try.underlying22 (hval 0 22 v0 rfl rfl)
  have k0 := h0
  have lt0 : ∀ x ∈ p0, x.block < W.heap.size := by obtain ⟨m, hm⟩ := k0; exact DataW.trod_lt m _ _ _ hm
  obtain ⟨z0, w0⟩ : ∃ zs, IsRow .u8 W a0 len0 cap0 zs := by
    obtain ⟨fuel, hf⟩ := h0
    rcases open_ints Try.underlying22 Try.underlying5 (by kernel_rfl) hf with ⟨hcs, _⟩ | ⟨x, l, c, zs, hcs, _, hl, hm, hz, _, hcell, hwz⟩
    · simp [Value.cells] at hcs
      obtain ⟨rfl, rfl, rfl⟩ := hcs
      exact ⟨[], .inl ⟨rfl, rfl, rfl, rfl⟩⟩
    · simp [Value.cells] at hcs
      obtain ⟨rfl, rfl, rfl⟩ := hcs
      exact ⟨zs, .inr ⟨_, rfl, hl, hm, by simpa using hz, hcell, hwz⟩⟩
  obtain ⟨a1, rfl, rfl, rfl, w1⟩ := open_int Try.underlying5 (hval 1 5 v1 rfl rfl) h1
  obtain ⟨a2, rfl, rfl, rfl, w2⟩ := open_int Try.underlying5 (hval 2 5 v2 rfl rfl) h2
  clear hA0 hval0
  refine (walk a0 len0 cap0 z0 a1 a2 W w0 w1 w2).mono fun e W' ⟨he, bel⟩ => ?_
  subst he
  exact ⟨_, rfl, _, _, _, [], _, [], hW', trodAll_mk1 (shut_bool Try.underlying4 _), (trodAll_cons_mk (Below.trod laidOut (by kernel_rfl) (of_decide_eq_true (by kernel_rfl)) k0 bel lt0) (trodAll_cons_mk (shut_int Try.underlying5 w1) (trodAll_cons_mk (shut_int Try.underlying5 w2) trodAll_mk0))), rfl, bel.frame _, fun h => by cases h⟩

theorem over : Rows.fnIndexEitherSymmetricAndPrefixStableRow.holds Try.pinned (OpenSpec.ofChange Rows.fnIndexEitherSymmetricAndPrefixStableSpec) :=
  OpenClaim.holds_of_wide 4 Try.f4 rfl rfl rfl rfl rfl rfl rfl ⟨rfl, rfl, rfl, rfl, rfl⟩ rfl rfl rfl rfl rfl (by kernel_rfl) Try.func4 (by kernel_rfl)
    (of_decide_eq_true (by kernel_rfl)) (by unfold Func.isWrapper; first | (rw [if_pos (by decide +kernel)]; kernel_rfl) | (rw [if_neg (by decide +kernel)]; exact ⟨rfl, rfl⟩))
    (fun os started H enc _ => lifted os started H enc)

/-- ████ THE STATEMENT ████ -/
theorem proved : Rows.FnIndexEitherSymmetricAndPrefixStableSaid := over
#print axioms proved
end Go.Proofs.Qxb6601496a.fnIndexEitherSymmetricAndPrefixStable
