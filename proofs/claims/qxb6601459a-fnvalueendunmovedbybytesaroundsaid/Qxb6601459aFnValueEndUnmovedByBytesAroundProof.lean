/-
  THE SHELL OF A PROOF OF 'Rows.FnValueEndUnmovedByBytesAroundSaid' ('example.com/planwright/planwright/zzlaws_internal_jsonline_b1.FnValueEndUnmovedByBytesAround'), WRITTEN BY PROGRAM (proof-skeleton.mjs, third state) off the guide's own print for that function. Not trusted: Lean checks it.
  THE WALK IS FILLED BY HAND. ALL ELSE IS THE GUIDE's OWN WAY (howto/template/XProofs.lean; Derived/Test/ChunkProofs.lean for 'Below') at this function's number and types: leave it.
-/
import Derived.Test.Qxb6601459aRows
import Derived.WalkKit
import Derived.ProofKit
import Derived.OpenShut
import Derived.ShutString
import Derived.ChangeOld
import Derived.Below
import Derived.Test.Qxb6601459aWalkI
namespace Go.Proofs.Qxb6601459a.fnValueEndUnmovedByBytesAround
open Go.ChangeShapes Go.WideShapes Go.ChangeAt Go.RowKit
open Go.ChangeMaps (open_string shut_string)
set_option linter.unusedVariables false

theorem own : ownKnob Try.prog.godebug = none := by kernel_rfl
theorem laidOut : laidOutB Try.prog = true := by kernel_rfl

/-- WHAT THE WALK IS TOLD OF A SLICE OF INTEGERS THAT CAME IN: it is nil; or it leads to a row of 'cap' cells, the numbers 'zs' (the first 'len' are its elements, the rest its spare room), each fitting its kind. -/
def IsRow (k : IntKind) (w : World) (a : Option Addr) (len cap : Nat) (zs : List Int) : Prop :=
  (a = none ∧ len = 0 ∧ cap = 0 ∧ zs = []) ∨
  ∃ x, a = some x ∧ len ≤ cap ∧ cap ≤ maxLen ∧ zs.length = cap ∧ (∀ i, i < zs.length → w.cell? (x.add i) = some (.int k (zs.getD i 0))) ∧ ∀ n ∈ zs, (Lit.int k n).wf = true

/-- What the last statement needs, behind the concatenation. -/
theorem ends {w w1 w3 w4 : World} {n1 n n3 i q N : Nat} {A B D : Nat → Int} (hn : n1 + n + n3 ≤ 1048576) (hi2 : i < n) (hA : ∀ i, 0 ≤ A i ∧ A i ≤ 255) (hB : ∀ i, 0 ≤ B i ∧ B i ≤ 255) (hD : ∀ i, 0 ≤ D i ∧ D i ≤ 255)
    (hq : Pl.VEnd B n i q) (ht : Pl.Bare (B i) → q = n → 0 < n3 → Pl.delim (D 0)) (hrB : Wk.RowAt w3 (some ⟨w1.heap.size, 0, none⟩) n n B) (hbb3 : Below w.heap.size w w3) (hN : N = n1 + n + n3)
    (hc4 : ∀ i, i < N → w4.cell? ⟨w3.heap.size, 0 + i, none⟩ = some (.int .u8 (Wk.cat A B D n1 n i))) (hb4 : Below w3.heap.size w3 w4) :
    Below w.heap.size w w4 ∧
    Calls Try.prog 16 #[.slice (some ⟨w3.heap.size, 0, none⟩) N N, .int .i64 ((n1 : Int) + (i : Int))] w4 (fun e w' => e = .returned (.int .i64 ((n1 + q : Nat) : Int)) ∧ w4 = w') ∧
    Calls Try.prog 16 #[.slice (some ⟨w1.heap.size, 0, none⟩) n n, .int .i64 (i : Int)] w4 (fun e w' => e = .returned (.int .i64 (q : Int)) ∧ w4 = w') := by
  have hC : ∀ x, x < n → Wk.cat A B D n1 n (n1 + x) = B x := fun x hx => Wk.cat_2 hx
  have hv : Pl.VEnd (Wk.cat A B D n1 n) N (n1 + i) (n1 + q) := by
    refine Pl.vend_shift hC (by omega) hi2 hq fun hb he hl => ?_
    have h0 : Wk.cat A B D n1 n (n1 + n) = D 0 := by
      have := Wk.cat_3 (A := A) (B := B) (D := D) (n1 := n1) (n2 := n) (k := 0)
      rwa [Nat.add_zero] at this
    rw [h0]
    exact ht hb he (by omega)
  have H := Wk.zzVe_any w3.heap.size 0 N N (n1 + i) (n1 + q) (Wk.cat A B D n1 n) w4 (Wk.cat_bd hA hB hD) (by omega) (Nat.le_refl _) (by omega) hv hc4
  rw [show ((n1 + i : Nat) : Int) = (n1 : Int) + (i : Int) from by omega] at H
  exact ⟨Wk.below_then hbb3 hb4, H, Wk.zzVe_any w1.heap.size 0 n n i q B w4 hB (by omega) (Nat.le_refl _) hi2 hq (hrB.below hb4).cells⟩

set_option maxHeartbeats 2000000 in
/-- The index is inside: the object has a byte, its cells are known. -/
theorem walk_in (a d : Option Addr) (b off n1 n n3 c1 cap c3 i : Nat) (A B D : Nat → Int) (w : World) (hA : ∀ i, 0 ≤ A i ∧ A i ≤ 255) (hB : ∀ i, 0 ≤ B i ∧ B i ≤ 255) (hD : ∀ i, 0 ≤ D i ∧ D i ≤ 255) (hn : n1 + n + n3 ≤ 1048576) (hcap : n ≤ cap) (hi2 : i < n)
    (hrA : Wk.RowAt w a n1 c1 A) (hc : ∀ i, i < n → w.cell? ⟨b, off + i, none⟩ = some (.int .u8 (B i))) (hrD : Wk.RowAt w d n3 c3 D) :
    Calls Try.prog 6 #[.slice a n1 c1, .slice (some ⟨b, off, none⟩) n cap, .slice d n3 c3, .int .i64 (i : Int)] w fun e w' => e = .returned (.bool true) ∧ Below w.heap.size w w' := by
  have H17 := Wk.zzb17_le a (some ⟨b, off, none⟩) d n1 n n3 c1 cap c3 (i : Int) w hn
  have HB : Hid (∀ i, 0 ≤ B i ∧ B i ≤ 255) := hB
  have HA : Hid (∀ i, 0 ≤ A i ∧ A i ≤ 255) := hA
  have HD : Hid (∀ i, 0 ≤ D i ∧ D i ≤ 255) := hD
  have HRA : Hid (Wk.RowAt w a n1 c1 A) := hrA
  have HRB : Hid (Wk.RowAt w (some ⟨b, off, none⟩) n cap B) := ⟨hcap, .inr ⟨b, off, rfl, hc⟩⟩
  have HRD : Hid (Wk.RowAt w d n3 c3 D) := hrD
  clear hc hB hA hD hrA hrD
  go_enter Try.func6, Try.ntmps6
  go_wp2_with (go_at_call 17; refine H17.mono ?_; rintro e w' ⟨rfl, rfl⟩)
  refine (Wk.clone_row a n1 c1 A w (by omega) HRA.out).mono ?_
  rintro e w1 ⟨a', rfl, hra, hb1⟩
  have HRA1 : Hid (Wk.RowAt w1 a' n1 n1 A) := hra
  have HRB1 : Hid (Wk.RowAt w1 (some ⟨b, off, none⟩) n cap B) := HRB.out.below hb1
  have HRD1 : Hid (Wk.RowAt w1 d n3 c3 D) := HRD.out.below hb1
  clear hra HRA HRB HRD H17
  go_wp2_with fail
  refine (Wk.clone_any b off n cap B w1 (by omega) HRB1.out.cells).mono ?_
  rintro e w2 ⟨rfl, hc2, hb2, _⟩
  have hbb2 := Wk.below_then hb1 hb2
  have HRA2 : Hid (Wk.RowAt w2 a' n1 n1 A) := HRA1.out.below hb2
  have HRB2 : Hid (Wk.RowAt w2 (some ⟨w1.heap.size, 0, none⟩) n n B) := Wk.RowAt.of hc2
  have HRD2 : Hid (Wk.RowAt w2 d n3 c3 D) := HRD1.out.below hb2
  clear HRA1 HRB1 HRD1 hc2 hb1 hb2
  go_wp2_with fail
  refine (Wk.clone_row d n3 c3 D w2 (by omega) HRD2.out).mono ?_
  rintro e w3 ⟨d', rfl, hrd, hb3⟩
  have hbb3 := Wk.below_then hbb2 hb3
  have HRA3 : Hid (Wk.RowAt w3 a' n1 n1 A) := HRA2.out.below hb3
  have HRB3 : Hid (Wk.RowAt w3 (some ⟨w1.heap.size, 0, none⟩) n n B) := HRB2.out.below hb3
  have HRD3 : Hid (Wk.RowAt w3 d' n3 n3 D) := hrd
  clear HRA2 HRB2 HRD2 hrd hbb2 hb3
  go_wp2_with fail
  refine (Wk.mod_any w1.heap.size 0 n n i B w3 (by omega) hi2 HRB3.out.cells).mono ?_
  rintro e w' ⟨rfl, ⟨q, rfl, hq⟩ | rfl⟩
  · have HQ : Hid (Pl.VEnd B n i q) := hq
    have hq2 : q ≤ n := by
      rcases hq with ⟨_, h⟩ | ⟨_, K, h, h'⟩
      · exact h.2.1
      · have := h.1; omega
    clear hq
    have hci : w3.cell? ⟨w1.heap.size, i, none⟩ = some (.int .u8 (B i)) := by have := HRB3.out.cells i hi2; rw [Nat.zero_add] at this; exact this
    have hway : (B i = 34 ∨ B i = 123 ∨ B i = 91) ∨ (Pl.Bare (B i) ∧ q < n) ∨ (Pl.Bare (B i) ∧ n ≤ q ∧ n3 ≤ 0) ∨ (Pl.Bare (B i) ∧ n ≤ q ∧ 0 < n3 ∧ Pl.delim (D 0)) ∨ (Pl.Bare (B i) ∧ n ≤ q ∧ 0 < n3 ∧ ¬ Pl.delim (D 0)) := by
      by_cases hb : Pl.Bare (B i)
      · by_cases h1 : q < n
        · exact .inr (.inl ⟨hb, h1⟩)
        · by_cases h2 : n3 ≤ 0
          · exact .inr (.inr (.inl ⟨hb, by omega, h2⟩))
          · by_cases h3 : Pl.delim (D 0)
            · exact .inr (.inr (.inr (.inl ⟨hb, by omega, by omega, h3⟩)))
            · exact .inr (.inr (.inr (.inr ⟨hb, by omega, by omega, h3⟩)))
      · exact .inl (by unfold Pl.Bare at hb; omega)
    rcases hway with (hb | hb | hb) | ⟨hb, hq3⟩ | ⟨hb, hq3, hn3⟩ | ⟨hb, hq3, hn3, hd⟩ | ⟨hb, hq3, hn3, hd⟩
    · have HT : Hid (Pl.Bare (B i) → q = n → 0 < n3 → Pl.delim (D 0)) := fun h => absurd hb h.1
      go_wp2_with fail
      refine (Wk.concat_any a' (some ⟨w1.heap.size, 0, none⟩) _ n1 n n3 n1 n n3 A B D w3 hn HRA3.out HRB3.out HRD3.out).mono ?_
      rintro e w4 ⟨N, hN, rfl, hc4, hb4⟩
      obtain ⟨hbb4, H16a, H16b⟩ := ends hn hi2 HA.out HB.out HD.out HQ.out HT.out HRB3.out hbb3 hN hc4 hb4
      clear hc4 hb4 hbb3 HRA3 HRB3 HRD3 hN hci HQ HT
      go_wp2_with fail
      refine H16a.mono ?_
      rintro e w' ⟨rfl, rfl⟩
      go_wp2_with fail
      refine H16b.mono ?_
      rintro e w' ⟨rfl, rfl⟩
      go_wp2
      go_ret
      exact ⟨by simp, hbb4⟩
    · have HT : Hid (Pl.Bare (B i) → q = n → 0 < n3 → Pl.delim (D 0)) := fun h => absurd hb h.2.1
      go_wp2_with fail
      refine (Wk.concat_any a' (some ⟨w1.heap.size, 0, none⟩) _ n1 n n3 n1 n n3 A B D w3 hn HRA3.out HRB3.out HRD3.out).mono ?_
      rintro e w4 ⟨N, hN, rfl, hc4, hb4⟩
      obtain ⟨hbb4, H16a, H16b⟩ := ends hn hi2 HA.out HB.out HD.out HQ.out HT.out HRB3.out hbb3 hN hc4 hb4
      clear hc4 hb4 hbb3 HRA3 HRB3 HRD3 hN hci HQ HT
      go_wp2_with fail
      refine H16a.mono ?_
      rintro e w' ⟨rfl, rfl⟩
      go_wp2_with fail
      refine H16b.mono ?_
      rintro e w' ⟨rfl, rfl⟩
      go_wp2
      go_ret
      exact ⟨by simp, hbb4⟩
    · have HT : Hid (Pl.Bare (B i) → q = n → 0 < n3 → Pl.delim (D 0)) := fun h => absurd hb h.2.2
      go_wp2_with fail
      refine (Wk.concat_any a' (some ⟨w1.heap.size, 0, none⟩) _ n1 n n3 n1 n n3 A B D w3 hn HRA3.out HRB3.out HRD3.out).mono ?_
      rintro e w4 ⟨N, hN, rfl, hc4, hb4⟩
      obtain ⟨hbb4, H16a, H16b⟩ := ends hn hi2 HA.out HB.out HD.out HQ.out HT.out HRB3.out hbb3 hN hc4 hb4
      clear hc4 hb4 hbb3 HRA3 HRB3 HRD3 hN hci HQ HT
      go_wp2_with fail
      refine H16a.mono ?_
      rintro e w' ⟨rfl, rfl⟩
      go_wp2_with fail
      refine H16b.mono ?_
      rintro e w' ⟨rfl, rfl⟩
      go_wp2
      go_ret
      exact ⟨by simp, hbb4⟩
    · have HT : Hid (Pl.Bare (B i) → q = n → 0 < n3 → Pl.delim (D 0)) := fun _ h => by omega
      obtain ⟨h1, h2, h3⟩ := hb
      have e1 : (B i != 34) = true := by simp [h1]
      have e2 : (B i != 123) = true := by simp [h2]
      have e3 : (B i != 91) = true := by simp [h3]
      go_wp2_with fail
      refine (Wk.concat_any a' (some ⟨w1.heap.size, 0, none⟩) _ n1 n n3 n1 n n3 A B D w3 hn HRA3.out HRB3.out HRD3.out).mono ?_
      rintro e w4 ⟨N, hN, rfl, hc4, hb4⟩
      obtain ⟨hbb4, H16a, H16b⟩ := ends hn hi2 HA.out HB.out HD.out HQ.out HT.out HRB3.out hbb3 hN hc4 hb4
      clear hc4 hb4 hbb3 HRA3 HRB3 HRD3 hN hci HQ HT
      go_wp2_with fail
      refine H16a.mono ?_
      rintro e w' ⟨rfl, rfl⟩
      go_wp2_with fail
      refine H16b.mono ?_
      rintro e w' ⟨rfl, rfl⟩
      go_wp2
      go_ret
      exact ⟨by simp, hbb4⟩
    · have HT : Hid (Pl.Bare (B i) → q = n → 0 < n3 → Pl.delim (D 0)) := fun _ _ h => by omega
      obtain ⟨h1, h2, h3⟩ := hb
      have e1 : (B i != 34) = true := by simp [h1]
      have e2 : (B i != 123) = true := by simp [h2]
      have e3 : (B i != 91) = true := by simp [h3]
      go_wp2_with fail
      refine (Wk.concat_any a' (some ⟨w1.heap.size, 0, none⟩) _ n1 n n3 n1 n n3 A B D w3 hn HRA3.out HRB3.out HRD3.out).mono ?_
      rintro e w4 ⟨N, hN, rfl, hc4, hb4⟩
      obtain ⟨hbb4, H16a, H16b⟩ := ends hn hi2 HA.out HB.out HD.out HQ.out HT.out HRB3.out hbb3 hN hc4 hb4
      clear hc4 hb4 hbb3 HRA3 HRB3 HRD3 hN hci HQ HT
      go_wp2_with fail
      refine H16a.mono ?_
      rintro e w' ⟨rfl, rfl⟩
      go_wp2_with fail
      refine H16b.mono ?_
      rintro e w' ⟨rfl, rfl⟩
      go_wp2
      go_ret
      exact ⟨by simp, hbb4⟩
    · have HT : Hid (Pl.Bare (B i) → q = n → 0 < n3 → Pl.delim (D 0)) := fun _ _ _ => hd
      obtain ⟨h1, h2, h3⟩ := hb
      have e1 : (B i != 34) = true := by simp [h1]
      have e2 : (B i != 123) = true := by simp [h2]
      have e3 : (B i != 91) = true := by simp [h3]
      obtain ⟨b3, off3, rfl, hcd⟩ := Wk.row_cell HRD3.out hn3 (Below.refl _ _)
      rw [Nat.add_zero] at hcd
      have H18 := Wk.dlm_yes (D 0) w3 hd
      clear hd
      go_wp2_with (go_at_call 18; refine H18.mono ?_; rintro e w' ⟨rfl, rfl⟩)
      refine (Wk.concat_any a' (some ⟨w1.heap.size, 0, none⟩) _ n1 n n3 n1 n n3 A B D w3 hn HRA3.out HRB3.out HRD3.out).mono ?_
      rintro e w4 ⟨N, hN, rfl, hc4, hb4⟩
      obtain ⟨hbb4, H16a, H16b⟩ := ends hn hi2 HA.out HB.out HD.out HQ.out HT.out HRB3.out hbb3 hN hc4 hb4
      clear hc4 hb4 hbb3 HRA3 HRB3 HRD3 hN hci HQ HT
      go_wp2_with fail
      refine H16a.mono ?_
      rintro e w' ⟨rfl, rfl⟩
      go_wp2_with fail
      refine H16b.mono ?_
      rintro e w' ⟨rfl, rfl⟩
      go_wp2
      go_ret
      exact ⟨by simp, hbb4⟩
    · obtain ⟨h1, h2, h3⟩ := hb
      have e1 : (B i != 34) = true := by simp [h1]
      have e2 : (B i != 123) = true := by simp [h2]
      have e3 : (B i != 91) = true := by simp [h3]
      obtain ⟨b3, off3, rfl, hcd⟩ := Wk.row_cell HRD3.out hn3 (Below.refl _ _)
      rw [Nat.add_zero] at hcd
      have H18 := Wk.dlm_no (D 0) w3 hd
      clear hd
      go_wp2_with (go_at_call 18; refine H18.mono ?_; rintro e w' ⟨rfl, rfl⟩)
      go_ret
      exact ⟨rfl, hbb3⟩
  · go_wp2
    go_ret
    exact ⟨rfl, hbb3⟩

/-! ### STEP 1: THE WALK: the Go text returns true, AND WRITES NOTHING THAT WAS THERE: 'Below w.heap.size w w'' (Derived/Below.lean: '.refl', '.alloc', '.drew', '.setCell' at a new block, '.trans'). Open each 'IsRow' by 'rcases' AHEAD of 'go_enter'; part every test ahead of the walk. -/
theorem walk (a0 : Option Addr) (len0 cap0 : Nat) (z0 : List Int) (a1 : Option Addr) (len1 cap1 : Nat) (z1 : List Int) (a2 : Option Addr) (len2 cap2 : Nat) (z2 : List Int) (a3 : Int) (w : World) (w0 : IsRow .u8 w a0 len0 cap0 z0) (w1 : IsRow .u8 w a1 len1 cap1 z1) (w2 : IsRow .u8 w a2 len2 cap2 z2) (w3 : (Lit.int .i64 a3).wf = true) :
    Calls Try.prog 6 #[.slice a0 len0 cap0, .slice a1 len1 cap1, .slice a2 len2 cap2, .int .i64 a3] w fun e w' => e = .returned (.bool true) ∧ Below w.heap.size w w' := by
  obtain ⟨A, hA, hrA⟩ := Wk.row_open (by exact w0)
  obtain ⟨B, hB, hrB⟩ := Wk.row_open (by exact w1)
  obtain ⟨D, hD, hrD⟩ := Wk.row_open (by exact w2)
  clear w0 w1 w2
  by_cases hn : len0 + len1 + len2 ≤ 1048576
  · have H17 := Wk.zzb17_le a0 a1 a2 len0 len1 len2 cap0 cap1 cap2 a3 w hn
    by_cases h1 : a3 < 0
    · go_enter Try.func6, Try.ntmps6
      go_wp2_with (go_at_call 17; refine H17.mono ?_; rintro e w' ⟨rfl, rfl⟩)
      all_goals
        go_ret
        exact ⟨rfl, Below.refl _ _⟩
    · by_cases h2 : (len1 : Int) ≤ a3
      · go_enter Try.func6, Try.ntmps6
        go_wp2_with (go_at_call 17; refine H17.mono ?_; rintro e w' ⟨rfl, rfl⟩)
        all_goals
          go_ret
          exact ⟨rfl, Below.refl _ _⟩
      · obtain ⟨i, rfl⟩ : ∃ i : Nat, a3 = (i : Int) := ⟨a3.toNat, by omega⟩
        rcases hrB.2 with h0 | ⟨b, off, rfl, hc⟩
        · omega
        · exact walk_in a0 a2 b off len0 len1 len2 cap0 cap1 cap2 i A B D w hA hB hD hn hrB.1 (by omega) hrA hc hrD
  · have H17 := Wk.zzb17_gt a0 a1 a2 len0 len1 len2 cap0 cap1 cap2 a3 w hn
    go_enter Try.func6, Try.ntmps6
    go_wp2_with (go_at_call 17; refine H17.mono ?_; rintro e w' ⟨rfl, rfl⟩)
    go_ret
    exact ⟨rfl, Below.refl _ _⟩

/-! ### THE ROW's STEP: WRITTEN OUT: LEAVE IT -/
set_option maxRecDepth 100000 in
theorem lifted (os : Os) (started : os.Started) (H : Type) (enc : TypeId × Value → H) :
    ReturnsInHanded {} Try.checked os 6 .any (Rows.fnValueEndUnmovedByBytesAroundSpec.pre6 enc Try.prog Try.f6 Rows.fnValueEndUnmovedByBytesAroundRow.domain false) (Rows.fnValueEndUnmovedByBytesAroundSpec.post enc Try.prog Try.f6 false true false false) := by
  refine returnsInHanded_of_change (C := Try.checked) own started (by kernel_rfl) Try.func6
    (ChangeSpec.witness6 (enc := enc) (C := Try.checked) false ⟨#[], #[.slice none 0 0, .slice none 0 0, .slice none 0 0, .int .i64 0], []⟩ 8 (by kernel_rfl) (by kernel_rfl) (by kernel_rfl) (by kernel_rfl)) ?_
  intro W base args ds gs before hval0 hW hcnd _
  have hval : ∀ (j : Nat) t v, Try.f6.params[j]? = some t → args[j]? = some v → Value.okWide Try.prog W .any base t v := hval0
  have hW' := hW
  obtain ⟨p, q, hA0, hV, rfl, hfz, hnd⟩ := hW
  have hA : DataW.TrodAll enc Try.prog W 0 (fun _ => true) true Try.f6.params.toList args.toList ds p := hA0
  rw [Try.params6] at hA hval
  obtain ⟨v0, vs0, d0, ds0, p0, q0, hargs, rfl, rfl, h0, r0⟩ := trodAll_cons hA
  obtain ⟨v1, vs1, d1, ds1, p1, q1, rfl, rfl, rfl, h1, r1⟩ := trodAll_cons r0
  obtain ⟨v2, vs2, d2, ds2, p2, q2, rfl, rfl, rfl, h2, r2⟩ := trodAll_cons r1
  obtain ⟨v3, vs3, d3, ds3, p3, q3, rfl, rfl, rfl, h3, r3⟩ := trodAll_cons r2
  obtain ⟨rfl, rfl, rfl⟩ := trodAll_nil r3
  obtain rfl : args = #[v0, v1, v2, v3] := by cases args; simp_all
  obtain ⟨rfl, rfl⟩ := trodVars_none hV
  obtain ⟨a0, len0, cap0, rfl⟩ := okWide_slice Try.underlying22 (hval 0 22 v0 rfl rfl)
  have k0 := h0
  have lt0 : ∀ x ∈ p0, x.block < W.heap.size := by obtain ⟨m, hm⟩ := k0; exact DataW.trod_lt m _ _ _ hm
  obtain ⟨z0, w0⟩ : ∃ zs, IsRow .u8 W a0 len0 cap0 zs := by
    obtain ⟨fuel, hf⟩ := h0
    rcases open_ints Try.underlying22 Try.underlying5 (by kernel_rfl) hf with ⟨hcs, _⟩ | ⟨x, l, c, zs, hcs, _, hl, hm, hz, _, hcell, hwz⟩
    · simp [Value.cells] at hcs
      obtain ⟨rfl, rfl, rfl⟩ := hcs
      exact ⟨[], .inl ⟨rfl, rfl, rfl, rfl⟩⟩
    · simp [Value.cells] at hcs
      obtain ⟨rfl, rfl, rfl⟩ := hcs
      exact ⟨zs, .inr ⟨_, rfl, hl, hm, by simpa using hz, hcell, hwz⟩⟩
  obtain ⟨a1, len1, cap1, rfl⟩ := okWide_slice Try.underlying22 (hval 1 22 v1 rfl rfl)
  have k1 := h1
  have lt1 : ∀ x ∈ p1, x.block < W.heap.size := by obtain ⟨m, hm⟩ := k1; exact DataW.trod_lt m _ _ _ hm
  obtain ⟨z1, w1⟩ : ∃ zs, IsRow .u8 W a1 len1 cap1 zs := by
    obtain ⟨fuel, hf⟩ := h1
    rcases open_ints Try.underlying22 Try.underlying5 (by kernel_rfl) hf with ⟨hcs, _⟩ | ⟨x, l, c, zs, hcs, _, hl, hm, hz, _, hcell, hwz⟩
    · simp [Value.cells] at hcs
      obtain ⟨rfl, rfl, rfl⟩ := hcs
      exact ⟨[], .inl ⟨rfl, rfl, rfl, rfl⟩⟩
    · simp [Value.cells] at hcs
      obtain ⟨rfl, rfl, rfl⟩ := hcs
      exact ⟨zs, .inr ⟨_, rfl, hl, hm, by simpa using hz, hcell, hwz⟩⟩
  obtain ⟨a2, len2, cap2, rfl⟩ := okWide_slice Try.underlying22 (hval 2 22 v2 rfl rfl)
  have k2 := h2
  have lt2 : ∀ x ∈ p2, x.block < W.heap.size := by obtain ⟨m, hm⟩ := k2; exact DataW.trod_lt m _ _ _ hm
  obtain ⟨z2, w2⟩ : ∃ zs, IsRow .u8 W a2 len2 cap2 zs := by
    obtain ⟨fuel, hf⟩ := h2
    rcases open_ints Try.underlying22 Try.underlying5 (by kernel_rfl) hf with ⟨hcs, _⟩ | ⟨x, l, c, zs, hcs, _, hl, hm, hz, _, hcell, hwz⟩
    · simp [Value.cells] at hcs
      obtain ⟨rfl, rfl, rfl⟩ := hcs
      exact ⟨[], .inl ⟨rfl, rfl, rfl, rfl⟩⟩
    · simp [Value.cells] at hcs
      obtain ⟨rfl, rfl, rfl⟩ := hcs
      exact ⟨zs, .inr ⟨_, rfl, hl, hm, by simpa using hz, hcell, hwz⟩⟩
  obtain ⟨a3, rfl, rfl, rfl, w3⟩ := open_int Try.underlying3 (hval 3 3 v3 rfl rfl) h3
  clear hA0 hval0
  refine (walk a0 len0 cap0 z0 a1 len1 cap1 z1 a2 len2 cap2 z2 a3 W w0 w1 w2 w3).mono fun e W' ⟨he, bel⟩ => ?_
  subst he
  exact ⟨_, rfl, _, _, _, [], _, [], hW', trodAll_mk1 (shut_bool Try.underlying4 _), (trodAll_cons_mk (Below.trod laidOut (by kernel_rfl) (of_decide_eq_true (by kernel_rfl)) k0 bel lt0) (trodAll_cons_mk (Below.trod laidOut (by kernel_rfl) (of_decide_eq_true (by kernel_rfl)) k1 bel lt1) (trodAll_cons_mk (Below.trod laidOut (by kernel_rfl) (of_decide_eq_true (by kernel_rfl)) k2 bel lt2) (trodAll_cons_mk (shut_int Try.underlying3 w3) trodAll_mk0)))), rfl, bel.frame _, fun h => by cases h⟩

theorem over : Rows.fnValueEndUnmovedByBytesAroundRow.holds Try.pinned (OpenSpec.ofChange Rows.fnValueEndUnmovedByBytesAroundSpec) :=
  OpenClaim.holds_of_wide 6 Try.f6 rfl rfl rfl rfl rfl rfl rfl ⟨rfl, rfl, rfl, rfl, rfl⟩ rfl rfl rfl rfl rfl (by kernel_rfl) Try.func6 (by kernel_rfl)
    (of_decide_eq_true (by kernel_rfl)) (by unfold Func.isWrapper; first | (rw [if_pos (by decide +kernel)]; kernel_rfl) | (rw [if_neg (by decide +kernel)]; exact ⟨rfl, rfl⟩))
    (fun os started H enc _ => lifted os started H enc)

/-- ████ THE STATEMENT ████ -/
theorem proved : Rows.FnValueEndUnmovedByBytesAroundSaid := over
#print axioms proved
end Go.Proofs.Qxb6601459a.fnValueEndUnmovedByBytesAround
