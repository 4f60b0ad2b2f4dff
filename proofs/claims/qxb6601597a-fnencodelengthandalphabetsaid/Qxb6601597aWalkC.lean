import Derived.Test.Qxb6601597aWalkB
import Derived.Laws.BytesArg
namespace Go.Proofs.Qxb6601597a.Wk
open Go.RowKit

/-! ### encode (28) -/
def vals (cs : List UInt8) : List Value := cs.map fun c => Value.int .u8 (c.toNat : Int)

/-- What the outer loop has gathered ahead of the group that begins at i = 3 g. -/
def Gath (m g : Nat) (cs : List UInt8) : Prop := ((3 * g ≤ m ∧ cs.length = 4 * g) ∨ (m < 3 * g ∧ cs.length = Pl.encLen m)) ∧ ∀ c ∈ cs, Pl.isAl c = true

/-- The number fits its kind. -/
def U64 (z : Int) : Prop := (Lit.int .u64 z).wf = true

theorem u64_or (x y : Int) : U64 (bits BinOp.or IntKind.u64 x y) := wf_bits _ _ _ _

theorem u64_shr {z : Int} (h : U64 z) : U64 (z / 64) := by
  have hz := bounds_u64 h
  show (Lit.int .u64 (z / 64)).wf = true
  simp [Lit.wf, IntKind.min, IntKind.max, IntKind.signed, IntKind.bits]
  omega

theorem u64_mask {z : Int} (h : U64 z) : ∃ p : Nat, bits BinOp.and IntKind.u64 z 63 = (p : Int) ∧ p < 64 := by
  have hz := bounds_u64 h
  refine ⟨z.toNat &&& (63 : Int).toNat, u64_and z 63 hz.1 (by omega) (by omega) (by omega), ?_⟩
  exact Nat.lt_of_le_of_lt Nat.and_le_right (by decide)

theorem al_size : (⟨#[46, 47, 48, 49, 50, 51, 52, 53, 54, 55, 56, 57, 65, 66, 67, 68, 69, 70, 71, 72, 73, 74, 75, 76, 77, 78, 79, 80, 81, 82, 83, 84, 85, 86, 87, 88, 89, 90, 97, 98, 99, 100, 101, 102, 103, 104, 105, 106, 107, 108, 109, 110, 111, 112, 113, 114, 115, 116, 117, 118, 119, 120, 121, 122]⟩ : ByteArray).size = 64 := rfl

theorem al_at (p : Nat) (h : p < (⟨#[46, 47, 48, 49, 50, 51, 52, 53, 54, 55, 56, 57, 65, 66, 67, 68, 69, 70, 71, 72, 73, 74, 75, 76, 77, 78, 79, 80, 81, 82, 83, 84, 85, 86, 87, 88, 89, 90, 97, 98, 99, 100, 101, 102, 103, 104, 105, 106, 107, 108, 109, 110, 111, 112, 113, 114, 115, 116, 117, 118, 119, 120, 121, 122]⟩ : ByteArray).size) : Pl.isAl ((⟨#[46, 47, 48, 49, 50, 51, 52, 53, 54, 55, 56, 57, 65, 66, 67, 68, 69, 70, 71, 72, 73, 74, 75, 76, 77, 78, 79, 80, 81, 82, 83, 84, 85, 86, 87, 88, 89, 90, 97, 98, 99, 100, 101, 102, 103, 104, 105, 106, 107, 108, 109, 110, 111, 112, 113, 114, 115, 116, 117, 118, 119, 120, 121, 122]⟩ : ByteArray)[p]'h) = true := by
  have e : (⟨#[46, 47, 48, 49, 50, 51, 52, 53, 54, 55, 56, 57, 65, 66, 67, 68, 69, 70, 71, 72, 73, 74, 75, 76, 77, 78, 79, 80, 81, 82, 83, 84, 85, 86, 87, 88, 89, 90, 97, 98, 99, 100, 101, 102, 103, 104, 105, 106, 107, 108, 109, 110, 111, 112, 113, 114, 115, 116, 117, 118, 119, 120, 121, 122]⟩ : ByteArray)[p]'h = Pl.alph.getD p 0 := by
    have hp : p < Pl.alph.length := h
    rw [List.getD_eq_getElem?_getD, List.getElem?_eq_getElem hp]
    rfl
  rw [e]
  exact Pl.alph_at p h

theorem vals_at (cs : List UInt8) (i : Nat) (h : i < cs.length) : (vals cs)[i]? = some (Value.int .u8 ((cs.map fun c => (c.toNat : Int)).getD i 0)) := by
  simp [vals, h]

theorem str_of (cs : List UInt8) : strOfNums (cs.map fun c => (c.toNat : Int)) = ⟨cs.toArray⟩ := by
  simp only [strOfNums, List.map_map]
  congr 2
  conv => rhs; rw [← List.map_id cs]
  apply List.map_congr_left
  intro c _
  simp

theorem vals_snoc (cs : List UInt8) (c : UInt8) : vals cs ++ [Value.int .u8 (c.toNat : Int)] = vals (cs ++ [c]) := by simp [vals]

set_option maxHeartbeats 2000000 in
theorem enc_any (a d : Option Addr) (m n c c' : Nat) (E D : Nat → Int) (w : World) (hm : m ≤ 131072) (_hn : n ≤ 1048576) (hE : RowAt .i64 w a m c E) (hD : RowAt .u8 w d n c' D) (hb : ∀ k, k < m → 0 ≤ E k ∧ E k < n) :
    Calls Try.prog 28 #[.slice a m c, .slice d n c'] w fun e w' => ∃ cs : List UInt8, e = .returned (.string ⟨cs.toArray⟩) ∧ cs.length = Pl.encLen m ∧ (∀ c ∈ cs, Pl.isAl c = true) ∧ Below w.heap.size w w' := by
  obtain ⟨i0, hi, hz0, hz1, hz2⟩ := info_parts info5
  have HE : Hid (RowAt .i64 w a m c E) := hE
  have HD : Hid (RowAt .u8 w d n c' D) := hD
  have HB : Hid (∀ k, k < m → 0 ≤ E k ∧ E k < n) := hb
  have hmc : m ≤ c := hE.1
  clear hE hD hb
  have H30 := encLen_any a m c w hm
  obtain ⟨C, hC, HC⟩ : ∃ C, C ≤ 1048576 ∧ Hid (C = Pl.encLen m) := ⟨_, by unfold Pl.encLen; omega, rfl⟩
  go_enter Try.func28, Try.ntmps28
  go_wp2_with fail
  refine H30.mono ?_
  rintro e w' ⟨rfl, rfl⟩
  rw [← HC.out]
  clear H30
  go_wp2_with (at_make; refine wpList_make_own _ rfl _ _ 23 rfl w.heap.size 5 i0 (.int .u8 0) 1 Try.underlying23 hi hz0 hz1 .i64 .i64 _ C rfl rfl rfl (by rw [hz2]; omega) (by unfold maxLen; omega) (Nat.le_refl _) ?_; intro w1 hown hgr)
  have hb1 : Below w.heap.size w w1 := (Below.refl _ _).grown hgr (Nat.le_refl _) (fun k h => by cases h)
  clear hgr
  go_loopw [5, 6] (fun o i wr => ∃ (g : Nat) (cs : List UInt8), 3 * g ≤ m + 2 ∧ cs.length ≤ C ∧ i = .int .i64 ((3 * g : Nat) : Int) ∧ o = .slice (some ⟨w.heap.size, 0, none⟩) cs.length C ∧ Gath m g cs ∧ wr.ownsRow w.heap.size 5 1 (.slice (some ⟨w.heap.size, 0, none⟩) cs.length C) cs.length (vals cs) ∧ Below w.heap.size w wr) (fun _ i _ => m + 3 - (intOf i).toNat)
  case atStart => exact ⟨0, [], by omega, by simp, rfl, rfl, ⟨.inl ⟨by omega, rfl⟩, by simp⟩, hown, hb1⟩
  case round =>
    clear hown hb1
    obtain ⟨g, cs, hg, hcs, rfl, rfl, hga, hown, hb⟩ := hrel
    have HG : Hid (Gath m g cs) := hga
    clear hga
    by_cases hlt : 3 * g < m
    · obtain ⟨b, off, rfl, _⟩ := row_cell HE.out hlt hb
      by_cases h3 : 3 * g + 3 ≤ m
      · have hroom : cs.length + 4 ≤ C := by
          rcases HG.out.1 with ⟨_, h⟩ | ⟨h, _⟩
          · rw [h, HC.out]; exact Pl.encLen_full g m h3
          · omega
        go_wp2
        go_loop [8, 30] (fun v x => ∃ (k : Nat) (z : Int), k ≤ 3 ∧ x = .int .i64 (k : Int) ∧ v = .int .u64 z ∧ U64 z) (fun _ x => 3 - (intOf x).toNat)
        case atStart => exact ⟨0, 0, by omega, rfl, rfl, (by decide : (Lit.int .u64 0).wf = true)⟩
        case round =>
          obtain ⟨k, z, hk, rfl, rfl, hz⟩ := hrel
          by_cases hk3 : k < 3
          · obtain ⟨_, _, hx, hcx⟩ := row_cell HE.out (show 3 * g + k < m by omega) hb
            cases hx
            rw [← Nat.add_assoc] at hcx
            obtain ⟨j, hj, hjn⟩ : ∃ j : Nat, E (3 * g + k) = (j : Int) ∧ j < n := ⟨(E (3 * g + k)).toNat, by have := HB.out (3 * g + k) (by omega); omega, by have := HB.out (3 * g + k) (by omega); omega⟩
            rw [hj] at hcx
            obtain ⟨bd, offd, rfl, hdx⟩ := row_cell HD.out hjn hb
            clear hj hz
            go_wp2
            go_round
            case rel => exact ⟨k + 1, _, by omega, by go_num, rfl, u64_or _ _⟩
            case measure => simp [intOf]; omega
          · go_wp2
            obtain ⟨wo, rfl⟩ : ∃ wo : World, wo = wr := ⟨_, rfl⟩
            go_loopw [5, 8, 46] (fun o v x wr => ∃ (k : Nat) (z : Int) (ds : List UInt8), k ≤ 4 ∧ cs.length + k ≤ C ∧ x = .int .i64 (k : Int) ∧ v = .int .u64 z ∧ U64 z ∧ o = .slice (some ⟨w.heap.size, 0, none⟩) (cs.length + k) C ∧ ds.length = cs.length + k ∧ (∀ c ∈ ds, Pl.isAl c = true) ∧ wr.ownsRow w.heap.size 5 1 (.slice (some ⟨w.heap.size, 0, none⟩) (cs.length + k) C) (cs.length + k) (vals ds) ∧ Below w.heap.size w wr) (fun _ _ x _ => 4 - (intOf x).toNat)
            case atStart => exact ⟨0, z, cs, by omega, hcs, rfl, rfl, hz, rfl, rfl, HG.out.2, hown, hb⟩
            case round =>
              clear hown hb hz
              obtain ⟨k, z, ds, hk, hkC, rfl, rfl, hz, rfl, hdl, hda, hown, hb⟩ := hrel
              obtain ⟨p, hp, hp64⟩ := u64_mask hz
              have HZ : Hid (U64 (z / 64)) := u64_shr hz
              clear hz
              by_cases hk4 : k < 4
              · have hps : p < (⟨#[46, 47, 48, 49, 50, 51, 52, 53, 54, 55, 56, 57, 65, 66, 67, 68, 69, 70, 71, 72, 73, 74, 75, 76, 77, 78, 79, 80, 81, 82, 83, 84, 85, 86, 87, 88, 89, 90, 97, 98, 99, 100, 101, 102, 103, 104, 105, 106, 107, 108, 109, 110, 111, 112, 113, 114, 115, 116, 117, 118, 119, 120, 121, 122]⟩ : ByteArray).size := hp64
                go_wp2_with (at_builtin; refine wpList_append_fits _ rfl _ _ 23 rfl w.heap.size 5 i0 1 Try.underlying23 hi hz1 w.heap.size (cs.length + k) C (vals ds) rfl (hown.alloc _) ⟨wr.heap.size, 0, none⟩ 1 1 [.int .u8 (((⟨#[46, 47, 48, 49, 50, 51, 52, 53, 54, 55, 56, 57, 65, 66, 67, 68, 69, 70, 71, 72, 73, 74, 75, 76, 77, 78, 79, 80, 81, 82, 83, 84, 85, 86, 87, 88, 89, 90, 97, 98, 99, 100, 101, 102, 103, 104, 105, 106, 107, 108, 109, 110, 111, 112, 113, 114, 115, 116, 117, 118, 119, 120, 121, 122]⟩ : ByteArray)[p]'hps).toNat : Int)] rfl rfl ?c1 ?c2 ?c3 ?_)
                case c2 => first | rfl | (intro u hu; simp at hu; subst hu; rfl)
                case c3 => omega
                intro w2 hown2 hgr2
                have hal := al_at p hps
                rw [vals_snoc] at hown2
                have hb2 : Below w.heap.size w w2 := (hb.alloc hb.size _).grown hgr2 (by have := hb.size; simp; omega) (fun j hj => by cases hj; exact Nat.le_refl _)
                generalize (⟨#[46, 47, 48, 49, 50, 51, 52, 53, 54, 55, 56, 57, 65, 66, 67, 68, 69, 70, 71, 72, 73, 74, 75, 76, 77, 78, 79, 80, 81, 82, 83, 84, 85, 86, 87, 88, 89, 90, 97, 98, 99, 100, 101, 102, 103, 104, 105, 106, 107, 108, 109, 110, 111, 112, 113, 114, 115, 116, 117, 118, 119, 120, 121, 122]⟩ : ByteArray)[p]'hps = ch at hal hown2
                have hdl2 : (ds ++ [ch]).length = cs.length + (k + 1) := by simp [hdl]; omega
                have hda2 : ∀ c ∈ ds ++ [ch], Pl.isAl c = true := by
                  intro c hc
                  rcases List.mem_append.1 hc with h | h
                  · exact hda c h
                  · rw [List.mem_singleton.1 h]; exact hal
                have HX : Hid ((ds ++ [ch]).length = cs.length + (k + 1) ∧ (∀ c ∈ ds ++ [ch], Pl.isAl c = true) ∧ w2.ownsRow w.heap.size 5 1 (Value.slice (some { block := w.heap.size, off := 0 }) (cs.length + k + 1) C) (cs.length + k + 1) (vals (ds ++ [ch])) ∧ Below w.heap.size w w2) := ⟨hdl2, hda2, hown2, hb2⟩
                clear hown hgr2 hown2 hb2 hb hal hda hda2 hdl2
                go_wp2
                go_roundw
                case rel => exact ⟨k + 1, _, ds ++ [ch], by omega, by omega, by go_num, rfl, HZ.out, rfl, HX.out.1, HX.out.2.1, HX.out.2.2.1, HX.out.2.2.2⟩
                case measure => simp [intOf]; omega
              · obtain rfl : k = 4 := by omega
                have HX : Hid (Gath m (g + 1) ds ∧ wr.ownsRow w.heap.size 5 1 (.slice (some ⟨w.heap.size, 0, none⟩) ds.length C) ds.length (vals ds) ∧ Below w.heap.size w wr) := by
                  refine ⟨⟨.inl ⟨by omega, ?_⟩, hda⟩, by rw [hdl]; exact hown, hb⟩
                  rcases HG.out.1 with ⟨_, h⟩ | ⟨h, _⟩
                  · omega
                  · omega
                have HL : Hid (ds.length = cs.length + 4) := hdl
                clear hown hb hda hdl HZ hp
                go_wp2
                go_roundw
                case rel => exact ⟨g + 1, ds, by omega, by rw [HL.out]; exact hroom, by go_num, by rw [HL.out], HX.out.1, HX.out.2.1, HX.out.2.2⟩
                case measure => simp [intOf]; omega
      · obtain ⟨r, hr⟩ : ∃ r, m - 3 * g = r := ⟨_, rfl⟩
        have hr1 : 1 ≤ r := by omega
        have hr2 : r ≤ 2 := by omega
        have hroom : cs.length + (r + 1) ≤ C := by
          rcases HG.out.1 with ⟨_, h⟩ | ⟨h, _⟩
          · have := Pl.encLen_last g r m (by omega) hr1 hr2
            rw [HC.out, ← this]; omega
          · omega
        go_wp2
        go_loop [8, 30] (fun v x => ∃ (k : Nat) (z : Int), k ≤ r ∧ x = .int .i64 (k : Int) ∧ v = .int .u64 z ∧ U64 z) (fun _ x => r - (intOf x).toNat)
        case atStart => exact ⟨0, 0, by omega, rfl, rfl, (by decide : (Lit.int .u64 0).wf = true)⟩
        case round =>
          obtain ⟨k, z, hk, rfl, rfl, hz⟩ := hrel
          by_cases hk3 : k < r
          · obtain ⟨_, _, hx, hcx⟩ := row_cell HE.out (show 3 * g + k < m by omega) hb
            cases hx
            rw [← Nat.add_assoc] at hcx
            obtain ⟨j, hj, hjn⟩ : ∃ j : Nat, E (3 * g + k) = (j : Int) ∧ j < n := ⟨(E (3 * g + k)).toNat, by have := HB.out (3 * g + k) (by omega); omega, by have := HB.out (3 * g + k) (by omega); omega⟩
            rw [hj] at hcx
            obtain ⟨bd, offd, rfl, hdx⟩ := row_cell HD.out hjn hb
            clear hj hz
            go_wp2
            go_round
            case rel => exact ⟨k + 1, _, by omega, by go_num, rfl, u64_or _ _⟩
            case measure => simp [intOf]; omega
          · go_wp2
            obtain ⟨wo, rfl⟩ : ∃ wo : World, wo = wr := ⟨_, rfl⟩
            go_loopw [5, 8, 46] (fun o v x wr => ∃ (k : Nat) (z : Int) (ds : List UInt8), k ≤ r + 1 ∧ cs.length + k ≤ C ∧ x = .int .i64 (k : Int) ∧ v = .int .u64 z ∧ U64 z ∧ o = .slice (some ⟨w.heap.size, 0, none⟩) (cs.length + k) C ∧ ds.length = cs.length + k ∧ (∀ c ∈ ds, Pl.isAl c = true) ∧ wr.ownsRow w.heap.size 5 1 (.slice (some ⟨w.heap.size, 0, none⟩) (cs.length + k) C) (cs.length + k) (vals ds) ∧ Below w.heap.size w wr) (fun _ _ x _ => r + 1 - (intOf x).toNat)
            case atStart => exact ⟨0, z, cs, by omega, hcs, rfl, rfl, hz, rfl, rfl, HG.out.2, hown, hb⟩
            case round =>
              clear hown hb hz
              obtain ⟨k, z, ds, hk, hkC, rfl, rfl, hz, rfl, hdl, hda, hown, hb⟩ := hrel
              obtain ⟨p, hp, hp64⟩ := u64_mask hz
              have HZ : Hid (U64 (z / 64)) := u64_shr hz
              clear hz
              by_cases hk4 : k < r + 1
              · have hps : p < (⟨#[46, 47, 48, 49, 50, 51, 52, 53, 54, 55, 56, 57, 65, 66, 67, 68, 69, 70, 71, 72, 73, 74, 75, 76, 77, 78, 79, 80, 81, 82, 83, 84, 85, 86, 87, 88, 89, 90, 97, 98, 99, 100, 101, 102, 103, 104, 105, 106, 107, 108, 109, 110, 111, 112, 113, 114, 115, 116, 117, 118, 119, 120, 121, 122]⟩ : ByteArray).size := hp64
                go_wp2_with (at_builtin; refine wpList_append_fits _ rfl _ _ 23 rfl w.heap.size 5 i0 1 Try.underlying23 hi hz1 w.heap.size (cs.length + k) C (vals ds) rfl (hown.alloc _) ⟨wr.heap.size, 0, none⟩ 1 1 [.int .u8 (((⟨#[46, 47, 48, 49, 50, 51, 52, 53, 54, 55, 56, 57, 65, 66, 67, 68, 69, 70, 71, 72, 73, 74, 75, 76, 77, 78, 79, 80, 81, 82, 83, 84, 85, 86, 87, 88, 89, 90, 97, 98, 99, 100, 101, 102, 103, 104, 105, 106, 107, 108, 109, 110, 111, 112, 113, 114, 115, 116, 117, 118, 119, 120, 121, 122]⟩ : ByteArray)[p]'hps).toNat : Int)] rfl rfl ?d1 ?d2 ?d3 ?_)
                case d2 => first | rfl | (intro u hu; simp at hu; subst hu; rfl)
                case d3 => omega
                intro w2 hown2 hgr2
                have hal := al_at p hps
                rw [vals_snoc] at hown2
                have hb2 : Below w.heap.size w w2 := (hb.alloc hb.size _).grown hgr2 (by have := hb.size; simp; omega) (fun j hj => by cases hj; exact Nat.le_refl _)
                generalize (⟨#[46, 47, 48, 49, 50, 51, 52, 53, 54, 55, 56, 57, 65, 66, 67, 68, 69, 70, 71, 72, 73, 74, 75, 76, 77, 78, 79, 80, 81, 82, 83, 84, 85, 86, 87, 88, 89, 90, 97, 98, 99, 100, 101, 102, 103, 104, 105, 106, 107, 108, 109, 110, 111, 112, 113, 114, 115, 116, 117, 118, 119, 120, 121, 122]⟩ : ByteArray)[p]'hps = ch at hal hown2
                have hdl2 : (ds ++ [ch]).length = cs.length + (k + 1) := by simp [hdl]; omega
                have hda2 : ∀ c ∈ ds ++ [ch], Pl.isAl c = true := by
                  intro c hc
                  rcases List.mem_append.1 hc with h | h
                  · exact hda c h
                  · rw [List.mem_singleton.1 h]; exact hal
                have HX : Hid ((ds ++ [ch]).length = cs.length + (k + 1) ∧ (∀ c ∈ ds ++ [ch], Pl.isAl c = true) ∧ w2.ownsRow w.heap.size 5 1 (Value.slice (some { block := w.heap.size, off := 0 }) (cs.length + k + 1) C) (cs.length + k + 1) (vals (ds ++ [ch])) ∧ Below w.heap.size w w2) := ⟨hdl2, hda2, hown2, hb2⟩
                clear hown hgr2 hown2 hb2 hb hal hda hda2 hdl2
                go_wp2
                go_roundw
                case rel => exact ⟨k + 1, _, ds ++ [ch], by omega, by omega, by go_num, rfl, HZ.out, rfl, HX.out.1, HX.out.2.1, HX.out.2.2.1, HX.out.2.2.2⟩
                case measure => simp [intOf]; omega
              · obtain rfl : k = r + 1 := by omega
                have HX : Hid (Gath m (g + 1) ds ∧ wr.ownsRow w.heap.size 5 1 (.slice (some ⟨w.heap.size, 0, none⟩) ds.length C) ds.length (vals ds) ∧ Below w.heap.size w wr) := by
                  refine ⟨⟨.inr ⟨by omega, ?_⟩, hda⟩, by rw [hdl]; exact hown, hb⟩
                  rcases HG.out.1 with ⟨_, h⟩ | ⟨h, _⟩
                  · rw [← Pl.encLen_last g r m (by omega) hr1 hr2]; omega
                  · omega
                have HL : Hid (ds.length = cs.length + (r + 1)) := hdl
                clear hown hb hda hdl HZ hp
                go_wp2
                go_roundw
                case rel => exact ⟨g + 1, ds, by omega, by rw [HL.out]; exact hroom, by go_num, by rw [HL.out], HX.out.1, HX.out.2.1, HX.out.2.2⟩
                case measure => simp [intOf]; omega
    · have HL : Hid (cs.length = Pl.encLen m) := by
        rcases HG.out.1 with ⟨h1, h2⟩ | ⟨_, h2⟩
        · show cs.length = Pl.encLen m
          rw [h2, show m = 3 * g from by omega]
          exact Pl.encLen_even g
        · exact h2
      have hcv := run_convert_bytes_arg (P := Try.prog) wr 23 5 Try.underlying23 Try.underlying5 w.heap.size 0 cs.length C (cs.map fun c => (c.toNat : Int)) (by simp) (fun i hi => by rw [Nat.zero_add, hown.cellAt i (by omega), vals_at cs i hi]) 9 Try.underlying9
      rw [str_of] at hcv
      clear hown
      go_wp2
      go_ret
      exact ⟨cs, rfl, HL.out, HG.out.2, hb⟩

/-! ### ZZEncode (15) -/
theorem bytes_al (cs : List UInt8) (h : ∀ c ∈ cs, Pl.isAl c = true) (i : Nat) (hi : i < (⟨cs.toArray⟩ : ByteArray).size) : Pl.isAl ((⟨cs.toArray⟩ : ByteArray)[i]'hi) = true := by
  have hi' : i < cs.length := by simpa [ByteArray.size] using hi
  have e : (⟨cs.toArray⟩ : ByteArray)[i]'hi = cs[i] := by
    show cs.toArray[i] = cs[i]
    simp
  rw [e]
  exact h _ (List.getElem_mem hi')

set_option maxHeartbeats 400000 in
theorem zzEnc_any (a d : Option Addr) (m n c c' : Nat) (E D : Nat → Int) (w : World) (hm : m ≤ 131072) (hn : n ≤ 1048576) (hE : RowAt .i64 w a m c E) (hD : RowAt .u8 w d n c' D) (hb : ∀ k, k < m → 0 ≤ E k ∧ E k < n) :
    Calls Try.prog 15 #[.slice a m c, .slice d n c'] w fun e w' => ∃ s : ByteArray, e = .returned (.string s) ∧ s.size = Pl.encLen m ∧ (∀ i (h : i < s.size), Pl.isAl s[i] = true) ∧ Below w.heap.size w w' := by
  have H := enc_any a d m n c c' E D w hm hn hE hD hb
  clear hE hD hb
  go_enter Try.func15, Try.ntmps15
  go_wp2_with fail
  refine H.mono ?_
  rintro e w' ⟨cs, rfl, hl, hal, hbel⟩
  have HX : Hid ((⟨cs.toArray⟩ : ByteArray).size = Pl.encLen m ∧ ∀ i (h : i < (⟨cs.toArray⟩ : ByteArray).size), Pl.isAl (⟨cs.toArray⟩ : ByteArray)[i] = true) := ⟨by rw [← hl]; simp [ByteArray.size], fun i hi => bytes_al cs hal i hi⟩
  clear hl hal H
  go_wp2
  go_ret
  exact ⟨_, rfl, HX.out.1, HX.out.2, hbel⟩

/-! ### zzBytes_FnEncodeLengthAndAlphabet (17) -/
set_option maxHeartbeats 400000 in
theorem zzb17_le (a b : Option Addr) (n1 n2 c1 c2 : Nat) (w : World) (hn : n1 + n2 ≤ 1048576) :
    Calls Try.prog 17 #[.slice a n1 c1, .slice b n2 c2] w fun e w' => e = .returned (.bool true) ∧ w = w' := by
  go_enter Try.func17, Try.ntmps17
  go_wp2
  go_ret
  exact ⟨rfl, rfl⟩

set_option maxHeartbeats 1000000 in
theorem zzb17_gt (a b : Option Addr) (n1 n2 c1 c2 : Nat) (w : World) (hn : ¬ n1 + n2 ≤ 1048576) :
    Calls Try.prog 17 #[.slice a n1 c1, .slice b n2 c2] w fun e w' => e = .returned (.bool false) ∧ w = w' := by
  by_cases h1 : n1 ≤ 1048576
  · by_cases h2 : n2 ≤ 1048576
    all_goals
      go_enter Try.func17, Try.ntmps17
      go_wp2
      go_ret
      exact ⟨rfl, rfl⟩
  · go_enter Try.func17, Try.ntmps17
    go_wp2
    go_ret
    exact ⟨rfl, rfl⟩

end Go.Proofs.Qxb6601597a.Wk
