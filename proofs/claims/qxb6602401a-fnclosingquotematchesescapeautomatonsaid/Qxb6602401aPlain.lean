/-
  THE PLAIN LAWS OF SEAT b6602401a: no Go in sight. Bytes are told by a function 'B : Nat → Int'.
-/
import Derived.Lib.IndexLaws
import Derived.Lib.Bytes
namespace Go.Proofs.Qxb6602401a.Pl

/-- The escape flag of the forward walk that begins at i, behind k bytes. -/
def esc (B : Nat → Int) (i : Nat) : Nat → Bool
  | 0 => false
  | k + 1 => !esc B i k && decide (B (i + k) = 92)

/-- How many backslashes stand right before j. -/
def bk (B : Nat → Int) : Nat → Nat
  | 0 => 0
  | j + 1 => if B j = 92 then bk B j + 1 else 0

theorem bk_zero {B : Nat → Int} {i : Nat} (h1 : 1 ≤ i) (h : B (i - 1) ≠ 92) : bk B i = 0 := by
  obtain ⟨j, rfl⟩ : ∃ j, i = j + 1 := ⟨i - 1, by omega⟩
  simp only [Nat.add_sub_cancel] at h
  simp only [bk]
  rw [if_neg h]

theorem bk_succ {B : Nat → Int} {j : Nat} (h1 : 1 ≤ j) (h : B (j - 1) = 92) : bk B j = bk B (j - 1) + 1 := by
  obtain ⟨i, rfl⟩ : ∃ i, j = i + 1 := ⟨j - 1, by omega⟩
  simp only [bk, Nat.add_sub_cancel] at h ⊢
  rw [if_pos h]

theorem esc_bk {B : Nat → Int} {i : Nat} (h1 : 1 ≤ i) (h : B (i - 1) ≠ 92) (k : Nat) : esc B i k = decide (bk B (i + k) % 2 = 1) := by
  induction k with
  | zero => simp [esc, bk_zero h1 h]
  | succ k ih =>
    have e : i + (k + 1) = (i + k) + 1 := by omega
    rw [e]
    have e2 : esc B i (k + 1) = (!esc B i k && decide (B (i + k) = 92)) := rfl
    rw [e2, ih]
    by_cases hb : B (i + k) = 92
    · have e3 : bk B (i + k + 1) = bk B (i + k) + 1 := if_pos hb
      rw [e3]
      by_cases hp : bk B (i + k) % 2 = 1
      · have : ¬ (bk B (i + k) + 1) % 2 = 1 := by omega
        simp [hp, hb, this]
      · have : (bk B (i + k) + 1) % 2 = 1 := by omega
        simp [hp, hb, this]
    · have e3 : bk B (i + k + 1) = 0 := if_neg hb
      rw [e3]
      simp [hb]

/-- A quote at j that no backslash takes, for the forward walk from i. -/
def OpenAt (B : Nat → Int) (i j : Nat) : Prop := B j = 34 ∧ esc B i (j - i) = false

def FirstOpen (B : Nat → Int) (n i q : Nat) : Prop := i ≤ q ∧ q < n ∧ OpenAt B i q ∧ ∀ m, i ≤ m → m < q → ¬ OpenAt B i m

theorem esc_succ (B : Nat → Int) (i k : Nat) : esc B i (k + 1) = (!esc B i k && decide (B (i + k) = 92)) := rfl

/-- A least one. -/
theorem least {p : Nat → Prop} (N : Nat) (h : ∃ m, m ≤ N ∧ p m) : ∃ m, m ≤ N ∧ p m ∧ ∀ j, j < m → ¬ p j := by
  induction N with
  | zero =>
    obtain ⟨m, hm, hp⟩ := h
    exact ⟨m, hm, hp, fun j hj => by omega⟩
  | succ N ih =>
    by_cases hN : ∃ m, m ≤ N ∧ p m
    · obtain ⟨m, hm, hp, hl⟩ := ih hN
      exact ⟨m, by omega, hp, hl⟩
    · obtain ⟨m, hm, hp⟩ := h
      refine ⟨m, hm, hp, fun j hj hpj => hN ⟨j, by omega, hpj⟩⟩

/-- What closingQuote answers: the first open quote from i on, or n. -/
def Close (B : Nat → Int) (n i q : Nat) : Prop := FirstOpen B n i q ∨ (q = n ∧ ∀ m, i ≤ m → m < n → ¬ OpenAt B i m)

theorem close_le {B : Nat → Int} {n i q : Nat} (h : Close B n i q) : q ≤ n := by
  rcases h with h | ⟨h, _⟩
  · have := h.2.1; omega
  · omega

theorem close_ge {B : Nat → Int} {n i q : Nat} (hi : i ≤ n) (h : Close B n i q) : i ≤ q := by
  rcases h with h | ⟨h, _⟩
  · exact h.1
  · omega

theorem close_unique {B : Nat → Int} {n i q r : Nat} (h : Close B n i q) (k : Close B n i r) : q = r := by
  rcases h with h | ⟨h1, h2⟩
  · rcases k with k | ⟨k1, k2⟩
    · rcases Nat.lt_trichotomy q r with hlt | heq | hgt
      · exact absurd h.2.2.1 (k.2.2.2 q h.1 hlt)
      · exact heq
      · exact absurd k.2.2.1 (h.2.2.2 r k.1 hgt)
    · exact absurd h.2.2.1 (k2 q h.1 h.2.1)
  · rcases k with k | ⟨k1, k2⟩
    · exact absurd k.2.2.1 (h2 r k.1 k.2.1)
    · omega

theorem close_exists (B : Nat → Int) (n i : Nat) : ∃ q, Close B n i q := by
  by_cases h : ∃ m, m ≤ n ∧ (i ≤ m ∧ m < n ∧ OpenAt B i m)
  · obtain ⟨m, _, ⟨h1, h2, h3⟩, hl⟩ := least n h
    exact ⟨m, .inl ⟨h1, h2, h3, fun j hj1 hj2 ho => hl j hj2 ⟨hj1, by omega, ho⟩⟩⟩
  · exact ⟨n, .inr ⟨rfl, fun m h1 h2 ho => h ⟨m, by omega, h1, h2, ho⟩⟩⟩

/-- The first quote from p on is open: it is the answer. -/
theorem close_hit_open {B : Nat → Int} {n i q p x : Nat} (hq : Close B n i q) (hip : i ≤ p) (hpq : p ≤ q) (hx : B x = 34) (hxn : x < n) (hpx : p ≤ x) (hno : ∀ y, p ≤ y → y < x → B y ≠ 34) (he : esc B i (x - i) = false) : q = x := by
  rcases hq with h | ⟨_, h2⟩
  · rcases Nat.lt_trichotomy q x with hlt | heq | hgt
    · exact absurd h.2.2.1.1 (hno q hpq hlt)
    · exact heq
    · exact absurd ⟨hx, he⟩ (h.2.2.2 x (by omega) hgt)
  · exact absurd ⟨hx, he⟩ (h2 x (by omega) hxn)

/-- The first quote from p on is taken by a backslash: the answer lies behind it. -/
theorem close_hit_taken {B : Nat → Int} {n i q p x : Nat} (hq : Close B n i q) (hpq : p ≤ q) (hxn : x < n) (hno : ∀ y, p ≤ y → y < x → B y ≠ 34) (he : esc B i (x - i) = true) : x + 1 ≤ q := by
  rcases hq with h | ⟨h1, _⟩
  · rcases Nat.lt_trichotomy q x with hlt | heq | hgt
    · exact absurd h.2.2.1.1 (hno q hpq hlt)
    · have := h.2.2.1.2
      rw [heq, he] at this
      cases this
    · omega
  · omega

theorem close_none {B : Nat → Int} {n i q p : Nat} (hq : Close B n i q) (hpq : p ≤ q) (hno : ∀ y, p ≤ y → y < n → B y ≠ 34) : q = n := by
  rcases hq with h | ⟨h1, _⟩
  · exact absurd h.2.2.1.1 (hno q hpq h.2.1)
  · exact h1

/-! ### bytes.IndexByte's answer, in plain words -/
/-- The first n bytes as a list of numbers. -/
def lst (B : Nat → Int) (n : Nat) : List Int := (List.range n).map B

theorem lst_length (B : Nat → Int) (n : Nat) : (lst B n).length = n := by simp [lst]

theorem lst_getD (B : Nat → Int) (n i : Nat) (h : i < n) : (lst B n).getD i 0 = B i := by simp [lst, h]

theorem byte_inj {a b : Int} (ha : 0 ≤ a ∧ a ≤ 255) (hb : 0 ≤ b ∧ b ≤ 255) (h : UInt8.ofNat a.toNat = UInt8.ofNat b.toNat) : a = b := by
  have h1 := congrArg UInt8.toNat h
  rw [UInt8.toNat_ofNat', UInt8.toNat_ofNat', Nat.mod_eq_of_lt (by omega), Nat.mod_eq_of_lt (by omega)] at h1
  omega

theorem indexByte_spec (B : Nat → Int) (n : Nat) (hB : ∀ i, 0 ≤ B i ∧ B i ≤ 255) (c : Int) (hc : 0 ≤ c ∧ c ≤ 255) :
    (Lib.indexByte (Lib.bytesOf (lst B n)) c.toNat.toUInt8 = -1 ∧ ∀ k, k < n → B k ≠ c) ∨
    ∃ o : Nat, Lib.indexByte (Lib.bytesOf (lst B n)) c.toNat.toUInt8 = (o : Int) ∧ o < n ∧ B o = c ∧ ∀ k, k < o → B k ≠ c := by
  have hat : ∀ k, k < n → (Lib.bytesOf (lst B n))[k]? = some (UInt8.ofNat (B k).toNat) := by
    intro k hk
    simp [Lib.bytesOf, lst, hk]
  have hge := Lib.indexByte_ge (Lib.bytesOf (lst B n)) c.toNat.toUInt8
  by_cases h : Lib.indexByte (Lib.bytesOf (lst B n)) c.toNat.toUInt8 = -1
  · refine .inl ⟨h, fun k hk hbk => ?_⟩
    refine Lib.indexByte_none h k ?_
    rw [hat k hk, hbk]
  · obtain ⟨o, ho⟩ : ∃ o : Nat, Lib.indexByte (Lib.bytesOf (lst B n)) c.toNat.toUInt8 = (o : Int) := ⟨(Lib.indexByte (Lib.bytesOf (lst B n)) c.toNat.toUInt8).toNat, by omega⟩
    obtain ⟨h1, h2⟩ := Lib.indexByte_some ho
    have hon : o < n := by
      have := (List.getElem?_eq_some_iff.1 h1).1
      simpa [Lib.bytesOf, lst] using this
    refine .inr ⟨o, ho, hon, ?_, fun k hk hbk => ?_⟩
    · rw [hat o hon] at h1
      exact byte_inj (hB o) hc (Option.some.inj h1)
    · refine h2 k hk ?_
      rw [hat k (by omega), hbk]

end Go.Proofs.Qxb6602401a.Pl
