/-
  THE PLAIN LAWS OF SEAT b6601496a: no Go in sight. Bytes are told by a function 'B : Nat → Int'.
-/
import Derived.Lib.IndexLaws
import Derived.Lib.Bytes
namespace Go.Proofs.Qxb6601496a.Pl

/-- r is the first place of c among the first n bytes, or -1. -/
def FirstByte (B : Nat → Int) (n : Nat) (c r : Int) : Prop := (r = -1 ∧ ∀ k, k < n → B k ≠ c) ∨ ∃ o : Nat, r = (o : Int) ∧ o < n ∧ B o = c ∧ ∀ k, k < o → B k ≠ c

/-- r is the first place of x or y among the first n bytes, or -1. -/
def FirstEither (B : Nat → Int) (n : Nat) (x y r : Int) : Prop := (r = -1 ∧ ∀ k, k < n → B k ≠ x ∧ B k ≠ y) ∨ ∃ o : Nat, r = (o : Int) ∧ o < n ∧ (B o = x ∨ B o = y) ∧ ∀ k, k < o → B k ≠ x ∧ B k ≠ y

theorem either_unique {B : Nat → Int} {n : Nat} {x y r s : Int} (h : FirstEither B n x y r) (k : FirstEither B n x y s) : r = s := by
  rcases h with ⟨h1, h2⟩ | ⟨o, h1, h2, h3, h4⟩
  · rcases k with ⟨k1, _⟩ | ⟨p, _, k2, k3, _⟩
    · omega
    · have := h2 p k2
      rcases k3 with h | h
      · exact absurd h this.1
      · exact absurd h this.2
  · rcases k with ⟨_, k2⟩ | ⟨p, k1, k2, k3, k4⟩
    · have := k2 o h2
      rcases h3 with h | h
      · exact absurd h this.1
      · exact absurd h this.2
    · rcases Nat.lt_trichotomy o p with hlt | heq | hgt
      · have := k4 o hlt
        rcases h3 with h | h
        · exact absurd h this.1
        · exact absurd h this.2
      · subst heq; omega
      · have := h4 p hgt
        rcases k3 with h | h
        · exact absurd h this.1
        · exact absurd h this.2

theorem either_swap {B : Nat → Int} {n : Nat} {x y r : Int} (h : FirstEither B n x y r) : FirstEither B n y x r := by
  rcases h with ⟨h1, h2⟩ | ⟨o, h1, h2, h3, h4⟩
  · exact .inl ⟨h1, fun k hk => ⟨(h2 k hk).2, (h2 k hk).1⟩⟩
  · exact .inr ⟨o, h1, h2, h3.symm, fun k hk => ⟨(h4 k hk).2, (h4 k hk).1⟩⟩

/-- No x: the first y. -/
theorem either_no {B : Nat → Int} {n : Nat} {x y r : Int} (h : FirstByte B n x (-1)) (k : FirstByte B n y r) : FirstEither B n x y r := by
  have hx : ∀ k, k < n → B k ≠ x := by
    rcases h with ⟨_, h⟩ | ⟨o, h1, _⟩
    · exact h
    · omega
  rcases k with ⟨k1, k2⟩ | ⟨p, k1, k2, k3, k4⟩
  · exact .inl ⟨k1, fun j hj => ⟨hx j hj, k2 j hj⟩⟩
  · exact .inr ⟨p, k1, k2, .inr k3, fun j hj => ⟨hx j (by omega), k4 j hj⟩⟩

/-- x first at i, a y before it: that y. -/
theorem either_before {B : Nat → Int} {n i j : Nat} {x y : Int} (h : FirstByte B n x i) (k : FirstByte B i y j) : FirstEither B n x y j := by
  rcases h with ⟨h1, _⟩ | ⟨o, h1, h2, h3, h4⟩
  · omega
  · obtain rfl : i = o := by omega
    rcases k with ⟨k1, _⟩ | ⟨p, k1, k2, k3, k4⟩
    · omega
    · exact .inr ⟨p, k1, by omega, .inr k3, fun m hm => ⟨h4 m (by omega), k4 m hm⟩⟩

/-- x first at i, no y before it: i. -/
theorem either_at {B : Nat → Int} {n i : Nat} {x y : Int} (h : FirstByte B n x i) (k : FirstByte B i y (-1)) : FirstEither B n x y i := by
  rcases h with ⟨h1, _⟩ | ⟨o, h1, h2, h3, h4⟩
  · omega
  · obtain rfl : i = o := by omega
    rcases k with ⟨_, k2⟩ | ⟨p, k1, _⟩
    · exact .inr ⟨i, rfl, h2, .inl h3, fun m hm => ⟨h4 m hm, k2 m hm⟩⟩
    · omega

/-- The prefix that ends with the hit answers it again; the prefix before it has none. -/
theorem either_prefix {B : Nat → Int} {n o : Nat} {x y : Int} (h : FirstEither B n x y (o : Int)) : o < n ∧ FirstEither B (o + 1) x y (o : Int) ∧ FirstEither B o x y (-1) := by
  rcases h with ⟨h1, _⟩ | ⟨p, h1, h2, h3, h4⟩
  · omega
  · obtain rfl : o = p := by omega
    exact ⟨h2, .inr ⟨o, rfl, by omega, h3, h4⟩, .inl ⟨rfl, h4⟩⟩

theorem byte_cases {B : Nat → Int} {n : Nat} {c r : Int} (h : FirstByte B n c r) : r = -1 ∨ ∃ o : Nat, r = (o : Int) ∧ o < n := by
  rcases h with ⟨h1, _⟩ | ⟨o, h1, h2, _⟩
  · exact .inl h1
  · exact .inr ⟨o, h1, h2⟩

theorem either_cases {B : Nat → Int} {n : Nat} {x y r : Int} (h : FirstEither B n x y r) : r = -1 ∨ ∃ o : Nat, r = (o : Int) ∧ o < n := by
  rcases h with ⟨h1, _⟩ | ⟨o, h1, h2, _⟩
  · exact .inl h1
  · exact .inr ⟨o, h1, h2⟩

/-! ### bytes.IndexByte's answer, in plain words -/
/-- The first n bytes as a list of numbers. -/
def lst (B : Nat → Int) (n : Nat) : List Int := (List.range n).map B

theorem lst_length (B : Nat → Int) (n : Nat) : (lst B n).length = n := by simp [lst]

theorem lst_getD (B : Nat → Int) (n i : Nat) (h : i < n) : (lst B n).getD i 0 = B i := by simp [lst, h]

theorem byte_inj {a b : Int} (ha : 0 ≤ a ∧ a ≤ 255) (hb : 0 ≤ b ∧ b ≤ 255) (h : UInt8.ofNat a.toNat = UInt8.ofNat b.toNat) : a = b := by
  have h1 := congrArg UInt8.toNat h
  rw [UInt8.toNat_ofNat', UInt8.toNat_ofNat', Nat.mod_eq_of_lt (by omega), Nat.mod_eq_of_lt (by omega)] at h1
  omega

theorem indexByte_spec (B : Nat → Int) (n : Nat) (hB : ∀ i, 0 ≤ B i ∧ B i ≤ 255) (c : Int) (hc : 0 ≤ c ∧ c ≤ 255) :
    FirstByte B n c (Lib.indexByte (Lib.bytesOf (lst B n)) c.toNat.toUInt8) := by
  have hat : ∀ k, k < n → (Lib.bytesOf (lst B n))[k]? = some (UInt8.ofNat (B k).toNat) := by
    intro k hk
    simp [Lib.bytesOf, lst, hk]
  have hge := Lib.indexByte_ge (Lib.bytesOf (lst B n)) c.toNat.toUInt8
  by_cases h : Lib.indexByte (Lib.bytesOf (lst B n)) c.toNat.toUInt8 = -1
  · refine .inl ⟨h, fun k hk hbk => ?_⟩
    refine Lib.indexByte_none h k ?_
    rw [hat k hk, hbk]
  · obtain ⟨o, ho⟩ : ∃ o : Nat, Lib.indexByte (Lib.bytesOf (lst B n)) c.toNat.toUInt8 = (o : Int) := ⟨(Lib.indexByte (Lib.bytesOf (lst B n)) c.toNat.toUInt8).toNat, by omega⟩
    obtain ⟨h1, h2⟩ := Lib.indexByte_some ho
    have hon : o < n := by
      have := (List.getElem?_eq_some_iff.1 h1).1
      simpa [Lib.bytesOf, lst] using this
    refine .inr ⟨o, ho, hon, ?_, fun k hk hbk => ?_⟩
    · rw [hat o hon] at h1
      exact byte_inj (hB o) hc (Option.some.inj h1)
    · refine h2 k hk ?_
      rw [hat k (by omega), hbk]

end Go.Proofs.Qxb6601496a.Pl
