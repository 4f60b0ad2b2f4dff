/-
  THE PLAIN LAWS OF SEAT b6601459a: no Go in sight. Bytes are told by a function 'B : Nat → Int'.
-/
import Derived.Lib.IndexLaws
import Derived.Lib.Bytes
namespace Go.Proofs.Qxb6601459a.Pl

/-- The escape flag of the forward walk that begins at i, behind k bytes. -/
def esc (B : Nat → Int) (i : Nat) : Nat → Bool
  | 0 => false
  | k + 1 => !esc B i k && decide (B (i + k) = 92)

/-- How many backslashes stand right before j. -/
def bk (B : Nat → Int) : Nat → Nat
  | 0 => 0
  | j + 1 => if B j = 92 then bk B j + 1 else 0

theorem bk_zero {B : Nat → Int} {i : Nat} (h1 : 1 ≤ i) (h : B (i - 1) ≠ 92) : bk B i = 0 := by
  obtain ⟨j, rfl⟩ : ∃ j, i = j + 1 := ⟨i - 1, by omega⟩
  simp only [Nat.add_sub_cancel] at h
  simp only [bk]
  rw [if_neg h]

theorem bk_succ {B : Nat → Int} {j : Nat} (h1 : 1 ≤ j) (h : B (j - 1) = 92) : bk B j = bk B (j - 1) + 1 := by
  obtain ⟨i, rfl⟩ : ∃ i, j = i + 1 := ⟨j - 1, by omega⟩
  simp only [bk, Nat.add_sub_cancel] at h ⊢
  rw [if_pos h]

theorem esc_bk {B : Nat → Int} {i : Nat} (h1 : 1 ≤ i) (h : B (i - 1) ≠ 92) (k : Nat) : esc B i k = decide (bk B (i + k) % 2 = 1) := by
  induction k with
  | zero => simp [esc, bk_zero h1 h]
  | succ k ih =>
    have e : i + (k + 1) = (i + k) + 1 := by omega
    rw [e]
    have e2 : esc B i (k + 1) = (!esc B i k && decide (B (i + k) = 92)) := rfl
    rw [e2, ih]
    by_cases hb : B (i + k) = 92
    · have e3 : bk B (i + k + 1) = bk B (i + k) + 1 := if_pos hb
      rw [e3]
      by_cases hp : bk B (i + k) % 2 = 1
      · have : ¬ (bk B (i + k) + 1) % 2 = 1 := by omega
        simp [hp, hb, this]
      · have : (bk B (i + k) + 1) % 2 = 1 := by omega
        simp [hp, hb, this]
    · have e3 : bk B (i + k + 1) = 0 := if_neg hb
      rw [e3]
      simp [hb]

/-- A quote at j that no backslash takes, for the forward walk from i. -/
def OpenAt (B : Nat → Int) (i j : Nat) : Prop := B j = 34 ∧ esc B i (j - i) = false

def FirstOpen (B : Nat → Int) (n i q : Nat) : Prop := i ≤ q ∧ q < n ∧ OpenAt B i q ∧ ∀ m, i ≤ m → m < q → ¬ OpenAt B i m

theorem esc_succ (B : Nat → Int) (i k : Nat) : esc B i (k + 1) = (!esc B i k && decide (B (i + k) = 92)) := rfl

/-- A least one. -/
theorem least {p : Nat → Prop} (N : Nat) (h : ∃ m, m ≤ N ∧ p m) : ∃ m, m ≤ N ∧ p m ∧ ∀ j, j < m → ¬ p j := by
  induction N with
  | zero =>
    obtain ⟨m, hm, hp⟩ := h
    exact ⟨m, hm, hp, fun j hj => by omega⟩
  | succ N ih =>
    by_cases hN : ∃ m, m ≤ N ∧ p m
    · obtain ⟨m, hm, hp, hl⟩ := ih hN
      exact ⟨m, by omega, hp, hl⟩
    · obtain ⟨m, hm, hp⟩ := h
      refine ⟨m, hm, hp, fun j hj hpj => hN ⟨j, by omega, hpj⟩⟩

/-! ### The one-pass model's state behind k bytes from i: depth, in a text, escaped -/
def step (b : Int) : Int × Bool × Bool → Int × Bool × Bool
  | (d, true, true) => (d, true, false)
  | (d, true, false) => if b = 92 then (d, true, true) else if b = 34 then (d, false, false) else (d, true, false)
  | (d, false, e) => if b = 34 then (d, true, e) else if b = 123 ∨ b = 91 then (d + 1, false, e) else if b = 125 ∨ b = 93 then (d - 1, false, e) else (d, false, e)

def st (B : Nat → Int) (i : Nat) : Nat → Int × Bool × Bool
  | 0 => (0, false, false)
  | k + 1 => step (B (i + k)) (st B i k)

/-- Does the model stop at the byte b in this state? -/
def stops (b : Int) : Int × Bool × Bool → Prop
  | (d, true, e) => e = false ∧ b = 34 ∧ d = 0
  | (d, false, _) => (b = 125 ∨ b = 93) ∧ d = 1

def FirstStop (B : Nat → Int) (n i K : Nat) : Prop := i + K < n ∧ stops (B (i + K)) (st B i K) ∧ ∀ m, m < K → ¬ stops (B (i + m)) (st B i m)

theorem st_succ (B : Nat → Int) (i k : Nat) : st B i (k + 1) = step (B (i + k)) (st B i k) := rfl

theorem st_bd (B : Nat → Int) (i k : Nat) : -(k : Int) ≤ (st B i k).1 ∧ (st B i k).1 ≤ k := by
  induction k with
  | zero => simp [st]
  | succ k ih =>
    rw [st_succ]
    generalize st B i k = s at ih
    obtain ⟨d, t, e⟩ := s
    simp only at ih
    cases t
    · simp only [step]
      split
      · simp only; omega
      · split
        · simp only; omega
        · split <;> (simp only; omega)
    · cases e
      · simp only [step]
        split
        · simp only; omega
        · split <;> (simp only; omega)
      · simp only [step]; omega

/-- In a text that began at k1 the model's state is the forward walk's. -/
theorem st_text {B : Nat → Int} {i k1 : Nat} {d : Int} (h0 : st B i k1 = (d, true, false)) (m : Nat) (hno : ∀ m', m' < m → ¬ OpenAt B (i + k1) (i + k1 + m')) :
    st B i (k1 + m) = (d, true, esc B (i + k1) m) := by
  induction m with
  | zero => simpa [esc] using h0
  | succ m ih =>
    have ih' := ih (fun m' hm => hno m' (by omega))
    have e : k1 + (m + 1) = (k1 + m) + 1 := by omega
    rw [e, st_succ, ih', esc_succ]
    have hn := hno m (by omega)
    have hsub : i + k1 + m - (i + k1) = m := by omega
    have e2 : i + (k1 + m) = i + k1 + m := by omega
    rw [e2]
    simp only [OpenAt, hsub] at hn
    cases he : esc B (i + k1) m
    · simp only [he, and_true] at hn
      by_cases h92 : B (i + k1 + m) = 92
      · simp [step, h92]
      · simp [step, h92, hn]
    · simp [step]

/-- A text inside a container: the model leaves it at its first open quote. -/
theorem text_skip {B : Nat → Int} {n i k K : Nat} {d : Int} (hs : st B i k = (d, false, false)) (hd : d ≠ 0) (hb : B (i + k) = 34) (hK : FirstStop B n i K) (hk : k ≤ K) :
    ∃ q, FirstOpen B n (i + k + 1) q ∧ st B i (q + 1 - i) = (d, false, false) ∧ q + 1 ≤ i + K := by
  obtain ⟨hn, hstop, _⟩ := hK
  have hkK : k < K := by
    rcases Nat.lt_or_eq_of_le hk with h | h
    · exact h
    · subst h
      rw [hs, hb] at hstop
      simp [stops] at hstop
  have h1 : st B i (k + 1) = (d, true, false) := by rw [st_succ, hs, hb]; simp [step]
  have hex : ∃ m, m ≤ K - k - 1 ∧ OpenAt B (i + (k + 1)) (i + (k + 1) + m) := by
    apply Classical.byContradiction
    intro hno
    have hst := st_text h1 (K - k - 1) (fun m' hm ho => hno ⟨m', by omega, ho⟩)
    have e : k + 1 + (K - k - 1) = K := by omega
    rw [e] at hst
    rw [hst] at hstop
    exact hd hstop.2.2
  obtain ⟨m, hm, ho, hl⟩ := least _ hex
  have hst := st_text h1 m hl
  have e1 : i + (k + 1) + m = i + k + 1 + m := by omega
  have hsub : i + (k + 1) + m - (i + (k + 1)) = m := by omega
  have ho1 := ho.1
  have ho2 := ho.2
  rw [hsub] at ho2
  have hq : st B i (k + 1 + m + 1) = (d, false, false) := by
    rw [st_succ, hst, ho2, show i + (k + 1 + m) = i + (k + 1) + m from by omega, ho1]
    simp [step]
  have hmK : m < K - k - 1 := by
    rcases Nat.lt_or_eq_of_le hm with h | h
    · exact h
    · have e : k + 1 + m = K := by omega
      rw [e] at hst
      rw [hst] at hstop
      exact absurd hstop.2.2 hd
  refine ⟨i + (k + 1) + m, ⟨by omega, by omega, ?_, ?_⟩, ?_, by omega⟩
  · exact ho
  · intro j h1j h2j hoj
    refine hl (j - (i + (k + 1))) (by omega) ?_
    rw [show i + (k + 1) + (j - (i + (k + 1))) = j from by omega]
    exact hoj
  · rw [show i + (k + 1) + m + 1 - i = k + 1 + m + 1 from by omega]
    exact hq

/-- A text at depth 0: the model stops at its first open quote. -/
theorem text_first {B : Nat → Int} {n i K : Nat} (hb : B i = 34) (hK : FirstStop B n i K) : FirstOpen B n (i + 1) (i + K) ∧ 1 ≤ K := by
  obtain ⟨hn, hstop, hl⟩ := hK
  have h1 : st B i 1 = (0, true, false) := by rw [st_succ]; simp [st, hb, step]
  have hK1 : 1 ≤ K := by
    rcases Nat.eq_zero_or_pos K with h | h
    · subst h
      simp [st, stops, hb] at hstop
    · exact h
  have hno : ∀ m, m ≤ K - 1 → ∀ m', m' < m → ¬ OpenAt B (i + 1) (i + 1 + m') := by
    intro m
    induction m with
    | zero => intro _ m' hm'; omega
    | succ m ih =>
      intro hm m' hm'
      have ih' := ih (by omega)
      rcases Nat.lt_or_eq_of_le (Nat.le_of_lt_succ hm') with h | h
      · exact ih' m' h
      · subst h
        intro ho
        have hst := st_text h1 m' ih'
        have hns := hl (1 + m') (by omega)
        rw [hst] at hns
        apply hns
        have ho2 := ho.2
        rw [show i + 1 + m' - (i + 1) = m' from by omega] at ho2
        exact ⟨ho2, by rw [show i + (1 + m') = i + 1 + m' from by omega]; exact ho.1, rfl⟩
  have hst := st_text h1 (K - 1) (hno (K - 1) (Nat.le_refl _))
  rw [show 1 + (K - 1) = K from by omega] at hst
  rw [hst] at hstop
  refine ⟨⟨by omega, hn, ⟨hstop.2.1, ?_⟩, ?_⟩, hK1⟩
  · rw [show i + K - (i + 1) = K - 1 from by omega]
    exact hstop.1
  · intro j h1j h2j hoj
    refine hno (K - 1) (Nat.le_refl _) (j - (i + 1)) (by omega) ?_
    rw [show i + 1 + (j - (i + 1)) = j from by omega]
    exact hoj

/-! ### A bare value -/
def delim (b : Int) : Prop := b = 32 ∨ b = 9 ∨ b = 13 ∨ b = 10 ∨ b = 44 ∨ b = 125 ∨ b = 93

def FirstDelim (B : Nat → Int) (n i e : Nat) : Prop := i ≤ e ∧ e ≤ n ∧ (∀ m, i ≤ m → m < e → ¬ delim (B m)) ∧ (e < n → delim (B e))

def Bare (b : Int) : Prop := b ≠ 34 ∧ b ≠ 123 ∧ b ≠ 91

/-- The end of the value at i, as the one-pass model finds it. -/
def VEnd (B : Nat → Int) (n i e : Nat) : Prop := (Bare (B i) ∧ FirstDelim B n i e) ∨ (¬ Bare (B i) ∧ ∃ K, FirstStop B n i K ∧ e = i + K + 1)

theorem firstDelim_unique {B : Nat → Int} {n i e f : Nat} (h : FirstDelim B n i e) (k : FirstDelim B n i f) : e = f := by
  obtain ⟨h1, h2, h3, h4⟩ := h
  obtain ⟨k1, k2, k3, k4⟩ := k
  rcases Nat.lt_trichotomy e f with hlt | heq | hgt
  · exact absurd (h4 (by omega)) (k3 e h1 hlt)
  · exact heq
  · exact absurd (k4 (by omega)) (h3 f k1 hgt)

theorem firstOpen_unique {B : Nat → Int} {n i e f : Nat} (h : FirstOpen B n i e) (k : FirstOpen B n i f) : e = f := by
  obtain ⟨h1, h2, h3, h4⟩ := h
  obtain ⟨k1, k2, k3, k4⟩ := k
  rcases Nat.lt_trichotomy e f with hlt | heq | hgt
  · exact absurd h3 (k4 e h1 hlt)
  · exact heq
  · exact absurd k3 (h4 f k1 hgt)

/-! ### Bytes laid around -/
theorem esc_shift {B C : Nat → Int} {n h : Nat} (hC : ∀ x, x < n → C (h + x) = B x) (i k : Nat) (hk : i + k ≤ n) : esc C (h + i) k = esc B i k := by
  induction k with
  | zero => rfl
  | succ k ih => rw [esc_succ, esc_succ, ih (by omega), Nat.add_assoc, hC (i + k) (by omega)]

theorem openAt_shift {B C : Nat → Int} {n h : Nat} (hC : ∀ x, x < n → C (h + x) = B x) (i j : Nat) (hij : i ≤ j) (hj : j < n) : OpenAt C (h + i) (h + j) ↔ OpenAt B i j := by
  unfold OpenAt
  rw [hC j hj, show h + j - (h + i) = j - i from by omega, esc_shift hC i (j - i) (by omega)]

theorem firstOpen_shift {B C : Nat → Int} {n n' h : Nat} (hC : ∀ x, x < n → C (h + x) = B x) (hn : h + n ≤ n') {i q : Nat} (hq : FirstOpen B n i q) : FirstOpen C n' (h + i) (h + q) := by
  obtain ⟨h1, h2, h3, h4⟩ := hq
  refine ⟨by omega, by omega, (openAt_shift hC i q h1 h2).2 h3, ?_⟩
  intro m hm1 hm2 ho
  refine h4 (m - h) (by omega) (by omega) ?_
  rw [← openAt_shift hC i (m - h) (by omega) (by omega), show h + (m - h) = m from by omega]
  exact ho

theorem st_shift {B C : Nat → Int} {n h : Nat} (hC : ∀ x, x < n → C (h + x) = B x) (i k : Nat) (hk : i + k ≤ n) : st C (h + i) k = st B i k := by
  induction k with
  | zero => rfl
  | succ k ih => rw [st_succ, st_succ, ih (by omega), Nat.add_assoc, hC (i + k) (by omega)]

theorem firstStop_shift {B C : Nat → Int} {n n' h : Nat} (hC : ∀ x, x < n → C (h + x) = B x) (hn : h + n ≤ n') {i K : Nat} (hK : FirstStop B n i K) : FirstStop C n' (h + i) K := by
  obtain ⟨h1, h2, h3⟩ := hK
  refine ⟨by omega, ?_, fun m hm => ?_⟩
  · rw [st_shift hC i K (by omega), Nat.add_assoc, hC (i + K) h1]; exact h2
  · rw [st_shift hC i m (by omega), Nat.add_assoc, hC (i + m) (by omega)]; exact h3 m hm

theorem firstDelim_shift {B C : Nat → Int} {n n' h : Nat} (hC : ∀ x, x < n → C (h + x) = B x) (hn : h + n ≤ n') {i e : Nat} (he : FirstDelim B n i e) (ht : e = n → h + n < n' → delim (C (h + n))) :
    FirstDelim C n' (h + i) (h + e) := by
  obtain ⟨h1, h2, h3, h4⟩ := he
  refine ⟨by omega, by omega, fun m hm1 hm2 hd => ?_, fun hlt => ?_⟩
  · refine h3 (m - h) (by omega) (by omega) ?_
    rw [← hC (m - h) (by omega), show h + (m - h) = m from by omega]
    exact hd
  · rcases Nat.lt_or_eq_of_le h2 with h | h
    · rw [hC e h]; exact h4 h
    · subst h; exact ht rfl hlt

theorem vend_shift {B C : Nat → Int} {n n' h : Nat} (hC : ∀ x, x < n → C (h + x) = B x) (hn : h + n ≤ n') {i e : Nat} (hi : i < n) (he : VEnd B n i e) (ht : Bare (B i) → e = n → h + n < n' → delim (C (h + n))) :
    VEnd C n' (h + i) (h + e) := by
  rcases he with ⟨hb, hd⟩ | ⟨hb, K, hK, rfl⟩
  · exact .inl ⟨by rw [hC i hi]; exact hb, firstDelim_shift hC hn hd (ht hb)⟩
  · exact .inr ⟨by rw [hC i hi]; exact hb, K, firstStop_shift hC hn hK, by omega⟩

/-! ### bytes.IndexByte's answer, in plain words -/
/-- The first n bytes as a list of numbers. -/
def lst (B : Nat → Int) (n : Nat) : List Int := (List.range n).map B

theorem lst_length (B : Nat → Int) (n : Nat) : (lst B n).length = n := by simp [lst]

theorem lst_getD (B : Nat → Int) (n i : Nat) (h : i < n) : (lst B n).getD i 0 = B i := by simp [lst, h]

theorem byte_inj {a b : Int} (ha : 0 ≤ a ∧ a ≤ 255) (hb : 0 ≤ b ∧ b ≤ 255) (h : UInt8.ofNat a.toNat = UInt8.ofNat b.toNat) : a = b := by
  have h1 := congrArg UInt8.toNat h
  rw [UInt8.toNat_ofNat', UInt8.toNat_ofNat', Nat.mod_eq_of_lt (by omega), Nat.mod_eq_of_lt (by omega)] at h1
  omega

theorem indexByte_spec (B : Nat → Int) (n : Nat) (hB : ∀ i, 0 ≤ B i ∧ B i ≤ 255) (c : Int) (hc : 0 ≤ c ∧ c ≤ 255) :
    (Lib.indexByte (Lib.bytesOf (lst B n)) c.toNat.toUInt8 = -1 ∧ ∀ k, k < n → B k ≠ c) ∨
    ∃ o : Nat, Lib.indexByte (Lib.bytesOf (lst B n)) c.toNat.toUInt8 = (o : Int) ∧ o < n ∧ B o = c ∧ ∀ k, k < o → B k ≠ c := by
  have hat : ∀ k, k < n → (Lib.bytesOf (lst B n))[k]? = some (UInt8.ofNat (B k).toNat) := by
    intro k hk
    simp [Lib.bytesOf, lst, hk]
  have hge := Lib.indexByte_ge (Lib.bytesOf (lst B n)) c.toNat.toUInt8
  by_cases h : Lib.indexByte (Lib.bytesOf (lst B n)) c.toNat.toUInt8 = -1
  · refine .inl ⟨h, fun k hk hbk => ?_⟩
    refine Lib.indexByte_none h k ?_
    rw [hat k hk, hbk]
  · obtain ⟨o, ho⟩ : ∃ o : Nat, Lib.indexByte (Lib.bytesOf (lst B n)) c.toNat.toUInt8 = (o : Int) := ⟨(Lib.indexByte (Lib.bytesOf (lst B n)) c.toNat.toUInt8).toNat, by omega⟩
    obtain ⟨h1, h2⟩ := Lib.indexByte_some ho
    have hon : o < n := by
      have := (List.getElem?_eq_some_iff.1 h1).1
      simpa [Lib.bytesOf, lst] using this
    refine .inr ⟨o, ho, hon, ?_, fun k hk hbk => ?_⟩
    · rw [hat o hon] at h1
      exact byte_inj (hB o) hc (Option.some.inj h1)
    · refine h2 k hk ?_
      rw [hat k (by omega), hbk]

end Go.Proofs.Qxb6601459a.Pl
