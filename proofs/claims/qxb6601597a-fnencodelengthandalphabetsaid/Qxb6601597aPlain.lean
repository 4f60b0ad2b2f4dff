/-
  THE PLAIN LAWS OF SEAT b6601597a: no Go in sight.
-/
import Derived.Lib.Bytealg
import Derived.Lib.IndexLaws
import Derived.Laws.BytesArg
namespace Go.Proofs.Qxb6601597a.Pl

/-- crypt's alphabet. -/
def alph : List UInt8 := [46, 47, 48, 49, 50, 51, 52, 53, 54, 55, 56, 57, 65, 66, 67, 68, 69, 70, 71, 72, 73, 74, 75, 76, 77, 78, 79, 80, 81, 82, 83, 84, 85, 86, 87, 88, 89, 90, 97, 98, 99, 100, 101, 102, 103, 104, 105, 106, 107, 108, 109, 110, 111, 112, 113, 114, 115, 116, 117, 118, 119, 120, 121, 122]

/-- Is the byte a character of the alphabet? -/
def isAl (c : UInt8) : Bool := alph.contains c

theorem index_nonneg (c : UInt8) (h : isAl c = true) : 0 ≤ Lib.indexByte alph c := by
  have hm : c ∈ alph := by simpa [isAl] using h
  have hge := Lib.indexByte_ge alph c
  by_cases hn : Lib.indexByte alph c = -1
  · obtain ⟨k, hk, hkc⟩ := List.getElem_of_mem hm
    exact absurd (by rw [List.getElem?_eq_getElem hk, hkc]) (Lib.indexByte_none hn k)
  · omega

theorem alph_at (k : Nat) (h : k < 64) : isAl (alph.getD k 0) = true := by
  have hall : ∀ k : Fin 64, isAl (alph.getD k.1 0) = true := by decide
  exact hall ⟨k, h⟩

/-- How many characters m bytes take. -/
def encLen (m : Nat) : Nat := (m * 8 + 5) / 6

theorem encLen_full (g m : Nat) (h : 3 * g + 3 ≤ m) : 4 * g + 4 ≤ encLen m := by unfold encLen; omega
theorem encLen_last (g r m : Nat) (h : m = 3 * g + r) (h1 : 1 ≤ r) (h2 : r ≤ 2) : 4 * g + r + 1 = encLen m := by unfold encLen; omega
theorem encLen_even (g : Nat) : 4 * g = encLen (3 * g) := by unfold encLen; omega

end Go.Proofs.Qxb6601597a.Pl
