import Derived.Test.Qxb6601459aWalkE
namespace Go.Proofs.Qxb6601459a.Wk
open Go.RowKit

/-! ### jsonSpace (24), delimiter (18), space (28) -/
def Spc (c : Int) : Prop := c = 32 ∨ c = 9 ∨ c = 13 ∨ c = 10

theorem jsp_yes (c : Int) (w : World) (h : Spc c) : Calls Try.prog 24 #[.int .u8 c] w fun e w' => e = .returned (.bool true) ∧ w = w' := by
  rcases h with rfl | rfl | rfl | rfl
  all_goals
    go_enter Try.func24, Try.ntmps24
    go_wp2
    go_ret
    exact ⟨rfl, rfl⟩

theorem jsp_no (c : Int) (w : World) (h : ¬ Spc c) : Calls Try.prog 24 #[.int .u8 c] w fun e w' => e = .returned (.bool false) ∧ w = w' := by
  unfold Spc at h
  have h1 : (c == 32) = false := by simp; omega
  have h2 : (c == 9) = false := by simp; omega
  have h3 : (c == 13) = false := by simp; omega
  have h4 : (c == 10) = false := by simp; omega
  clear h
  go_enter Try.func24, Try.ntmps24
  go_wp2
  go_ret
  exact ⟨rfl, rfl⟩

theorem spc_yes (c : Int) (w : World) (h : Spc c) : Calls Try.prog 28 #[.int .u8 c] w fun e w' => e = .returned (.bool true) ∧ w = w' := by
  rcases h with rfl | rfl | rfl | rfl
  all_goals
    go_enter Try.func28, Try.ntmps28
    go_wp2
    go_ret
    exact ⟨rfl, rfl⟩

theorem spc_no (c : Int) (w : World) (h : ¬ Spc c) : Calls Try.prog 28 #[.int .u8 c] w fun e w' => e = .returned (.bool false) ∧ w = w' := by
  unfold Spc at h
  have h1 : (c == 32) = false := by simp; omega
  have h2 : (c == 9) = false := by simp; omega
  have h3 : (c == 13) = false := by simp; omega
  have h4 : (c == 10) = false := by simp; omega
  clear h
  go_enter Try.func28, Try.ntmps28
  go_wp2
  go_ret
  exact ⟨rfl, rfl⟩

theorem delim_of_spc {c : Int} (h : Spc c) : Pl.delim c := by
  unfold Pl.delim; unfold Spc at h; omega

theorem dlm_yes (c : Int) (w : World) (h : Pl.delim c) : Calls Try.prog 18 #[.int .u8 c] w fun e w' => e = .returned (.bool true) ∧ w = w' := by
  by_cases hs : Spc c
  · have H := jsp_yes c w hs
    clear h hs
    go_enter Try.func18, Try.ntmps18
    go_wp2_with (go_at_call 24; refine H.mono ?_; rintro e w' ⟨rfl, rfl⟩)
    go_ret
    exact ⟨rfl, rfl⟩
  · have H := jsp_no c w hs
    have h' : c = 44 ∨ c = 125 ∨ c = 93 := by unfold Pl.delim at h; unfold Spc at hs; omega
    clear h hs
    rcases h' with rfl | rfl | rfl
    all_goals
      go_enter Try.func18, Try.ntmps18
      go_wp2_with (go_at_call 24; refine H.mono ?_; rintro e w' ⟨rfl, rfl⟩)
      go_ret
      exact ⟨rfl, rfl⟩

theorem dlm_no (c : Int) (w : World) (h : ¬ Pl.delim c) : Calls Try.prog 18 #[.int .u8 c] w fun e w' => e = .returned (.bool false) ∧ w = w' := by
  have H := jsp_no c w (fun hs => h (delim_of_spc hs))
  unfold Pl.delim at h
  have h1 : (c == 44) = false := by simp; omega
  have h2 : (c == 125) = false := by simp; omega
  have h3 : (c == 93) = false := by simp; omega
  clear h
  go_enter Try.func18, Try.ntmps18
  go_wp2_with (go_at_call 24; refine H.mono ?_; rintro e w' ⟨rfl, rfl⟩)
  go_ret
  exact ⟨rfl, rfl⟩

end Go.Proofs.Qxb6601459a.Wk
