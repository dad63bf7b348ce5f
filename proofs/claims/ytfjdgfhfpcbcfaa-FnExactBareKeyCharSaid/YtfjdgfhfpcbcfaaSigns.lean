/-
  isWhitespace, isBareKeyChar, their exports and the laws FnExactWhitespace and FnExactBareKeyChar: the first answer whether a rune is white space or a sign of a bare key, the laws return true. No condition.
-/
import Derived.Test.YtfjdgfhfpcbcfaaProg
import Derived.WalkKit
import Derived.Below
namespace Go.Proofs.Ytfjdgfhfpcbcfaa
open Go Go.RowKit
set_option linter.unusedVariables false

theorem hidden {p : Prop} (h : p) : Hid p := h

theorem white_any (r : Int) (w : World) (b : Bool) (h : b = decide (r = 9 ∨ r = 32)) :
    Calls Try.prog 37 #[.int .i32 r] w fun e w' => e = .returned (.bool b) ∧ w = w' := by
  by_cases h9 : r = 9
  · subst h9
    obtain rfl : b = true := by rw [h]; exact decide_eq_true (.inl rfl)
    clear h
    go_enter Try.func37, Try.ntmps37
    go_wp2
    go_ret
    exact ⟨rfl, rfl⟩
  · by_cases h32 : r = 32
    · subst h32
      obtain rfl : b = true := by rw [h]; exact decide_eq_true (.inr rfl)
      clear h
      go_enter Try.func37, Try.ntmps37
      go_wp2
      go_ret
      exact ⟨rfl, rfl⟩
    · obtain rfl : b = false := by rw [h]; exact decide_eq_false (by omega)
      clear h
      have e1 : (r == 9) = false := beq_eq_false_iff_ne.mpr h9
      have e2 : (r == 32) = false := beq_eq_false_iff_ne.mpr h32
      go_enter Try.func37, Try.ntmps37
      go_wp2
      go_ret
      exact ⟨rfl, rfl⟩

theorem White_any (r : Int) (w : World) (b : Bool) (h : b = decide (r = 9 ∨ r = 32)) :
    Calls Try.prog 14 #[.int .i32 r] w fun e w' => e = .returned (.bool b) ∧ w = w' := by
  have H := hidden h; clear h
  go_enter Try.func14, Try.ntmps14
  go_wp2_with (first | (go_at_call 27; go_in) | (go_at_call 37; refine (white_any r _ b H.out).mono ?_; rintro e w' ⟨rfl, rfl⟩))
  go_ret
  exact ⟨rfl, rfl⟩

theorem law_white (r : Int) (w : World) :
    Calls Try.prog 4 #[.int .i32 r] w fun e w' => e = .returned (.bool true) ∧ w = w' := by
  by_cases h9 : r = 9
  · subst h9
    go_enter Try.func4, Try.ntmps4
    go_wp2_with fail
    refine (White_any 9 _ true (by decide)).mono ?_
    rintro e w' ⟨rfl, rfl⟩
    go_wp2_with fail
    refine (White_any 32 _ true (by decide)).mono ?_
    rintro e w' ⟨rfl, rfl⟩
    go_wp2_with fail
    refine (White_any 120 _ false (by decide)).mono ?_
    rintro e w' ⟨rfl, rfl⟩
    go_wp2_with fail
    go_ret
    exact ⟨rfl, rfl⟩
  · by_cases h32 : r = 32
    · subst h32
      go_enter Try.func4, Try.ntmps4
      go_wp2_with fail
      refine (White_any 32 _ true (by decide)).mono ?_
      rintro e w' ⟨rfl, rfl⟩
      go_wp2_with fail
      refine (White_any 32 _ true (by decide)).mono ?_
      rintro e w' ⟨rfl, rfl⟩
      go_wp2_with fail
      refine (White_any 120 _ false (by decide)).mono ?_
      rintro e w' ⟨rfl, rfl⟩
      go_wp2_with fail
      go_ret
      exact ⟨rfl, rfl⟩
    · have e1 : (r == 9) = false := beq_eq_false_iff_ne.mpr h9
      have e2 : (r == 32) = false := beq_eq_false_iff_ne.mpr h32
      go_enter Try.func4, Try.ntmps4
      go_wp2_with fail
      refine (White_any r _ false (decide_eq_false (by omega)).symm).mono ?_
      rintro e w' ⟨rfl, rfl⟩
      go_wp2_with fail
      refine (White_any 32 _ true (by decide)).mono ?_
      rintro e w' ⟨rfl, rfl⟩
      go_wp2_with fail
      refine (White_any 120 _ false (by decide)).mono ?_
      rintro e w' ⟨rfl, rfl⟩
      go_wp2_with fail
      go_ret
      exact ⟨rfl, rfl⟩

/-- A sign of a bare key. -/
def bareB (r : Int) : Bool := decide ((97 ≤ r ∧ r ≤ 122) ∨ (65 ≤ r ∧ r ≤ 90) ∨ (48 ≤ r ∧ r ≤ 57) ∨ r = 95 ∨ r = 45)
theorem bareB_yes (r : Int) (h : (97 ≤ r ∧ r ≤ 122) ∨ (65 ≤ r ∧ r ≤ 90) ∨ (48 ≤ r ∧ r ≤ 57) ∨ r = 95 ∨ r = 45) : bareB r = true := decide_eq_true h
theorem bareB_no (r : Int) (h : ¬ ((97 ≤ r ∧ r ≤ 122) ∨ (65 ≤ r ∧ r ≤ 90) ∨ (48 ≤ r ∧ r ≤ 57) ∨ r = 95 ∨ r = 45)) : bareB r = false := decide_eq_false h

set_option maxHeartbeats 400000 in
theorem bare_any (r : Int) (w : World) (b : Bool) (h : b = bareB r) :
    Calls Try.prog 38 #[.int .i32 r] w fun e w' => e = .returned (.bool b) ∧ w = w' := by
  subst h
  have A : r ≤ 44 ∨ r = 45 ∨ (46 ≤ r ∧ r ≤ 47) ∨ (48 ≤ r ∧ r ≤ 57) ∨ (58 ≤ r ∧ r ≤ 64) ∨ (65 ≤ r ∧ r ≤ 90) ∨ (91 ≤ r ∧ r ≤ 94) ∨ r = 95 ∨ r = 96 ∨ (97 ≤ r ∧ r ≤ 122) ∨ 123 ≤ r := by omega
  rcases A with h | rfl | ⟨h1, h2⟩ | ⟨h1, h2⟩ | ⟨h1, h2⟩ | ⟨h1, h2⟩ | ⟨h1, h2⟩ | rfl | rfl | ⟨h1, h2⟩ | h
  · rw [bareB_no _ (by omega)]
    have d1 : decide (r ≤ 57) = true := decide_eq_true (by omega)
    have d2 : decide (r ≤ 90) = true := decide_eq_true (by omega)
    have d3 : decide (r ≤ 122) = true := decide_eq_true (by omega)
    have d4 : (r == 95) = false := beq_eq_false_iff_ne.mpr (by omega)
    have d5 : (r == 45) = false := beq_eq_false_iff_ne.mpr (by omega)
    go_enter Try.func38, Try.ntmps38
    go_wp2
    go_ret
    exact ⟨rfl, rfl⟩
  · rw [bareB_yes _ (by omega)]
    go_enter Try.func38, Try.ntmps38
    go_wp2
    go_ret
    exact ⟨rfl, rfl⟩
  · rw [bareB_no _ (by omega)]
    have d1 : decide (r ≤ 57) = true := decide_eq_true (by omega)
    have d2 : decide (r ≤ 90) = true := decide_eq_true (by omega)
    have d3 : decide (r ≤ 122) = true := decide_eq_true (by omega)
    have d4 : (r == 95) = false := beq_eq_false_iff_ne.mpr (by omega)
    have d5 : (r == 45) = false := beq_eq_false_iff_ne.mpr (by omega)
    go_enter Try.func38, Try.ntmps38
    go_wp2
    go_ret
    exact ⟨rfl, rfl⟩
  · rw [bareB_yes _ (by omega)]
    have d1 : decide (r ≤ 57) = true := decide_eq_true (by omega)
    have d2 : decide (r ≤ 90) = true := decide_eq_true (by omega)
    have d3 : decide (r ≤ 122) = true := decide_eq_true (by omega)
    have d4 : (r == 95) = false := beq_eq_false_iff_ne.mpr (by omega)
    have d5 : (r == 45) = false := beq_eq_false_iff_ne.mpr (by omega)
    go_enter Try.func38, Try.ntmps38
    go_wp2
    go_ret
    exact ⟨rfl, rfl⟩
  · rw [bareB_no _ (by omega)]
    have d1 : decide (r ≤ 57) = false := decide_eq_false (by omega)
    have d2 : decide (r ≤ 90) = true := decide_eq_true (by omega)
    have d3 : decide (r ≤ 122) = true := decide_eq_true (by omega)
    have d4 : (r == 95) = false := beq_eq_false_iff_ne.mpr (by omega)
    have d5 : (r == 45) = false := beq_eq_false_iff_ne.mpr (by omega)
    go_enter Try.func38, Try.ntmps38
    go_wp2
    go_ret
    exact ⟨rfl, rfl⟩
  · rw [bareB_yes _ (by omega)]
    have d1 : decide (r ≤ 57) = false := decide_eq_false (by omega)
    have d2 : decide (r ≤ 90) = true := decide_eq_true (by omega)
    have d3 : decide (r ≤ 122) = true := decide_eq_true (by omega)
    have d4 : (r == 95) = false := beq_eq_false_iff_ne.mpr (by omega)
    have d5 : (r == 45) = false := beq_eq_false_iff_ne.mpr (by omega)
    go_enter Try.func38, Try.ntmps38
    go_wp2
    go_ret
    exact ⟨rfl, rfl⟩
  · rw [bareB_no _ (by omega)]
    have d1 : decide (r ≤ 57) = false := decide_eq_false (by omega)
    have d2 : decide (r ≤ 90) = false := decide_eq_false (by omega)
    have d3 : decide (r ≤ 122) = true := decide_eq_true (by omega)
    have d4 : (r == 95) = false := beq_eq_false_iff_ne.mpr (by omega)
    have d5 : (r == 45) = false := beq_eq_false_iff_ne.mpr (by omega)
    go_enter Try.func38, Try.ntmps38
    go_wp2
    go_ret
    exact ⟨rfl, rfl⟩
  · rw [bareB_yes _ (by omega)]
    go_enter Try.func38, Try.ntmps38
    go_wp2
    go_ret
    exact ⟨rfl, rfl⟩
  · rw [bareB_no _ (by omega)]
    go_enter Try.func38, Try.ntmps38
    go_wp2
    go_ret
    exact ⟨rfl, rfl⟩
  · rw [bareB_yes _ (by omega)]
    have d1 : decide (r ≤ 57) = false := decide_eq_false (by omega)
    have d2 : decide (r ≤ 90) = false := decide_eq_false (by omega)
    have d3 : decide (r ≤ 122) = true := decide_eq_true (by omega)
    have d4 : (r == 95) = false := beq_eq_false_iff_ne.mpr (by omega)
    have d5 : (r == 45) = false := beq_eq_false_iff_ne.mpr (by omega)
    go_enter Try.func38, Try.ntmps38
    go_wp2
    go_ret
    exact ⟨rfl, rfl⟩
  · rw [bareB_no _ (by omega)]
    have d1 : decide (r ≤ 57) = false := decide_eq_false (by omega)
    have d2 : decide (r ≤ 90) = false := decide_eq_false (by omega)
    have d3 : decide (r ≤ 122) = false := decide_eq_false (by omega)
    have d4 : (r == 95) = false := beq_eq_false_iff_ne.mpr (by omega)
    have d5 : (r == 45) = false := beq_eq_false_iff_ne.mpr (by omega)
    go_enter Try.func38, Try.ntmps38
    go_wp2
    go_ret
    exact ⟨rfl, rfl⟩

theorem Bare_any (r : Int) (w : World) (b : Bool) (h : b = bareB r) :
    Calls Try.prog 15 #[.int .i32 r] w fun e w' => e = .returned (.bool b) ∧ w = w' := by
  have H := hidden h; clear h
  go_enter Try.func15, Try.ntmps15
  go_wp2_with (first | (go_at_call 28; go_in) | (go_at_call 38; refine (bare_any r _ b H.out).mono ?_; rintro e w' ⟨rfl, rfl⟩))
  go_ret
  exact ⟨rfl, rfl⟩

set_option maxHeartbeats 1000000 in
theorem law_bare (r : Int) (w : World) :
    Calls Try.prog 5 #[.int .i32 r] w fun e w' => e = .returned (.bool true) ∧ w = w' := by
  have A : r ≤ 44 ∨ r = 45 ∨ (46 ≤ r ∧ r ≤ 47) ∨ (48 ≤ r ∧ r ≤ 57) ∨ (58 ≤ r ∧ r ≤ 64) ∨ (65 ≤ r ∧ r ≤ 90) ∨ (91 ≤ r ∧ r ≤ 94) ∨ r = 95 ∨ r = 96 ∨ (97 ≤ r ∧ r ≤ 122) ∨ 123 ≤ r := by omega
  rcases A with h | rfl | ⟨h1, h2⟩ | ⟨h1, h2⟩ | ⟨h1, h2⟩ | ⟨h1, h2⟩ | ⟨h1, h2⟩ | rfl | rfl | ⟨h1, h2⟩ | h
  · have d1 : decide (r ≤ 57) = true := decide_eq_true (by omega)
    have d2 : decide (r ≤ 90) = true := decide_eq_true (by omega)
    have d3 : decide (r ≤ 122) = true := decide_eq_true (by omega)
    have d4 : (r == 95) = false := beq_eq_false_iff_ne.mpr (by omega)
    have d5 : (r == 45) = false := beq_eq_false_iff_ne.mpr (by omega)
    go_enter Try.func5, Try.ntmps5
    go_wp2_with fail
    refine (Bare_any r _ false (bareB_no _ (by omega)).symm).mono ?_
    rintro e w' ⟨rfl, rfl⟩
    go_wp2_with fail
    refine (Bare_any 97 _ true (by decide)).mono ?_
    rintro e w' ⟨rfl, rfl⟩
    go_wp2_with fail
    refine (Bare_any 46 _ false (by decide)).mono ?_
    rintro e w' ⟨rfl, rfl⟩
    go_wp2_with fail
    go_ret
    exact ⟨rfl, rfl⟩
  · go_enter Try.func5, Try.ntmps5
    go_wp2_with fail
    refine (Bare_any 45 _ true (bareB_yes _ (by omega)).symm).mono ?_
    rintro e w' ⟨rfl, rfl⟩
    go_wp2_with fail
    refine (Bare_any 97 _ true (by decide)).mono ?_
    rintro e w' ⟨rfl, rfl⟩
    go_wp2_with fail
    refine (Bare_any 46 _ false (by decide)).mono ?_
    rintro e w' ⟨rfl, rfl⟩
    go_wp2_with fail
    go_ret
    exact ⟨rfl, rfl⟩
  · have d1 : decide (r ≤ 57) = true := decide_eq_true (by omega)
    have d2 : decide (r ≤ 90) = true := decide_eq_true (by omega)
    have d3 : decide (r ≤ 122) = true := decide_eq_true (by omega)
    have d4 : (r == 95) = false := beq_eq_false_iff_ne.mpr (by omega)
    have d5 : (r == 45) = false := beq_eq_false_iff_ne.mpr (by omega)
    go_enter Try.func5, Try.ntmps5
    go_wp2_with fail
    refine (Bare_any r _ false (bareB_no _ (by omega)).symm).mono ?_
    rintro e w' ⟨rfl, rfl⟩
    go_wp2_with fail
    refine (Bare_any 97 _ true (by decide)).mono ?_
    rintro e w' ⟨rfl, rfl⟩
    go_wp2_with fail
    refine (Bare_any 46 _ false (by decide)).mono ?_
    rintro e w' ⟨rfl, rfl⟩
    go_wp2_with fail
    go_ret
    exact ⟨rfl, rfl⟩
  · have d1 : decide (r ≤ 57) = true := decide_eq_true (by omega)
    have d2 : decide (r ≤ 90) = true := decide_eq_true (by omega)
    have d3 : decide (r ≤ 122) = true := decide_eq_true (by omega)
    have d4 : (r == 95) = false := beq_eq_false_iff_ne.mpr (by omega)
    have d5 : (r == 45) = false := beq_eq_false_iff_ne.mpr (by omega)
    go_enter Try.func5, Try.ntmps5
    go_wp2_with fail
    refine (Bare_any r _ true (bareB_yes _ (by omega)).symm).mono ?_
    rintro e w' ⟨rfl, rfl⟩
    go_wp2_with fail
    refine (Bare_any 97 _ true (by decide)).mono ?_
    rintro e w' ⟨rfl, rfl⟩
    go_wp2_with fail
    refine (Bare_any 46 _ false (by decide)).mono ?_
    rintro e w' ⟨rfl, rfl⟩
    go_wp2_with fail
    go_ret
    exact ⟨rfl, rfl⟩
  · have d1 : decide (r ≤ 57) = false := decide_eq_false (by omega)
    have d2 : decide (r ≤ 90) = true := decide_eq_true (by omega)
    have d3 : decide (r ≤ 122) = true := decide_eq_true (by omega)
    have d4 : (r == 95) = false := beq_eq_false_iff_ne.mpr (by omega)
    have d5 : (r == 45) = false := beq_eq_false_iff_ne.mpr (by omega)
    go_enter Try.func5, Try.ntmps5
    go_wp2_with fail
    refine (Bare_any r _ false (bareB_no _ (by omega)).symm).mono ?_
    rintro e w' ⟨rfl, rfl⟩
    go_wp2_with fail
    refine (Bare_any 97 _ true (by decide)).mono ?_
    rintro e w' ⟨rfl, rfl⟩
    go_wp2_with fail
    refine (Bare_any 46 _ false (by decide)).mono ?_
    rintro e w' ⟨rfl, rfl⟩
    go_wp2_with fail
    go_ret
    exact ⟨rfl, rfl⟩
  · have d1 : decide (r ≤ 57) = false := decide_eq_false (by omega)
    have d2 : decide (r ≤ 90) = true := decide_eq_true (by omega)
    have d3 : decide (r ≤ 122) = true := decide_eq_true (by omega)
    have d4 : (r == 95) = false := beq_eq_false_iff_ne.mpr (by omega)
    have d5 : (r == 45) = false := beq_eq_false_iff_ne.mpr (by omega)
    go_enter Try.func5, Try.ntmps5
    go_wp2_with fail
    refine (Bare_any r _ true (bareB_yes _ (by omega)).symm).mono ?_
    rintro e w' ⟨rfl, rfl⟩
    go_wp2_with fail
    refine (Bare_any 97 _ true (by decide)).mono ?_
    rintro e w' ⟨rfl, rfl⟩
    go_wp2_with fail
    refine (Bare_any 46 _ false (by decide)).mono ?_
    rintro e w' ⟨rfl, rfl⟩
    go_wp2_with fail
    go_ret
    exact ⟨rfl, rfl⟩
  · have d1 : decide (r ≤ 57) = false := decide_eq_false (by omega)
    have d2 : decide (r ≤ 90) = false := decide_eq_false (by omega)
    have d3 : decide (r ≤ 122) = true := decide_eq_true (by omega)
    have d4 : (r == 95) = false := beq_eq_false_iff_ne.mpr (by omega)
    have d5 : (r == 45) = false := beq_eq_false_iff_ne.mpr (by omega)
    go_enter Try.func5, Try.ntmps5
    go_wp2_with fail
    refine (Bare_any r _ false (bareB_no _ (by omega)).symm).mono ?_
    rintro e w' ⟨rfl, rfl⟩
    go_wp2_with fail
    refine (Bare_any 97 _ true (by decide)).mono ?_
    rintro e w' ⟨rfl, rfl⟩
    go_wp2_with fail
    refine (Bare_any 46 _ false (by decide)).mono ?_
    rintro e w' ⟨rfl, rfl⟩
    go_wp2_with fail
    go_ret
    exact ⟨rfl, rfl⟩
  · go_enter Try.func5, Try.ntmps5
    go_wp2_with fail
    refine (Bare_any 95 _ true (bareB_yes _ (by omega)).symm).mono ?_
    rintro e w' ⟨rfl, rfl⟩
    go_wp2_with fail
    refine (Bare_any 97 _ true (by decide)).mono ?_
    rintro e w' ⟨rfl, rfl⟩
    go_wp2_with fail
    refine (Bare_any 46 _ false (by decide)).mono ?_
    rintro e w' ⟨rfl, rfl⟩
    go_wp2_with fail
    go_ret
    exact ⟨rfl, rfl⟩
  · go_enter Try.func5, Try.ntmps5
    go_wp2_with fail
    refine (Bare_any 96 _ false (bareB_no _ (by omega)).symm).mono ?_
    rintro e w' ⟨rfl, rfl⟩
    go_wp2_with fail
    refine (Bare_any 97 _ true (by decide)).mono ?_
    rintro e w' ⟨rfl, rfl⟩
    go_wp2_with fail
    refine (Bare_any 46 _ false (by decide)).mono ?_
    rintro e w' ⟨rfl, rfl⟩
    go_wp2_with fail
    go_ret
    exact ⟨rfl, rfl⟩
  · have d1 : decide (r ≤ 57) = false := decide_eq_false (by omega)
    have d2 : decide (r ≤ 90) = false := decide_eq_false (by omega)
    have d3 : decide (r ≤ 122) = true := decide_eq_true (by omega)
    have d4 : (r == 95) = false := beq_eq_false_iff_ne.mpr (by omega)
    have d5 : (r == 45) = false := beq_eq_false_iff_ne.mpr (by omega)
    go_enter Try.func5, Try.ntmps5
    go_wp2_with fail
    refine (Bare_any r _ true (bareB_yes _ (by omega)).symm).mono ?_
    rintro e w' ⟨rfl, rfl⟩
    go_wp2_with fail
    refine (Bare_any 97 _ true (by decide)).mono ?_
    rintro e w' ⟨rfl, rfl⟩
    go_wp2_with fail
    refine (Bare_any 46 _ false (by decide)).mono ?_
    rintro e w' ⟨rfl, rfl⟩
    go_wp2_with fail
    go_ret
    exact ⟨rfl, rfl⟩
  · have d1 : decide (r ≤ 57) = false := decide_eq_false (by omega)
    have d2 : decide (r ≤ 90) = false := decide_eq_false (by omega)
    have d3 : decide (r ≤ 122) = false := decide_eq_false (by omega)
    have d4 : (r == 95) = false := beq_eq_false_iff_ne.mpr (by omega)
    have d5 : (r == 45) = false := beq_eq_false_iff_ne.mpr (by omega)
    go_enter Try.func5, Try.ntmps5
    go_wp2_with fail
    refine (Bare_any r _ false (bareB_no _ (by omega)).symm).mono ?_
    rintro e w' ⟨rfl, rfl⟩
    go_wp2_with fail
    refine (Bare_any 97 _ true (by decide)).mono ?_
    rintro e w' ⟨rfl, rfl⟩
    go_wp2_with fail
    refine (Bare_any 46 _ false (by decide)).mono ?_
    rintro e w' ⟨rfl, rfl⟩
    go_wp2_with fail
    go_ret
    exact ⟨rfl, rfl⟩
end Go.Proofs.Ytfjdgfhfpcbcfaa
