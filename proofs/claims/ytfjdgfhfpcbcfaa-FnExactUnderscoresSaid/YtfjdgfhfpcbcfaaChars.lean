/-
  isHex, impl.Hex and the law FnExactHex: the first two answer whether a rune is a hexadecimal digit, the law returns true. Condition: the rune is an int32.
-/
import Derived.Test.YtfjdgfhfpcbcfaaProg
import Derived.Test.YtfjdgfhfpcbcfaaHexPlain
import Derived.WalkKit
import Derived.Below
namespace Go.Proofs.Ytfjdgfhfpcbcfaa
open Go Go.RowKit

set_option linter.unusedVariables false

theorem hid {p : Prop} (h : p) : Hid p := h

theorem hex_no (r : Int) (w : World) (hlo : -2147483648 ≤ r) (hhi : r ≤ 2147483647) (h1 : ¬ (48 ≤ r ∧ r ≤ 57)) (h2 : ¬ (97 ≤ r ∧ r ≤ 102)) (h3 : ¬ (65 ≤ r ∧ r ≤ 70)) :
    Calls Try.prog 36 #[.int .i32 r] w fun e w' => e = .returned (.bool false) ∧ w = w' := by
  have hb := or32_of r hlo hhi
  have hb' : ¬ (97 ≤ bits .or .i32 r 32 ∧ bits .or .i32 r 32 ≤ 102) := fun h => by have := hb h.1 h.2; omega
  clear hb hlo hhi h2 h3
  generalize hg : bits .or .i32 r 32 = m at hb'
  have HG := hid hg; clear hg
  by_cases a : 48 ≤ r
  · have b : ¬ r ≤ 57 := fun b => h1 ⟨a, b⟩
    by_cases c : 97 ≤ m
    · have d : ¬ m ≤ 102 := fun d => hb' ⟨c, d⟩
      clear h1 hb'
      have HG' : bits .or .i32 r 32 = m := HG.out
      go_enter Try.func36, Try.ntmps36
      go_wp2
      go_ret
      exact ⟨rfl, rfl⟩
    · clear h1 hb'
      have HG' : bits .or .i32 r 32 = m := HG.out
      go_enter Try.func36, Try.ntmps36
      go_wp2
      go_ret
      exact ⟨rfl, rfl⟩
  · by_cases c : 97 ≤ m
    · have d : ¬ m ≤ 102 := fun d => hb' ⟨c, d⟩
      clear h1 hb'
      have HG' : bits .or .i32 r 32 = m := HG.out
      go_enter Try.func36, Try.ntmps36
      go_wp2
      go_ret
      exact ⟨rfl, rfl⟩
    · clear h1 hb'
      have HG' : bits .or .i32 r 32 = m := HG.out
      go_enter Try.func36, Try.ntmps36
      go_wp2
      go_ret
      exact ⟨rfl, rfl⟩

theorem hex_digit (r : Int) (w : World) (h1 : 48 ≤ r) (h2 : r ≤ 57) :
    Calls Try.prog 36 #[.int .i32 r] w fun e w' => e = .returned (.bool true) ∧ w = w' := by
  go_enter Try.func36, Try.ntmps36
  go_wp2
  go_ret
  exact ⟨rfl, rfl⟩
theorem hex_low (r : Int) (w : World) (h1 : 97 ≤ r) (h2 : r ≤ 102) :
    Calls Try.prog 36 #[.int .i32 r] w fun e w' => e = .returned (.bool true) ∧ w = w' := by
  have h3 : ¬ r ≤ 57 := by omega
  have hb := or32_lo r h1 h2
  go_enter Try.func36, Try.ntmps36
  go_wp2
  go_ret
  exact ⟨rfl, rfl⟩
theorem hex_up (r : Int) (w : World) (h1 : 65 ≤ r) (h2 : r ≤ 70) :
    Calls Try.prog 36 #[.int .i32 r] w fun e w' => e = .returned (.bool true) ∧ w = w' := by
  have h3 : ¬ r ≤ 57 := by omega
  have hb := or32_hi r h1 h2
  have h4 : decide (r + 32 ≤ 102) = true := decide_eq_true (by omega)
  go_enter Try.func36, Try.ntmps36
  go_wp2
  go_ret
  exact ⟨rfl, rfl⟩

/-- isHex, by its answer. -/
theorem hex_of (r : Int) (w : World) (b : Bool) (hlo : -2147483648 ≤ r) (hhi : r ≤ 2147483647) (h : b = decide ((48 ≤ r ∧ r ≤ 57) ∨ (97 ≤ r ∧ r ≤ 102) ∨ (65 ≤ r ∧ r ≤ 70))) :
    Calls Try.prog 36 #[.int .i32 r] w fun e w' => e = .returned (.bool b) ∧ w = w' := by
  cases b with
  | true =>
    rcases of_decide_eq_true h.symm with h | h | h
    · exact hex_digit r w h.1 h.2
    · exact hex_low r w h.1 h.2
    · exact hex_up r w h.1 h.2
  | false =>
    have h' := of_decide_eq_false h.symm
    exact hex_no r w hlo hhi (fun a => h' (.inl a)) (fun a => h' (.inr (.inl a))) (fun a => h' (.inr (.inr a)))

/-- impl.Hex, by its answer. -/
theorem Hex_of (r : Int) (w : World) (b : Bool) (hlo : -2147483648 ≤ r) (hhi : r ≤ 2147483647) (h : b = decide ((48 ≤ r ∧ r ≤ 57) ∨ (97 ≤ r ∧ r ≤ 102) ∨ (65 ≤ r ∧ r ≤ 70))) :
    Calls Try.prog 13 #[.int .i32 r] w fun e w' => e = .returned (.bool b) ∧ w = w' := by
  have H := hid h; clear h
  go_enter Try.func13, Try.ntmps13
  go_wp2_with (first | (go_at_call 26; go_in) | (go_at_call 36; refine (hex_of r _ b hlo hhi H.out).mono ?_; rintro e w' ⟨rfl, rfl⟩))
  go_ret
  exact ⟨rfl, rfl⟩

set_option maxHeartbeats 400000 in
theorem law_hex (r : Int) (w : World) (hlo : -2147483648 ≤ r) (hhi : r ≤ 2147483647) :
    Calls Try.prog 3 #[.int .i32 r] w fun e w' => e = .returned (.bool true) ∧ w = w' := by
  have A : r ≤ 47 ∨ (48 ≤ r ∧ r ≤ 57) ∨ (58 ≤ r ∧ r ≤ 64) ∨ (65 ≤ r ∧ r ≤ 70) ∨ (71 ≤ r ∧ r ≤ 96) ∨ (97 ≤ r ∧ r ≤ 102) ∨ 103 ≤ r := by omega
  rcases A with h | ⟨h1, h2⟩ | ⟨h1, h2⟩ | ⟨h1, h2⟩ | ⟨h1, h2⟩ | ⟨h1, h2⟩ | h
  · have d1 : decide (r ≤ 57) = true := decide_eq_true (by omega)
    have d2 : decide (r ≤ 70) = true := decide_eq_true (by omega)
    have d3 : decide (r ≤ 102) = true := decide_eq_true (by omega)
    go_enter Try.func3, Try.ntmps3
    go_wp2_with fail
    refine (Hex_of r _ false hlo hhi (by first | (exact (decide_eq_true (by omega)).symm) | (exact (decide_eq_false (by omega)).symm))).mono ?_
    rintro e w' ⟨rfl, rfl⟩
    go_wp2_with fail
    refine (Hex_of 97 _ true (by decide) (by decide) (by decide)).mono ?_
    rintro e w' ⟨rfl, rfl⟩
    go_wp2_with fail
    refine (Hex_of 103 _ false (by decide) (by decide) (by decide)).mono ?_
    rintro e w' ⟨rfl, rfl⟩
    go_wp2_with fail
    go_ret
    exact ⟨rfl, rfl⟩
  · have d1 : decide (r ≤ 57) = true := decide_eq_true (by omega)
    have d2 : decide (r ≤ 70) = true := decide_eq_true (by omega)
    have d3 : decide (r ≤ 102) = true := decide_eq_true (by omega)
    go_enter Try.func3, Try.ntmps3
    go_wp2_with fail
    refine (Hex_of r _ true hlo hhi (by first | (exact (decide_eq_true (by omega)).symm) | (exact (decide_eq_false (by omega)).symm))).mono ?_
    rintro e w' ⟨rfl, rfl⟩
    go_wp2_with fail
    refine (Hex_of 97 _ true (by decide) (by decide) (by decide)).mono ?_
    rintro e w' ⟨rfl, rfl⟩
    go_wp2_with fail
    refine (Hex_of 103 _ false (by decide) (by decide) (by decide)).mono ?_
    rintro e w' ⟨rfl, rfl⟩
    go_wp2_with fail
    go_ret
    exact ⟨rfl, rfl⟩
  · have d1 : decide (r ≤ 57) = false := decide_eq_false (by omega)
    have d2 : decide (r ≤ 70) = true := decide_eq_true (by omega)
    have d3 : decide (r ≤ 102) = true := decide_eq_true (by omega)
    go_enter Try.func3, Try.ntmps3
    go_wp2_with fail
    refine (Hex_of r _ false hlo hhi (by first | (exact (decide_eq_true (by omega)).symm) | (exact (decide_eq_false (by omega)).symm))).mono ?_
    rintro e w' ⟨rfl, rfl⟩
    go_wp2_with fail
    refine (Hex_of 97 _ true (by decide) (by decide) (by decide)).mono ?_
    rintro e w' ⟨rfl, rfl⟩
    go_wp2_with fail
    refine (Hex_of 103 _ false (by decide) (by decide) (by decide)).mono ?_
    rintro e w' ⟨rfl, rfl⟩
    go_wp2_with fail
    go_ret
    exact ⟨rfl, rfl⟩
  · have d1 : decide (r ≤ 57) = false := decide_eq_false (by omega)
    have d2 : decide (r ≤ 70) = true := decide_eq_true (by omega)
    have d3 : decide (r ≤ 102) = true := decide_eq_true (by omega)
    go_enter Try.func3, Try.ntmps3
    go_wp2_with fail
    refine (Hex_of r _ true hlo hhi (by first | (exact (decide_eq_true (by omega)).symm) | (exact (decide_eq_false (by omega)).symm))).mono ?_
    rintro e w' ⟨rfl, rfl⟩
    go_wp2_with fail
    refine (Hex_of 97 _ true (by decide) (by decide) (by decide)).mono ?_
    rintro e w' ⟨rfl, rfl⟩
    go_wp2_with fail
    refine (Hex_of 103 _ false (by decide) (by decide) (by decide)).mono ?_
    rintro e w' ⟨rfl, rfl⟩
    go_wp2_with fail
    go_ret
    exact ⟨rfl, rfl⟩
  · have d1 : decide (r ≤ 57) = false := decide_eq_false (by omega)
    have d2 : decide (r ≤ 70) = false := decide_eq_false (by omega)
    have d3 : decide (r ≤ 102) = true := decide_eq_true (by omega)
    go_enter Try.func3, Try.ntmps3
    go_wp2_with fail
    refine (Hex_of r _ false hlo hhi (by first | (exact (decide_eq_true (by omega)).symm) | (exact (decide_eq_false (by omega)).symm))).mono ?_
    rintro e w' ⟨rfl, rfl⟩
    go_wp2_with fail
    refine (Hex_of 97 _ true (by decide) (by decide) (by decide)).mono ?_
    rintro e w' ⟨rfl, rfl⟩
    go_wp2_with fail
    refine (Hex_of 103 _ false (by decide) (by decide) (by decide)).mono ?_
    rintro e w' ⟨rfl, rfl⟩
    go_wp2_with fail
    go_ret
    exact ⟨rfl, rfl⟩
  · have d1 : decide (r ≤ 57) = false := decide_eq_false (by omega)
    have d2 : decide (r ≤ 70) = false := decide_eq_false (by omega)
    have d3 : decide (r ≤ 102) = true := decide_eq_true (by omega)
    go_enter Try.func3, Try.ntmps3
    go_wp2_with fail
    refine (Hex_of r _ true hlo hhi (by first | (exact (decide_eq_true (by omega)).symm) | (exact (decide_eq_false (by omega)).symm))).mono ?_
    rintro e w' ⟨rfl, rfl⟩
    go_wp2_with fail
    refine (Hex_of 97 _ true (by decide) (by decide) (by decide)).mono ?_
    rintro e w' ⟨rfl, rfl⟩
    go_wp2_with fail
    refine (Hex_of 103 _ false (by decide) (by decide) (by decide)).mono ?_
    rintro e w' ⟨rfl, rfl⟩
    go_wp2_with fail
    go_ret
    exact ⟨rfl, rfl⟩
  · have d1 : decide (r ≤ 57) = false := decide_eq_false (by omega)
    have d2 : decide (r ≤ 70) = false := decide_eq_false (by omega)
    have d3 : decide (r ≤ 102) = false := decide_eq_false (by omega)
    go_enter Try.func3, Try.ntmps3
    go_wp2_with fail
    refine (Hex_of r _ false hlo hhi (by first | (exact (decide_eq_true (by omega)).symm) | (exact (decide_eq_false (by omega)).symm))).mono ?_
    rintro e w' ⟨rfl, rfl⟩
    go_wp2_with fail
    refine (Hex_of 97 _ true (by decide) (by decide) (by decide)).mono ?_
    rintro e w' ⟨rfl, rfl⟩
    go_wp2_with fail
    refine (Hex_of 103 _ false (by decide) (by decide) (by decide)).mono ?_
    rintro e w' ⟨rfl, rfl⟩
    go_wp2_with fail
    go_ret
    exact ⟨rfl, rfl⟩
end Go.Proofs.Ytfjdgfhfpcbcfaa
