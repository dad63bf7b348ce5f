/-
  spec.Bare answers whether a text is made of signs of bare keys and is not empty. Condition: at most 9223372036854775807 bytes, as every string.
-/
import Derived.Test.YtfjdgfhfpcbcfaaProg
import Derived.WalkKit
import Derived.Below
import Derived.LoopTactic
import Derived.Laws.Strings
namespace Go.Proofs.Ytfjdgfhfpcbcfaa
open Go Go.RowKit
set_option linter.unusedVariables false

/-- A byte that is a sign of a bare key. -/
def BareSign (n : Nat) : Prop := (97 ≤ n ∧ n ≤ 122) ∨ (65 ≤ n ∧ n ≤ 90) ∨ (48 ≤ n ∧ n ≤ 57) ∨ n = 95 ∨ n = 45
/-- A text of such bytes, not empty. -/
def BareText (s : ByteArray) : Prop := 0 < s.size ∧ ∀ i (h : i < s.size), BareSign (s[i]'h).toNat

theorem text_empty (s : ByteArray) (h : ¬ 0 < s.size) : s.toList.isEmpty = true := by
  rw [ByteArray.toList_eq]
  have : s.data.toList = [] := List.eq_nil_of_length_eq_zero (by have : s.data.toList.length = s.size := by simp
                                                                 omega)
  rw [this]
  rfl
theorem text_full (s : ByteArray) (h : 0 < s.size) : s.toList.isEmpty = false := by
  rw [ByteArray.toList_eq, List.isEmpty_eq_false_iff]
  intro e
  have : s.size = s.data.toList.length := by simp
  rw [e, List.length_nil] at this
  omega

set_option maxHeartbeats 2000000 in
set_option maxRecDepth 100000 in
theorem bare_text (s : ByteArray) (b : Bool) (w : World) (hm : s.size ≤ 9223372036854775807) (h : b = true ↔ BareText s) :
    Calls Try.prog 24 #[.string s] w fun e w' => e = .returned (.bool b) ∧ w = w' := by
  have HB : Hid (b = true ↔ BareText s) := h
  clear h
  go_enter Try.func24, Try.ntmps24
  go_wp2_with fail
  go_loop [3, 4] (fun i _ => ∃ k : Nat, k ≤ s.size ∧ i = .int .i64 k ∧ Hid (∀ i (h : i < s.size), i < k → BareSign (s[i]'h).toNat)) (fun i _ => s.size - (intOf i).toNat)
  case atStart => exact ⟨0, Nat.zero_le _, rfl, fun i h h0 => by omega⟩
  case round =>
    obtain ⟨k, hk, rfl, hd⟩ := hrel
    by_cases hlt : k < s.size
    · have hbyte : (s[k]'hlt).toNat < 256 := (s[k]'hlt).toNat_lt
      have HIDX : Hid (BareSign (s[k]'hlt).toNat → ∀ i (h : i < s.size), i < k + 1 → BareSign (s[i]'h).toNat) := by
        intro hc i h hi
        by_cases e : i = k
        · subst e; exact hc
        · exact hd.out i h (by omega)
      have HNOT : Hid (¬ BareSign (s[k]'hlt).toNat → ¬ BareText s) := fun hc ht => hc (ht.2 k hlt)
      generalize hn : (s[k]'hlt).toNat = n at hbyte HIDX HNOT
      have HN : Hid ((s[k]'hlt).toNat = n) := hn
      clear hn
      have hbi : ((s[k]'hlt).toNat : Int) = (n : Int) := by rw [HN.out]
      have A : (0 ≤ n ∧ n ≤ 44) ∨ n = 45 ∨ (46 ≤ n ∧ n ≤ 47) ∨ (48 ≤ n ∧ n ≤ 57) ∨ (58 ≤ n ∧ n ≤ 64) ∨ (65 ≤ n ∧ n ≤ 90) ∨ (91 ≤ n ∧ n ≤ 94) ∨ n = 95 ∨ n = 96 ∨ (97 ≤ n ∧ n ≤ 122) ∨ (123 ≤ n ∧ n ≤ 255) := by omega
      rcases A with ⟨h1, h2⟩ | rfl | ⟨h1, h2⟩ | ⟨h1, h2⟩ | ⟨h1, h2⟩ | ⟨h1, h2⟩ | ⟨h1, h2⟩ | rfl | rfl | ⟨h1, h2⟩ | ⟨h1, h2⟩
      · have g1 : (n : Int) ≤ 44 := by omega
        have d1 : decide ((n : Int) ≤ 57) = true := decide_eq_true (by omega)
        have d2 : decide ((n : Int) ≤ 90) = true := decide_eq_true (by omega)
        have d3 : decide ((n : Int) ≤ 122) = true := decide_eq_true (by omega)
        have d4 : decide ((48 : Int) ≤ (n : Int)) = false := decide_eq_false (by omega)
        have d5 : decide ((65 : Int) ≤ (n : Int)) = false := decide_eq_false (by omega)
        have d6 : decide ((97 : Int) ≤ (n : Int)) = false := decide_eq_false (by omega)
        have d7 : ((n : Int) == 95) = false := beq_eq_false_iff_ne.mpr (by omega)
        have d8 : ((n : Int) == 45) = false := beq_eq_false_iff_ne.mpr (by omega)
        have HC : Hid (¬ BareSign n) := by unfold Hid BareSign; omega
        obtain rfl : b = false := by
          cases b
          · rfl
          · exact absurd (HB.out.mp rfl) (HNOT.out HC.out)
        go_wp2_with fail
        go_ret
        exact ⟨rfl, rfl⟩
      · have HC : Hid (BareSign 45) := by unfold Hid BareSign; omega
        go_wp2_with fail
        go_round
        case rel => exact ⟨k + 1, by omega, by go_num, HIDX.out HC.out⟩
        case measure => simp [intOf]; omega
      · have g1 : (46 : Int) ≤ (n : Int) := by omega
        have g2 : (n : Int) ≤ 47 := by omega
        have d1 : decide ((n : Int) ≤ 57) = true := decide_eq_true (by omega)
        have d2 : decide ((n : Int) ≤ 90) = true := decide_eq_true (by omega)
        have d3 : decide ((n : Int) ≤ 122) = true := decide_eq_true (by omega)
        have d4 : decide ((48 : Int) ≤ (n : Int)) = false := decide_eq_false (by omega)
        have d5 : decide ((65 : Int) ≤ (n : Int)) = false := decide_eq_false (by omega)
        have d6 : decide ((97 : Int) ≤ (n : Int)) = false := decide_eq_false (by omega)
        have d7 : ((n : Int) == 95) = false := beq_eq_false_iff_ne.mpr (by omega)
        have d8 : ((n : Int) == 45) = false := beq_eq_false_iff_ne.mpr (by omega)
        have HC : Hid (¬ BareSign n) := by unfold Hid BareSign; omega
        obtain rfl : b = false := by
          cases b
          · rfl
          · exact absurd (HB.out.mp rfl) (HNOT.out HC.out)
        go_wp2_with fail
        go_ret
        exact ⟨rfl, rfl⟩
      · have g1 : (48 : Int) ≤ (n : Int) := by omega
        have g2 : (n : Int) ≤ 57 := by omega
        have d1 : decide ((n : Int) ≤ 57) = true := decide_eq_true (by omega)
        have d2 : decide ((n : Int) ≤ 90) = true := decide_eq_true (by omega)
        have d3 : decide ((n : Int) ≤ 122) = true := decide_eq_true (by omega)
        have d4 : decide ((48 : Int) ≤ (n : Int)) = true := decide_eq_true (by omega)
        have d5 : decide ((65 : Int) ≤ (n : Int)) = false := decide_eq_false (by omega)
        have d6 : decide ((97 : Int) ≤ (n : Int)) = false := decide_eq_false (by omega)
        have d7 : ((n : Int) == 95) = false := beq_eq_false_iff_ne.mpr (by omega)
        have d8 : ((n : Int) == 45) = false := beq_eq_false_iff_ne.mpr (by omega)
        have HC : Hid (BareSign n) := by unfold Hid BareSign; omega
        go_wp2_with fail
        go_round
        case rel => exact ⟨k + 1, by omega, by go_num, HIDX.out HC.out⟩
        case measure => simp [intOf]; omega
      · have g1 : (58 : Int) ≤ (n : Int) := by omega
        have g2 : (n : Int) ≤ 64 := by omega
        have d1 : decide ((n : Int) ≤ 57) = false := decide_eq_false (by omega)
        have d2 : decide ((n : Int) ≤ 90) = true := decide_eq_true (by omega)
        have d3 : decide ((n : Int) ≤ 122) = true := decide_eq_true (by omega)
        have d4 : decide ((48 : Int) ≤ (n : Int)) = true := decide_eq_true (by omega)
        have d5 : decide ((65 : Int) ≤ (n : Int)) = false := decide_eq_false (by omega)
        have d6 : decide ((97 : Int) ≤ (n : Int)) = false := decide_eq_false (by omega)
        have d7 : ((n : Int) == 95) = false := beq_eq_false_iff_ne.mpr (by omega)
        have d8 : ((n : Int) == 45) = false := beq_eq_false_iff_ne.mpr (by omega)
        have HC : Hid (¬ BareSign n) := by unfold Hid BareSign; omega
        obtain rfl : b = false := by
          cases b
          · rfl
          · exact absurd (HB.out.mp rfl) (HNOT.out HC.out)
        go_wp2_with fail
        go_ret
        exact ⟨rfl, rfl⟩
      · have g1 : (65 : Int) ≤ (n : Int) := by omega
        have g2 : (n : Int) ≤ 90 := by omega
        have d1 : decide ((n : Int) ≤ 57) = false := decide_eq_false (by omega)
        have d2 : decide ((n : Int) ≤ 90) = true := decide_eq_true (by omega)
        have d3 : decide ((n : Int) ≤ 122) = true := decide_eq_true (by omega)
        have d4 : decide ((48 : Int) ≤ (n : Int)) = true := decide_eq_true (by omega)
        have d5 : decide ((65 : Int) ≤ (n : Int)) = true := decide_eq_true (by omega)
        have d6 : decide ((97 : Int) ≤ (n : Int)) = false := decide_eq_false (by omega)
        have d7 : ((n : Int) == 95) = false := beq_eq_false_iff_ne.mpr (by omega)
        have d8 : ((n : Int) == 45) = false := beq_eq_false_iff_ne.mpr (by omega)
        have HC : Hid (BareSign n) := by unfold Hid BareSign; omega
        go_wp2_with fail
        go_round
        case rel => exact ⟨k + 1, by omega, by go_num, HIDX.out HC.out⟩
        case measure => simp [intOf]; omega
      · have g1 : (91 : Int) ≤ (n : Int) := by omega
        have g2 : (n : Int) ≤ 94 := by omega
        have d1 : decide ((n : Int) ≤ 57) = false := decide_eq_false (by omega)
        have d2 : decide ((n : Int) ≤ 90) = false := decide_eq_false (by omega)
        have d3 : decide ((n : Int) ≤ 122) = true := decide_eq_true (by omega)
        have d4 : decide ((48 : Int) ≤ (n : Int)) = true := decide_eq_true (by omega)
        have d5 : decide ((65 : Int) ≤ (n : Int)) = true := decide_eq_true (by omega)
        have d6 : decide ((97 : Int) ≤ (n : Int)) = false := decide_eq_false (by omega)
        have d7 : ((n : Int) == 95) = false := beq_eq_false_iff_ne.mpr (by omega)
        have d8 : ((n : Int) == 45) = false := beq_eq_false_iff_ne.mpr (by omega)
        have HC : Hid (¬ BareSign n) := by unfold Hid BareSign; omega
        obtain rfl : b = false := by
          cases b
          · rfl
          · exact absurd (HB.out.mp rfl) (HNOT.out HC.out)
        go_wp2_with fail
        go_ret
        exact ⟨rfl, rfl⟩
      · have HC : Hid (BareSign 95) := by unfold Hid BareSign; omega
        go_wp2_with fail
        go_round
        case rel => exact ⟨k + 1, by omega, by go_num, HIDX.out HC.out⟩
        case measure => simp [intOf]; omega
      · have HC : Hid (¬ BareSign 96) := by unfold Hid BareSign; omega
        obtain rfl : b = false := by
          cases b
          · rfl
          · exact absurd (HB.out.mp rfl) (HNOT.out HC.out)
        go_wp2_with fail
        go_ret
        exact ⟨rfl, rfl⟩
      · have g1 : (97 : Int) ≤ (n : Int) := by omega
        have g2 : (n : Int) ≤ 122 := by omega
        have d1 : decide ((n : Int) ≤ 57) = false := decide_eq_false (by omega)
        have d2 : decide ((n : Int) ≤ 90) = false := decide_eq_false (by omega)
        have d3 : decide ((n : Int) ≤ 122) = true := decide_eq_true (by omega)
        have d4 : decide ((48 : Int) ≤ (n : Int)) = true := decide_eq_true (by omega)
        have d5 : decide ((65 : Int) ≤ (n : Int)) = true := decide_eq_true (by omega)
        have d6 : decide ((97 : Int) ≤ (n : Int)) = true := decide_eq_true (by omega)
        have d7 : ((n : Int) == 95) = false := beq_eq_false_iff_ne.mpr (by omega)
        have d8 : ((n : Int) == 45) = false := beq_eq_false_iff_ne.mpr (by omega)
        have HC : Hid (BareSign n) := by unfold Hid BareSign; omega
        go_wp2_with fail
        go_round
        case rel => exact ⟨k + 1, by omega, by go_num, HIDX.out HC.out⟩
        case measure => simp [intOf]; omega
      · have g1 : (123 : Int) ≤ (n : Int) := by omega
        have g2 : (n : Int) ≤ 255 := by omega
        have d1 : decide ((n : Int) ≤ 57) = false := decide_eq_false (by omega)
        have d2 : decide ((n : Int) ≤ 90) = false := decide_eq_false (by omega)
        have d3 : decide ((n : Int) ≤ 122) = false := decide_eq_false (by omega)
        have d4 : decide ((48 : Int) ≤ (n : Int)) = true := decide_eq_true (by omega)
        have d5 : decide ((65 : Int) ≤ (n : Int)) = true := decide_eq_true (by omega)
        have d6 : decide ((97 : Int) ≤ (n : Int)) = true := decide_eq_true (by omega)
        have d7 : ((n : Int) == 95) = false := beq_eq_false_iff_ne.mpr (by omega)
        have d8 : ((n : Int) == 45) = false := beq_eq_false_iff_ne.mpr (by omega)
        have HC : Hid (¬ BareSign n) := by unfold Hid BareSign; omega
        obtain rfl : b = false := by
          cases b
          · rfl
          · exact absurd (HB.out.mp rfl) (HNOT.out HC.out)
        go_wp2_with fail
        go_ret
        exact ⟨rfl, rfl⟩
    · obtain rfl : k = s.size := by omega
      by_cases hp : 0 < s.size
      · have hne := text_full s hp
        obtain rfl : b = true := HB.out.mpr ⟨hp, fun i h => hd.out i h h⟩
        go_wp2_with fail
        go_ret
        exact ⟨rfl, rfl⟩
      · have hne := text_empty s hp
        obtain rfl : b = false := by
          cases b
          · rfl
          · exact absurd (HB.out.mp rfl).1 hp
        go_wp2_with fail
        go_ret
        exact ⟨rfl, rfl⟩
end Go.Proofs.Ytfjdgfhfpcbcfaa
