/-
  floatAddDecimal hands back a string with a point as it is, another with a point and a zero behind it. Conditions: every byte is a point or a digit; at most 2147483647 bytes.
-/
import Derived.Test.YtfjdgfhfpcbcfaaProg
import Derived.WalkKit
import Derived.Below
import Derived.Laws.RangeAny
import Derived.LoopTactic
namespace Go.Proofs.Ytfjdgfhfpcbcfaa
open Go Go.RowKit
set_option linter.unusedVariables false

/-- Every byte is a point or a digit. -/
def PointDigits (s : ByteArray) : Prop := ∀ i (h : i < s.size), (s[i]'h).toNat = 46 ∨ (48 ≤ (s[i]'h).toNat ∧ (s[i]'h).toNat ≤ 57)
/-- A byte is a point. -/
def HasPoint (s : ByteArray) : Prop := ∃ i, ∃ h : i < s.size, (s[i]'h).toNat = 46

theorem PointDigits.ascii {s : ByteArray} (h : PointDigits s) (i : Nat) (hi : i < s.size) : (s[i]'hi).toNat < 128 := by
  rcases h i hi with a | a <;> omega

set_option maxRecDepth 100000 in
theorem dec_point (s : ByteArray) (w : World) (hs : PointDigits s) (hp : HasPoint s) :
    Calls Try.prog 41 #[.string s] w fun e w' => e = .returned (.string s) ∧ Below w.heap.size w w' := by
  have HS : Hid (PointDigits s) := hs
  have HP : Hid (HasPoint s) := hp
  clear hs hp
  go_enter Try.func41, Try.ntmps41
  go_wp2
  go_loopw [4] (fun _ w' => ∃ pos : Nat, w' = w.iter s pos ∧ Hid (∀ i (h : i < s.size), i < pos → (s[i]'h).toNat ≠ 46)) (fun _ w' => s.size - w'.iterPos w.heap.size)
  case atStart => exact ⟨0, rfl, fun i h h0 => by omega⟩
  case round =>
    obtain ⟨pos, rfl, hb⟩ := hrel
    by_cases hlt : pos < s.size
    · have hnx : ∀ ty, (Instr.next (.pointer (some ⟨w.heap.size, 0, none⟩)) true ty).run Try.prog (w.iter s pos) = _ := fun ty => run_next_ascii w s pos ty hlt (HS.out.ascii pos hlt)
      have h101 : (((s[pos]'hlt).toNat : Int) == 101) = false := by rcases HS.out pos hlt with a | a <;> (rw [beq_eq_false_iff_ne]; omega)
      by_cases h46 : (((s[pos]'hlt).toNat : Int) == 46) = true
      · go_wp2
        go_ret
        exact ⟨rfl, (Below.refl _ _).alloc (Nat.le_refl _) _⟩
      · have h46' : (((s[pos]'hlt).toNat : Int) == 46) = false := by simpa using h46
        clear h46
        go_wp2
        go_roundw
        case rel =>
          refine ⟨pos + 1, rfl, ?_⟩
          intro i h hi
          by_cases e : i = pos
          · subst e; intro e46; rw [e46] at h46'; simp at h46'
          · exact hb.out i h (by omega)
        case measure => simp; omega
    · exfalso
      obtain ⟨i, hi, h46⟩ := HP.out
      exact hb.out i hi (by omega) h46

set_option maxRecDepth 100000 in
theorem dec_none (s : ByteArray) (w : World) (hm : s.size ≤ 2147483647) (hs : PointDigits s) (hp : ¬ HasPoint s) :
    Calls Try.prog 41 #[.string s] w fun e w' => e = .returned (.string (s ++ ByteArray.mk #[46, 48])) ∧ Below w.heap.size w w' := by
  have HS : Hid (PointDigits s) := hs
  have HP : Hid (¬ HasPoint s) := hp
  clear hs hp
  go_enter Try.func41, Try.ntmps41
  go_wp2
  go_loopw [4] (fun _ w' => ∃ pos : Nat, w' = w.iter s pos) (fun _ w' => s.size - w'.iterPos w.heap.size)
  case atStart => exact ⟨0, rfl⟩
  case round =>
    obtain ⟨pos, rfl⟩ := hrel
    by_cases hlt : pos < s.size
    · have hnx : ∀ ty, (Instr.next (.pointer (some ⟨w.heap.size, 0, none⟩)) true ty).run Try.prog (w.iter s pos) = _ := fun ty => run_next_ascii w s pos ty hlt (HS.out.ascii pos hlt)
      have h101 : (((s[pos]'hlt).toNat : Int) == 101) = false := by rcases HS.out pos hlt with a | a <;> (rw [beq_eq_false_iff_ne]; omega)
      have h46 : (((s[pos]'hlt).toNat : Int) == 46) = false := by
        rw [beq_eq_false_iff_ne]
        intro e
        exact HP.out ⟨pos, hlt, by omega⟩
      go_wp2
      go_roundw
      case rel => exact ⟨pos + 1, rfl⟩
      case measure => simp; omega
    · have hnx : ∀ ty, (Instr.next (.pointer (some ⟨w.heap.size, 0, none⟩)) true ty).run Try.prog (w.iter s pos) = _ := fun ty => run_next_end w s pos ty hlt
      have hsz : s.size + (ByteArray.mk #[46, 48]).size ≤ 9223372036854775807 := by
        have : (ByteArray.mk #[46, 48]).size = 2 := rfl
        omega
      go_wp2
      go_ret
      exact ⟨rfl, (Below.refl _ _).alloc (Nat.le_refl _) _⟩

theorem Dec_point (s : ByteArray) (w : World) (hs : PointDigits s) (hp : HasPoint s) :
    Calls Try.prog 18 #[.string s] w fun e w' => e = .returned (.string s) ∧ Below w.heap.size w w' := by
  have HS : Hid (PointDigits s) := hs
  have HP : Hid (HasPoint s) := hp
  clear hs hp
  go_enter Try.func18, Try.ntmps18
  go_wp2_with (first | (go_at_call 31; go_in) | (go_at_call 41; refine (dec_point s _ HS.out HP.out).mono ?_; rintro e w1 ⟨rfl, hb⟩))
  go_ret
  exact ⟨rfl, hb⟩

theorem Dec_none (s : ByteArray) (w : World) (hm : s.size ≤ 2147483647) (hs : PointDigits s) (hp : ¬ HasPoint s) :
    Calls Try.prog 18 #[.string s] w fun e w' => e = .returned (.string (s ++ ByteArray.mk #[46, 48])) ∧ Below w.heap.size w w' := by
  have HS : Hid (PointDigits s) := hs
  have HP : Hid (¬ HasPoint s) := hp
  clear hs hp
  go_enter Try.func18, Try.ntmps18
  go_wp2_with (first | (go_at_call 31; go_in) | (go_at_call 41; refine (dec_none s _ hm HS.out HP.out).mono ?_; rintro e w1 ⟨rfl, hb⟩))
  go_ret
  exact ⟨rfl, hb⟩

theorem one_digits : PointDigits (ByteArray.mk #[49]) := by
  intro i h
  have h' : i < 1 := h
  obtain rfl : i = 0 := by omega
  exact .inr (show (48 : Nat) ≤ 49 ∧ (49 : Nat) ≤ 57 by decide)
theorem one_none : ¬ HasPoint (ByteArray.mk #[49]) := by
  rintro ⟨i, h, e⟩
  have h' : i < 1 := h
  obtain rfl : i = 0 := by omega
  exact absurd (show (49 : Nat) = 46 from e) (by decide)
theorem Dec_one (w : World) :
    Calls Try.prog 18 #[.string (ByteArray.mk #[49])] w fun e w' => e = .returned (.string (ByteArray.mk #[49, 46, 48])) ∧ Below w.heap.size w w' :=
  Dec_none (ByteArray.mk #[49]) w (by decide) one_digits one_none
end Go.Proofs.Ytfjdgfhfpcbcfaa
