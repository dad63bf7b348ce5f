/-
  numHasLeadingZero answers whether the digits begin with a zero and go on. Condition: digits, with a sign or without.
-/
import Derived.Test.YtfjdgfhfpcbcfaaProg
import Derived.WalkKit
import Derived.Below
namespace Go.Proofs.Ytfjdgfhfpcbcfaa
open Go Go.RowKit
set_option linter.unusedVariables false

/-- Every byte is a digit. -/
def Digits (s : ByteArray) : Prop := ∀ i (h : i < s.size), 48 ≤ (s[i]'h).toNat ∧ (s[i]'h).toNat ≤ 57
/-- numHasLeadingZero answers b at s, in whatever world, and leaves the world alone. -/
def LzSays (s : ByteArray) (b : Bool) : Prop := ∀ w : World, Calls Try.prog 39 #[.string s] w fun e w' => e = .returned (.bool b) ∧ w = w'

theorem lz_short (s : ByteArray) (h : ¬ 1 < s.size) : LzSays s false := by
  intro w
  have h1 : ¬ (1 : Int) < (s.size : Int) := by omega
  have h2 : ¬ (2 : Int) < (s.size : Int) := by omega
  clear h
  go_enter Try.func39, Try.ntmps39
  go_wp2
  go_ret
  exact ⟨rfl, rfl⟩
theorem lz_zero (s : ByteArray) (h : 1 < s.size) (a : (((s[0]'(by omega)).toNat : Int) == 48) = true) (b1 : (((s[1]'h).toNat : Int) == 98) = false) (b2 : (((s[1]'h).toNat : Int) == 111) = false) (b3 : (((s[1]'h).toNat : Int) == 120) = false) : LzSays s true := by
  intro w
  have h1 : (1 : Int) < (s.size : Int) := by omega
  go_enter Try.func39, Try.ntmps39
  go_wp2
  go_ret
  exact ⟨rfl, rfl⟩
theorem lz_two (s : ByteArray) (h : 1 < s.size) (h2 : ¬ 2 < s.size) (a : (((s[0]'(by omega)).toNat : Int) == 48) = false) : LzSays s false := by
  intro w
  have h1 : (1 : Int) < (s.size : Int) := by omega
  have h3 : ¬ (2 : Int) < (s.size : Int) := by omega
  go_enter Try.func39, Try.ntmps39
  go_wp2
  go_ret
  exact ⟨rfl, rfl⟩
theorem lz_bare (s : ByteArray) (h : 1 < s.size) (h2 : 2 < s.size) (a : (((s[0]'(by omega)).toNat : Int) == 48) = false) (b1 : (((s[0]'(by omega)).toNat : Int) == 45) = false) (b2 : (((s[0]'(by omega)).toNat : Int) == 43) = false) : LzSays s false := by
  intro w
  have h1 : (1 : Int) < (s.size : Int) := by omega
  have h3 : (2 : Int) < (s.size : Int) := by omega
  go_enter Try.func39, Try.ntmps39
  go_wp2
  go_ret
  exact ⟨rfl, rfl⟩
theorem lz_minus_yes (s : ByteArray) (h : 1 < s.size) (h2 : 2 < s.size) (a : (((s[0]'(by omega)).toNat : Int) == 48) = false) (b1 : (((s[0]'(by omega)).toNat : Int) == 45) = true) (c : (((s[1]'h).toNat : Int) == 48) = true) : LzSays s true := by
  intro w
  have h1 : (1 : Int) < (s.size : Int) := by omega
  have h3 : (2 : Int) < (s.size : Int) := by omega
  go_enter Try.func39, Try.ntmps39
  go_wp2
  go_ret
  exact ⟨rfl, rfl⟩
theorem lz_minus_no (s : ByteArray) (h : 1 < s.size) (h2 : 2 < s.size) (a : (((s[0]'(by omega)).toNat : Int) == 48) = false) (b1 : (((s[0]'(by omega)).toNat : Int) == 45) = true) (c : (((s[1]'h).toNat : Int) == 48) = false) : LzSays s false := by
  intro w
  have h1 : (1 : Int) < (s.size : Int) := by omega
  have h3 : (2 : Int) < (s.size : Int) := by omega
  go_enter Try.func39, Try.ntmps39
  go_wp2
  go_ret
  exact ⟨rfl, rfl⟩
theorem lz_plus_yes (s : ByteArray) (h : 1 < s.size) (h2 : 2 < s.size) (a : (((s[0]'(by omega)).toNat : Int) == 48) = false) (b1 : (((s[0]'(by omega)).toNat : Int) == 45) = false) (b2 : (((s[0]'(by omega)).toNat : Int) == 43) = true) (c : (((s[1]'h).toNat : Int) == 48) = true) : LzSays s true := by
  intro w
  have h1 : (1 : Int) < (s.size : Int) := by omega
  have h3 : (2 : Int) < (s.size : Int) := by omega
  go_enter Try.func39, Try.ntmps39
  go_wp2
  go_ret
  exact ⟨rfl, rfl⟩
theorem lz_plus_no (s : ByteArray) (h : 1 < s.size) (h2 : 2 < s.size) (a : (((s[0]'(by omega)).toNat : Int) == 48) = false) (b1 : (((s[0]'(by omega)).toNat : Int) == 45) = false) (b2 : (((s[0]'(by omega)).toNat : Int) == 43) = true) (c : (((s[1]'h).toNat : Int) == 48) = false) : LzSays s false := by
  intro w
  have h1 : (1 : Int) < (s.size : Int) := by omega
  have h3 : (2 : Int) < (s.size : Int) := by omega
  go_enter Try.func39, Try.ntmps39
  go_wp2
  go_ret
  exact ⟨rfl, rfl⟩

theorem eq_yes {n : Nat} {k : Int} (h : (n : Int) = k) : ((n : Int) == k) = true := by simp [h]
theorem eq_no {n : Nat} {k : Int} (h : (n : Int) ≠ k) : ((n : Int) == k) = false := by rw [beq_eq_false_iff_ne]; exact h

/-- d begins with a zero and goes on. -/
def Leads (d : ByteArray) : Prop := ∃ h : 1 < d.size, (d[0]'(by omega)).toNat = 48

/-- Digits without a sign. -/
theorem lz_digits (s : ByteArray) (b : Bool) (hd : Digits s) (hb : b = true ↔ Leads s) : LzSays s b := by
  by_cases h : 1 < s.size
  · by_cases a : (s[0]'(by omega)).toNat = 48
    · obtain rfl : b = true := hb.mpr ⟨h, a⟩
      have h1 := hd 1 h
      exact lz_zero s h (eq_yes (by omega)) (eq_no (by omega)) (eq_no (by omega)) (eq_no (by omega))
    · obtain rfl : b = false := by
        cases b
        · rfl
        · obtain ⟨_, e⟩ := hb.mp rfl
          exact absurd e a
      by_cases h2 : 2 < s.size
      · have h0 := hd 0 (by omega)
        exact lz_bare s h h2 (eq_no (by omega)) (eq_no (by omega)) (eq_no (by omega))
      · exact lz_two s h h2 (eq_no (by omega))
  · obtain rfl : b = false := by
      cases b
      · rfl
      · obtain ⟨h', _⟩ := hb.mp rfl
        exact absurd h' h
    exact lz_short s h

/-- What stands behind the first byte. -/
structure Tail (s d : ByteArray) : Prop where
  size : s.size = d.size + 1
  byte : ∀ i (h : i < d.size), (s[i + 1]'(by omega)) = d[i]'h

theorem tail_extract (s : ByteArray) (h : 0 < s.size) : Tail s (s.extract 1 s.size) := by
  have hs : (s.extract 1 s.size).size = s.size - 1 := by simp
  refine ⟨by omega, fun i hi => ?_⟩
  rw [ByteArray.getElem_extract]
  congr 1
  omega

/-- Digits with a sign. -/
theorem lz_signed (s d : ByteArray) (b : Bool) (hp : 0 < s.size) (ht : Tail s d) (hsign : (s[0]'hp).toNat = 43 ∨ (s[0]'hp).toNat = 45) (hd : Digits d) (hb : b = true ↔ Leads d) : LzSays s b := by
  have hsz := ht.size
  by_cases h : 1 < s.size
  · have a : (((s[0]'hp).toNat : Int) == 48) = false := eq_no (by omega)
    by_cases h2 : 2 < s.size
    · have e1 : (s[1]'h) = d[0]'(by omega) := ht.byte 0 (by omega)
      by_cases c : (s[1]'h).toNat = 48
      · obtain rfl : b = true := hb.mpr ⟨by omega, by rw [← e1]; exact c⟩
        rcases hsign with g | g
        · exact lz_plus_yes s h h2 a (eq_no (by omega)) (eq_yes (by omega)) (eq_yes (by omega))
        · exact lz_minus_yes s h h2 a (eq_yes (by omega)) (eq_yes (by omega))
      · obtain rfl : b = false := by
          cases b
          · rfl
          · obtain ⟨_, e⟩ := hb.mp rfl
            rw [← e1] at e
            exact absurd e c
        rcases hsign with g | g
        · exact lz_plus_no s h h2 a (eq_no (by omega)) (eq_yes (by omega)) (eq_no (by omega))
        · exact lz_minus_no s h h2 a (eq_yes (by omega)) (eq_no (by omega))
    · obtain rfl : b = false := by
        cases b
        · rfl
        · obtain ⟨h', _⟩ := hb.mp rfl
          omega
      exact lz_two s h h2 a
  · obtain rfl : b = false := by
      cases b
      · rfl
      · obtain ⟨h', _⟩ := hb.mp rfl
        omega
    exact lz_short s h

/-- impl.LeadingZero. -/
theorem Lz_any (s : ByteArray) (b : Bool) (w : World) (h : LzSays s b) :
    Calls Try.prog 16 #[.string s] w fun e w' => e = .returned (.bool b) ∧ w = w' := by
  go_enter Try.func16, Try.ntmps16
  go_wp2_with (first | (go_at_call 29; go_in) | (go_at_call 39; refine (h _).mono ?_; rintro e w' ⟨rfl, rfl⟩))
  go_ret
  exact ⟨rfl, rfl⟩

theorem lz_shown_yes : LzSays (ByteArray.mk #[48, 49]) true :=
  lz_zero (ByteArray.mk #[48, 49]) (by decide) (by decide) (by decide) (by decide) (by decide)
theorem lz_shown_no : LzSays (ByteArray.mk #[49, 48]) false :=
  lz_two (ByteArray.mk #[49, 48]) (by decide) (by decide) (by decide)
end Go.Proofs.Ytfjdgfhfpcbcfaa
