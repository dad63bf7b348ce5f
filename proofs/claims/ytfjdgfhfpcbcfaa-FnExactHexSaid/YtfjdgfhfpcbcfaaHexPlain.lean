/-
  The int32 r ||| 32 lies between 97 and 102 just if r is one of 65 to 70 or 97 to 102. Conditions: r is an int32 where a theorem says so; no program in sight.
-/
import Derived.Laws.BitsLemmas
namespace Go.Proofs.Ytfjdgfhfpcbcfaa
open Go

theorem or32_small : ∀ n : Fin 128, 97 ≤ (n.val ||| 32) → (n.val ||| 32) ≤ 102 → (97 ≤ n.val ∧ n.val ≤ 102) ∨ (65 ≤ n.val ∧ n.val ≤ 70) := by decide

theorem or32_low : ∀ n : Fin 128, 97 ≤ n.val → n.val ≤ 102 → (n.val ||| 32) = n.val := by decide
theorem or32_up : ∀ n : Fin 128, 65 ≤ n.val → n.val ≤ 70 → (n.val ||| 32) = n.val + 32 := by decide

theorem or32_nat (n : Nat) (h1 : 97 ≤ n ||| 32) (h2 : n ||| 32 ≤ 102) : (97 ≤ n ∧ n ≤ 102) ∨ (65 ≤ n ∧ n ≤ 70) := by
  have hle : n ≤ n ||| 32 := Nat.left_le_or
  exact or32_small ⟨n, by omega⟩ h1 h2

/-- r as an unsigned number. -/
theorem or32_eq (r : Int) : bits .or .i32 r 32 = IntKind.i32.wrap ((((r % 4294967296).toNat ||| 32 : Nat)) : Int) := by
  simp only [bits, IntKind.bits]
  rfl

theorem or32_of (r : Int) (hlo : -2147483648 ≤ r) (hhi : r ≤ 2147483647) (h1 : 97 ≤ bits .or .i32 r 32) (h2 : bits .or .i32 r 32 ≤ 102) : (97 ≤ r ∧ r ≤ 102) ∨ (65 ≤ r ∧ r ≤ 70) := by
  rw [or32_eq, IntKind.wrap_i32] at h1 h2
  generalize hm : (r % 4294967296).toNat = m at h1 h2
  have hm' : m < 2 ^ 32 := by omega
  have hor : m ||| 32 < 2 ^ 32 := Nat.or_lt_two_pow hm' (by decide)
  rcases or32_nat m (by omega) (by omega) with h | h <;> omega

theorem or32_lo (r : Int) (h1 : 97 ≤ r) (h2 : r ≤ 102) : bits .or .i32 r 32 = r := by
  rw [or32_eq, IntKind.wrap_i32]
  have hm : (r % 4294967296).toNat = r.toNat := by omega
  rw [hm, or32_low ⟨r.toNat, by omega⟩ (by simp only; omega) (by simp only; omega)]
  simp only; omega
theorem or32_hi (r : Int) (h1 : 65 ≤ r) (h2 : r ≤ 70) : bits .or .i32 r 32 = r + 32 := by
  rw [or32_eq, IntKind.wrap_i32]
  have hm : (r % 4294967296).toNat = r.toNat := by omega
  rw [hm, or32_up ⟨r.toNat, by omega⟩ (by simp only; omega) (by simp only; omega)]
  simp only; omega
end Go.Proofs.Ytfjdgfhfpcbcfaa
