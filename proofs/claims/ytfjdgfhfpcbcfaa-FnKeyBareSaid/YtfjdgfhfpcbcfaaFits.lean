/-
  zzFits2 answers whether a slice of strings and each of its strings have at most 2147483647 elements. Condition: the strings stand in memory.
-/
import Derived.Test.YtfjdgfhfpcbcfaaProg
import Derived.WalkKit
import Derived.Below
import Derived.LoopTactic
namespace Go.Proofs.Ytfjdgfhfpcbcfaa
open Go Go.RowKit
set_option linter.unusedVariables false

/-- n strings stand side by side in block b from off on. -/
def StrRow (w : World) (b off n : Nat) (f : Nat → ByteArray) : Prop := ∀ i, i < n → w.cell? ⟨b, off + i, none⟩ = some (.string (f i))

theorem StrRow.on {w w' : World} {B b off n : Nat} {f : Nat → ByteArray} (h : StrRow w b off n f) (hb : Below B w w') (hB : b < B) : StrRow w' b off n f := by
  intro i hi
  rw [hb.cell (p := ⟨b, off + i, none⟩) hB]
  exact h i hi

def AllFit (n : Nat) (f : Nat → ByteArray) : Prop := n ≤ 2147483647 ∧ ∀ i, i < n → (f i).size ≤ 2147483647

set_option maxHeartbeats 1000000 in
set_option maxRecDepth 100000 in
theorem fits_any (b off n cap : Nat) (f : Nat → ByteArray) (r : Bool) (w : World) (hrow : StrRow w b off n f) (hn : n ≤ cap) (hcap : cap ≤ 9223372036854775807) (h : r = true ↔ AllFit n f) :
    Calls Try.prog 22 #[.slice (some ⟨b, off, none⟩) n cap] w fun e w' => e = .returned (.bool r) ∧ w = w' := by
  have HB : Hid (r = true ↔ AllFit n f) := h
  have HR : Hid (StrRow w b off n f) := hrow
  clear h hrow
  by_cases hbig : 2147483647 < n
  · obtain rfl : r = false := by
      cases r
      · rfl
      · exact absurd (HB.out.mp rfl).1 (by omega)
    have g : (2147483647 : Int) < (n : Int) := by omega
    go_enter Try.func22, Try.ntmps22
    go_wp2
    go_ret
    exact ⟨rfl, rfl⟩
  · have g : ¬ (2147483647 : Int) < (n : Int) := by omega
    go_enter Try.func22, Try.ntmps22
    go_wp2_with fail
    go_loop [4, 10] (fun _ i => ∃ k : Nat, k ≤ n ∧ i = .int .i64 k ∧ Hid (∀ i, i < k → (f i).size ≤ 2147483647)) (fun _ i => n - (intOf i).toNat)
    case atStart => exact ⟨0, Nat.zero_le _, rfl, fun i h => by omega⟩
    case round =>
      obtain ⟨k, hk, rfl, hd⟩ := hrel
      by_cases hlt : k < n
      · have hc := HR.out k hlt
        by_cases hs : 2147483647 < (f k).size
        · have gs : (2147483647 : Int) < ((f k).size : Int) := by omega
          obtain rfl : r = false := by
            cases r
            · rfl
            · have := (HB.out.mp rfl).2 k hlt
              omega
          clear hs
          go_wp2_with fail
          go_ret
          exact ⟨rfl, rfl⟩
        · have gs : ¬ (2147483647 : Int) < ((f k).size : Int) := by omega
          have HD : Hid (∀ i, i < k + 1 → (f i).size ≤ 2147483647) := by
            intro i hi
            by_cases e : i = k
            · subst e; omega
            · exact hd.out i (by omega)
          clear hs
          go_wp2_with fail
          go_round
          case rel => exact ⟨k + 1, by omega, by go_num, HD⟩
          case measure => simp [intOf]; omega
      · obtain rfl : k = n := by omega
        obtain rfl : r = true := HB.out.mpr ⟨by omega, fun i h => hd.out i h⟩
        go_wp2_with fail
        go_ret
        exact ⟨rfl, rfl⟩

theorem fits_zero (a : Option Addr) (cap : Nat) (w : World) :
    Calls Try.prog 22 #[.slice a 0 cap] w fun e w' => e = .returned (.bool true) ∧ w = w' := by
  go_enter Try.func22, Try.ntmps22
  go_wp2_with fail
  go_loop [4, 10] (fun _ i => i = .int .i64 0) (fun _ _ => 0)
  case atStart => rfl
  case round =>
    subst hrel
    go_wp2_with fail
    go_ret
    exact ⟨rfl, rfl⟩
end Go.Proofs.Ytfjdgfhfpcbcfaa
