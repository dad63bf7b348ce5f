/-
  The law FnExactPeriods returns true. No condition (law_per).
-/
import Derived.Test.YtfjdgfhfpcbcfaaPer
namespace Go.Proofs.Ytfjdgfhfpcbcfaa
open Go Go.RowKit
set_option linter.unusedVariables false

theorem law_per_large (s : ByteArray) (w : World) (h : 2147483647 < s.size) :
    Calls Try.prog 9 #[.string s] w fun e w' => e = .returned (.bool true) ∧ Below w.heap.size w w' := by
  have h0 : (2147483647 : Int) < (s.size : Int) := by omega
  go_enter Try.func9, Try.ntmps9
  go_wp2
  go_ret
  exact ⟨rfl, Below.refl _ _⟩

theorem right_keep (s : ByteArray) (k : Nat) (b : Bool) (hlt : k < s.size) (hb : b = true ↔ RightUpto s k) (h : (s[k]'hlt).toNat = 46 → ∃ hj : k + 1 < s.size, (s[k + 1]'hj).toNat ≠ 46) : b = true ↔ RightUpto s (k + 1) := by
  rw [hb]
  constructor
  · intro a i hi hk e
    by_cases e1 : i = k
    · subst e1; exact h e
    · exact a i hi (by omega) e
  · intro a i hi hk e
    exact a i hi (by omega) e
theorem right_drop (s : ByteArray) (k : Nat) (hlt : k < s.size) (e : (s[k]'hlt).toNat = 46) (h : ¬ ∃ hj : k + 1 < s.size, (s[k + 1]'hj).toNat ≠ 46) : false = true ↔ RightUpto s (k + 1) := by
  constructor
  · intro a; cases a
  · intro a; exact absurd (a k hlt (by omega) e) h

set_option maxHeartbeats 1000000 in
set_option maxRecDepth 100000 in
theorem law_per_fits (s : ByteArray) (w : World) (hm : s.size ≤ 2147483647) :
    Calls Try.prog 9 #[.string s] w fun e w' => e = .returned (.bool true) ∧ Below w.heap.size w w' := by
  have h0 : ¬ (2147483647 : Int) < (s.size : Int) := by omega
  go_enter Try.func9, Try.ntmps9
  go_wp2_with fail
  go_loop [3, 4] (fun p i => ∃ (k : Nat) (b : Bool), k ≤ s.size ∧ i = .int .i64 k ∧ p = .bool b ∧ Hid (b = true ↔ RightUpto s k) ∧ Hid (∀ i (h : i < s.size), i < k → (s[i]'h).toNat = 46 ∨ (48 ≤ (s[i]'h).toNat ∧ (s[i]'h).toNat ≤ 57))) (fun _ i => s.size - (intOf i).toNat)
  case atStart => exact ⟨0, true, Nat.zero_le _, rfl, rfl, ⟨fun _ i h h0 => by omega, fun _ => rfl⟩, fun i h h0 => by omega⟩
  case round =>
    obtain ⟨k, b, hk, rfl, rfl, hb, hd⟩ := hrel
    by_cases hlt : k < s.size
    · by_cases h46 : (s[k]'hlt).toNat = 46
      · have hd' : Hid (∀ i (h : i < s.size), i < k + 1 → (s[i]'h).toNat = 46 ∨ (48 ≤ (s[i]'h).toNat ∧ (s[i]'h).toNat ≤ 57)) := by
          intro i h hi
          by_cases e : i = k
          · subst e; exact .inl h46
          · exact hd.out i h (by omega)
        have f46 : (((s[k]'hlt).toNat : Int) == 46) = true := by simp [h46]
        have g46 : (((s[k]'hlt).toNat : Int) != 46) = false := by simp [h46]
        have H46 : Hid ((s[k]'hlt).toNat = 46) := h46
        clear h46
        by_cases hend : k + 1 = s.size
        · have HB : Hid (false = true ↔ RightUpto s (k + 1)) := right_drop s k hlt H46.out (fun ⟨h', _⟩ => by omega)
          have fend : ((k : Int) + 1 == (s.size : Int)) = true := by rw [beq_iff_eq]; omega
          clear hend
          go_wp2_with fail
          go_round
          case rel => exact ⟨k + 1, false, by omega, by go_num, rfl, HB, hd'⟩
          case measure => simp [intOf]; omega
        · have hlt2 : k + 1 < s.size := by omega
          have fend : ((k : Int) + 1 == (s.size : Int)) = false := by rw [beq_eq_false_iff_ne]; omega
          by_cases h2 : (s[k + 1]'hlt2).toNat = 46
          · have f2 : (((s[k + 1]'hlt2).toNat : Int) == 46) = true := by simp [h2]
            have HB : Hid (false = true ↔ RightUpto s (k + 1)) := right_drop s k hlt H46.out (fun ⟨h', e'⟩ => e' h2)
            clear hend h2
            go_wp2_with fail
            go_round
            case rel => exact ⟨k + 1, false, by omega, by go_num, rfl, HB, hd'⟩
            case measure => simp [intOf]; omega
          · have f2 : (((s[k + 1]'hlt2).toNat : Int) == 46) = false := by rw [beq_eq_false_iff_ne]; omega
            have HB : Hid (b = true ↔ RightUpto s (k + 1)) := right_keep s k b hlt hb.out (fun _ => ⟨hlt2, h2⟩)
            clear hend h2
            go_wp2_with fail
            go_round
            case rel => exact ⟨k + 1, b, by omega, by go_num, rfl, HB, hd'⟩
            case measure => simp [intOf]; omega
      · have f46 : (((s[k]'hlt).toNat : Int) == 46) = false := by rw [beq_eq_false_iff_ne]; omega
        have g46 : (((s[k]'hlt).toNat : Int) != 46) = true := by rw [bne_iff_ne]; omega
        by_cases ha : ((s[k]'hlt).toNat : Int) < 48
        · clear h46
          go_wp2_with fail
          refine (Per_yes _).mono ?_
          rintro e w1 ⟨rfl, hb1⟩
          go_wp2_with fail
          refine (Per_no _).mono ?_
          rintro e w2 ⟨rfl, hb2⟩
          go_wp2_with fail
          go_ret
          exact ⟨rfl, hb1.trans (hb2.mono hb1.size)⟩
        · by_cases hc : 57 < ((s[k]'hlt).toNat : Int)
          · clear h46
            go_wp2_with fail
            refine (Per_yes _).mono ?_
            rintro e w1 ⟨rfl, hb1⟩
            go_wp2_with fail
            refine (Per_no _).mono ?_
            rintro e w2 ⟨rfl, hb2⟩
            go_wp2_with fail
            go_ret
            exact ⟨rfl, hb1.trans (hb2.mono hb1.size)⟩
          · have hd' : Hid (∀ i (h : i < s.size), i < k + 1 → (s[i]'h).toNat = 46 ∨ (48 ≤ (s[i]'h).toNat ∧ (s[i]'h).toNat ≤ 57)) := by
              intro i h hi
              by_cases e : i = k
              · subst e; exact .inr (by omega)
              · exact hd.out i h (by omega)
            have HB : Hid (b = true ↔ RightUpto s (k + 1)) := right_keep s k b hlt hb.out (fun e => absurd e h46)
            clear h46
            go_wp2_with fail
            go_round
            case rel => exact ⟨k + 1, b, by omega, by go_num, rfl, HB, hd'⟩
            case measure => simp [intOf]; omega
    · obtain rfl : k = s.size := by omega
      have hpd : PointDigits s := fun i h => hd.out i h h
      have HPD : Hid (PointDigits s) := hpd
      clear hpd hd hlt hk
      go_wp2_with fail
      refine (Per_any s _ b HPD.out hb.out).mono ?_
      rintro e w1 ⟨rfl, hb1⟩
      go_wp2_with fail
      refine (Per_yes _).mono ?_
      rintro e w2 ⟨rfl, hb2⟩
      go_wp2_with fail
      refine (Per_no _).mono ?_
      rintro e w3 ⟨rfl, hb3⟩
      go_wp2_with fail
      go_ret
      exact ⟨rfl, hb1.trans ((hb2.mono hb1.size).trans (hb3.mono (Nat.le_trans hb1.size hb2.size)))⟩

theorem law_per (s : ByteArray) (w : World) :
    Calls Try.prog 9 #[.string s] w fun e w' => e = .returned (.bool true) ∧ Below w.heap.size w w' := by
  by_cases hm : s.size ≤ 2147483647
  · exact law_per_fits s w hm
  · exact law_per_large s w (by omega)
end Go.Proofs.Ytfjdgfhfpcbcfaa
