/-
  The law FnExactAddDecimal returns true. No condition (law_dec).
-/
import Derived.Test.YtfjdgfhfpcbcfaaDec
namespace Go.Proofs.Ytfjdgfhfpcbcfaa
open Go Go.RowKit
set_option linter.unusedVariables false

/-- Is one of the first k bytes a point? -/
def seenPoint (s : ByteArray) (k : Nat) : Bool := (s.data.toList.take k).any fun b => b.toNat == 46

theorem byte_list (s : ByteArray) (i : Nat) (h : i < s.size) : s.data.toList[i]? = some (s[i]'h) := by
  rw [Array.getElem?_toList]
  exact Array.getElem?_eq_getElem h

theorem seenPoint_zero (s : ByteArray) : seenPoint s 0 = false := rfl
theorem seenPoint_step (s : ByteArray) (k : Nat) (h : k < s.size) : seenPoint s (k + 1) = (seenPoint s k || ((s[k]'h).toNat == 46)) := by
  unfold seenPoint
  rw [List.take_add_one, byte_list s k h]
  simp
theorem seenPoint_all (s : ByteArray) : seenPoint s s.size = true ↔ HasPoint s := by
  unfold seenPoint
  rw [List.take_of_length_le (by simp)]
  simp only [List.any_eq_true, beq_iff_eq]
  constructor
  · rintro ⟨b, hb, e⟩
    obtain ⟨i, hi, rfl⟩ := List.getElem_of_mem hb
    exact ⟨i, by simpa using hi, e⟩
  · rintro ⟨i, hi, e⟩
    exact ⟨s[i]'hi, List.mem_of_getElem? (byte_list s i hi), e⟩

theorem law_dec_large (s : ByteArray) (w : World) (h : 2147483647 < s.size) :
    Calls Try.prog 8 #[.string s] w fun e w' => e = .returned (.bool true) ∧ Below w.heap.size w w' := by
  have h0 : (2147483647 : Int) < (s.size : Int) := by omega
  go_enter Try.func8, Try.ntmps8
  go_wp2
  go_ret
  exact ⟨rfl, Below.refl _ _⟩

set_option maxHeartbeats 1000000 in
set_option maxRecDepth 100000 in
theorem law_dec_fits (s : ByteArray) (w : World) (hm : s.size ≤ 2147483647) :
    Calls Try.prog 8 #[.string s] w fun e w' => e = .returned (.bool true) ∧ Below w.heap.size w w' := by
  have h0 : ¬ (2147483647 : Int) < (s.size : Int) := by omega
  go_enter Try.func8, Try.ntmps8
  go_wp2_with fail
  go_loop [3, 4] (fun p i => ∃ k : Nat, k ≤ s.size ∧ i = .int .i64 k ∧ p = .bool (seenPoint s k) ∧ Hid (∀ i (h : i < s.size), i < k → (s[i]'h).toNat = 46 ∨ (48 ≤ (s[i]'h).toNat ∧ (s[i]'h).toNat ≤ 57))) (fun _ i => s.size - (intOf i).toNat)
  case atStart => exact ⟨0, Nat.zero_le _, rfl, by rw [seenPoint_zero], fun i h h0 => by omega⟩
  case round =>
    obtain ⟨k, hk, rfl, rfl, hd⟩ := hrel
    by_cases hlt : k < s.size
    · have HSTEP : Hid (seenPoint s (k + 1) = (seenPoint s k || ((s[k]'hlt).toNat == 46))) := seenPoint_step s k hlt
      by_cases h46 : (s[k]'hlt).toNat = 46
      · have f46 : (((s[k]'hlt).toNat : Int) == 46) = true := by simp [h46]
        have g46 : (((s[k]'hlt).toNat : Int) != 46) = false := by simp [h46]
        have H46 : Hid ((s[k]'hlt).toNat = 46) := h46
        clear h46
        cases hseen : seenPoint s k
        all_goals
          go_wp2_with fail
          go_round
          case rel =>
            refine ⟨k + 1, by omega, by go_num, by rw [HSTEP.out, H46.out]; simp, ?_⟩
            intro i h hi
            by_cases e : i = k
            · subst e; exact .inl H46.out
            · exact hd.out i h (by omega)
          case measure => simp [intOf]; omega
      · have f46 : (((s[k]'hlt).toNat : Int) == 46) = false := by rw [beq_eq_false_iff_ne]; omega
        have g46 : (((s[k]'hlt).toNat : Int) != 46) = true := by rw [bne_iff_ne]; omega
        have H46 : Hid (((s[k]'hlt).toNat == 46) = false) := by show _ = false; rw [beq_eq_false_iff_ne]; exact h46
        clear h46
        by_cases ha : ((s[k]'hlt).toNat : Int) < 48
        · go_wp2_with fail
          refine (Dec_one _).mono ?_
          rintro e w1 ⟨rfl, hb⟩
          go_wp2_with fail
          go_ret
          exact ⟨rfl, hb⟩
        · by_cases hc : 57 < ((s[k]'hlt).toNat : Int)
          · go_wp2_with fail
            refine (Dec_one _).mono ?_
            rintro e w1 ⟨rfl, hb⟩
            go_wp2_with fail
            go_ret
            exact ⟨rfl, hb⟩
          · cases hseen : seenPoint s k
            all_goals
              go_wp2_with fail
              go_round
              case rel =>
                refine ⟨k + 1, by omega, by go_num, by rw [HSTEP.out, H46.out, hseen]; simp, ?_⟩
                intro i h hi
                by_cases e : i = k
                · subst e; exact .inr (by omega)
                · exact hd.out i h (by omega)
              case measure => simp [intOf]; omega
    · obtain rfl : k = s.size := by omega
      have hpd : PointDigits s := fun i h => hd.out i h h
      have HPD : Hid (PointDigits s) := hpd
      clear hpd hd hlt hk
      by_cases hbig : (1073741824 : Int) < (s.size : Int)
      · cases hseen : seenPoint s s.size
        all_goals
          have hsz : s.size + (ByteArray.mk #[46, 48]).size ≤ 9223372036854775807 := by
            have : (ByteArray.mk #[46, 48]).size = 2 := rfl
            omega
          go_wp2_with fail
          refine (Dec_one _).mono ?_
          rintro e w1 ⟨rfl, hb⟩
          go_wp2_with fail
          go_ret
          exact ⟨rfl, hb⟩
      · cases hseen : seenPoint s s.size
        · have HP : Hid (¬ HasPoint s) := fun a => by rw [(seenPoint_all s).mpr a] at hseen; cases hseen
          have hsz : s.size + (ByteArray.mk #[46, 48]).size ≤ 9223372036854775807 := by
            have : (ByteArray.mk #[46, 48]).size = 2 := rfl
            omega
          go_wp2_with fail
          refine (Dec_none s _ hm HPD.out HP.out).mono ?_
          rintro e w1 ⟨rfl, hb⟩
          go_wp2_with fail
          refine (Dec_one _).mono ?_
          rintro e w2 ⟨rfl, hb2⟩
          go_wp2_with fail
          go_ret
          exact ⟨rfl, hb.trans (hb2.mono hb.size)⟩
        · have HP : Hid (HasPoint s) := (seenPoint_all s).mp hseen
          go_wp2_with fail
          refine (Dec_point s _ HPD.out HP.out).mono ?_
          rintro e w1 ⟨rfl, hb⟩
          go_wp2_with fail
          refine (Dec_one _).mono ?_
          rintro e w2 ⟨rfl, hb2⟩
          go_wp2_with fail
          go_ret
          exact ⟨rfl, hb.trans (hb2.mono hb.size)⟩

theorem law_dec (s : ByteArray) (w : World) :
    Calls Try.prog 8 #[.string s] w fun e w' => e = .returned (.bool true) ∧ Below w.heap.size w w' := by
  by_cases hm : s.size ≤ 2147483647
  · exact law_dec_fits s w hm
  · exact law_dec_large s w (by omega)
end Go.Proofs.Ytfjdgfhfpcbcfaa
