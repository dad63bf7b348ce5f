/-
  The law FnExactUnderscores returns true. No condition (law_und).
-/
import Derived.Test.YtfjdgfhfpcbcfaaUnd
namespace Go.Proofs.Ytfjdgfhfpcbcfaa
open Go Go.RowKit
set_option linter.unusedVariables false

/-- There is a byte, and neither the first nor the last is an underscore. -/
def Ends (s : ByteArray) : Prop := ∃ h : 0 < s.size, (s[0]'h).toNat ≠ 95 ∧ (s[s.size - 1]'(by omega)).toNat ≠ 95
/-- Among the first k bytes no underscore stands behind another. -/
def NoTwo (s : ByteArray) (k : Nat) : Prop := ∀ i (h : i + 1 < s.size), i + 1 < k → (s[i]'(by omega)).toNat = 95 → (s[i + 1]'h).toNat ≠ 95
/-- What the law wants so far. -/
def WantIs (s : ByteArray) (k : Nat) (b : Bool) : Prop := b = true ↔ (Ends s ∧ NoTwo s k)
/-- The first k bytes are underscores and digits. -/
def LineUpto (s : ByteArray) (k : Nat) : Prop := ∀ i (h : i < s.size), i < k → (s[i]'h).toNat = 95 ∨ (48 ≤ (s[i]'h).toNat ∧ (s[i]'h).toNat ≤ 57)

theorem ends_inner (s : ByteArray) : (Ends s ∧ NoTwo s s.size) ↔ (Inner s s.size ∧ lastDigit s s.size = true) := by
  constructor
  · rintro ⟨⟨h, h1, h2⟩, h3⟩
    refine ⟨⟨fun _ _ => h1, h3⟩, ?_⟩
    have e : s.size = (s.size - 1) + 1 := by omega
    rw [e, lastDigit_step s (s.size - 1) (by omega)]
    simp only [Bool.not_eq_true', beq_eq_false_iff_ne]
    exact h2
  · rintro ⟨⟨h1, h3⟩, h2⟩
    have h : 0 < s.size := by
      rcases Nat.eq_zero_or_pos s.size with e | e
      · rw [e] at h2; simp [lastDigit] at h2
      · exact e
    refine ⟨⟨h, h1 h h, ?_⟩, h3⟩
    have e : s.size = (s.size - 1) + 1 := by omega
    rw [e, lastDigit_step s (s.size - 1) (by omega)] at h2
    simpa using h2

theorem two_keep (s : ByteArray) (k : Nat) (b : Bool) (hlt : k < s.size) (hb : b = true ↔ (Ends s ∧ NoTwo s k)) (h : 0 < k → (s[k - 1]'(by omega)).toNat = 95 → (s[k]'hlt).toNat ≠ 95) : b = true ↔ (Ends s ∧ NoTwo s (k + 1)) := by
  rw [hb]
  constructor
  · rintro ⟨a, a2⟩
    refine ⟨a, fun i hi hk e => ?_⟩
    by_cases e1 : i + 1 = k
    · subst e1; exact h (by omega) e
    · exact a2 i hi (by omega) e
  · rintro ⟨a, a2⟩
    exact ⟨a, fun i hi hk e => a2 i hi (by omega) e⟩
theorem two_drop (s : ByteArray) (k : Nat) (hlt : k < s.size) (hk : 0 < k) (h1 : (s[k - 1]'(by omega)).toNat = 95) (h2 : (s[k]'hlt).toNat = 95) : false = true ↔ (Ends s ∧ NoTwo s (k + 1)) := by
  constructor
  · intro a; cases a
  · rintro ⟨_, a⟩
    obtain ⟨p, rfl⟩ : ∃ p, k = p + 1 := ⟨k - 1, by omega⟩
    exact absurd h2 (a p hlt (by omega) h1)
theorem two_start (s : ByteArray) (b : Bool) (h : b = true ↔ Ends s) : b = true ↔ (Ends s ∧ NoTwo s 0) := by
  rw [h]
  exact ⟨fun a => ⟨a, fun i _ hi => by omega⟩, fun a => a.1⟩
theorem line_step (s : ByteArray) (k : Nat) (hlt : k < s.size) (h : LineUpto s k) (hk : (s[k]'hlt).toNat = 95 ∨ (48 ≤ (s[k]'hlt).toNat ∧ (s[k]'hlt).toNat ≤ 57)) : LineUpto s (k + 1) := by
  intro i hi hik
  by_cases e : i = k
  · subst e; exact hk
  · exact h i hi (by omega)

theorem law_und_large (s : ByteArray) (w : World) (h : 2147483647 < s.size) :
    Calls Try.prog 11 #[.string s] w fun e w' => e = .returned (.bool true) ∧ Below w.heap.size w w' := by
  have h0 : (2147483647 : Int) < (s.size : Int) := by omega
  go_enter Try.func11, Try.ntmps11
  go_wp2
  go_ret
  exact ⟨rfl, Below.refl _ _⟩

set_option maxHeartbeats 1000000 in
set_option maxRecDepth 100000 in
theorem law_und_empty (s : ByteArray) (w : World) (hm : s.size ≤ 2147483647) (he : s.size = 0) :
    Calls Try.prog 11 #[.string s] w fun e w' => e = .returned (.bool true) ∧ Below w.heap.size w w' := by
  have h0 : ¬ (2147483647 : Int) < (s.size : Int) := by omega
  have HB0 : WantIs s 0 false := two_start s false ⟨fun a => (by cases a), fun ⟨h, _⟩ => by omega⟩
  have hemp : s.toList = [] := by rw [ByteArray.toList_eq]; exact List.eq_nil_of_length_eq_zero (by simpa using he)
  have hemp2 : s.toList.isEmpty = true := by rw [hemp]; rfl
  have HEMP : Hid (s.size = 0) := he
  clear he hemp
  go_enter Try.func11, Try.ntmps11
  go_wp2_with fail
  go_loop [3, 4] (fun p i => ∃ (k : Nat) (b : Bool), k ≤ s.size ∧ i = .int .i64 k ∧ p = .bool b ∧ WantIs s k b ∧ Hid (LineUpto s k)) (fun _ i => s.size - (intOf i).toNat)
  case atStart => exact ⟨0, _, Nat.zero_le _, rfl, rfl, HB0, fun i h h0 => by omega⟩
  case round =>
    clear hemp2
    obtain ⟨k, b, hk, rfl, rfl, hb, hd⟩ := hrel
    by_cases hlt : k < s.size
    · by_cases h95 : (s[k]'hlt).toNat = 95
      · have HD : Hid (LineUpto s (k + 1)) := line_step s k hlt hd.out (.inl h95)
        have f95 : (((s[k]'hlt).toNat : Int) == 95) = true := by simp [h95]
        have g95 : (((s[k]'hlt).toNat : Int) != 95) = false := by simp [h95]
        by_cases hk0 : 0 < k
        · have fk : (0 : Int) < (k : Int) := by omega
          by_cases hp : (s[k - 1]'(by omega)).toNat = 95
          · have fp : (((s[k - 1]'(by omega)).toNat : Int) == 95) = true := by simp [hp]
            have HB : WantIs s (k + 1) false := two_drop s k hlt hk0 hp h95
            clear h95 hp
            go_wp2_with fail
            go_round
            case rel => exact ⟨k + 1, false, by omega, by go_num, rfl, HB, HD⟩
            case measure => simp [intOf]; omega
          · have fp : (((s[k - 1]'(by omega)).toNat : Int) == 95) = false := by rw [beq_eq_false_iff_ne]; omega
            have HB : WantIs s (k + 1) b := two_keep s k b hlt hb (fun _ a => absurd a hp)
            clear h95 hp
            go_wp2_with fail
            go_round
            case rel => exact ⟨k + 1, b, by omega, by go_num, rfl, HB, HD⟩
            case measure => simp [intOf]; omega
        · have fk : ¬ (0 : Int) < (k : Int) := by omega
          have HB : WantIs s (k + 1) b := two_keep s k b hlt hb (fun a => absurd a hk0)
          clear h95
          go_wp2_with fail
          go_round
          case rel => exact ⟨k + 1, b, by omega, by go_num, rfl, HB, HD⟩
          case measure => simp [intOf]; omega
      · have f95 : (((s[k]'hlt).toNat : Int) == 95) = false := by rw [beq_eq_false_iff_ne]; omega
        have g95 : (((s[k]'hlt).toNat : Int) != 95) = true := by rw [bne_iff_ne]; omega
        by_cases ha : ((s[k]'hlt).toNat : Int) < 48
        · clear h95
          go_wp2_with fail
          refine (Und_yes _).mono ?_
          rintro e w1 ⟨rfl, hb1⟩
          go_wp2_with fail
          refine (Und_no _).mono ?_
          rintro e w2 ⟨rfl, hb2⟩
          go_wp2_with fail
          go_ret
          exact ⟨rfl, hb1.trans (hb2.mono hb1.size)⟩
        · by_cases hc : 57 < ((s[k]'hlt).toNat : Int)
          · clear h95
            go_wp2_with fail
            refine (Und_yes _).mono ?_
            rintro e w1 ⟨rfl, hb1⟩
            go_wp2_with fail
            refine (Und_no _).mono ?_
            rintro e w2 ⟨rfl, hb2⟩
            go_wp2_with fail
            go_ret
            exact ⟨rfl, hb1.trans (hb2.mono hb1.size)⟩
          · have HD : Hid (LineUpto s (k + 1)) := line_step s k hlt hd.out (.inr (by omega))
            have HB : WantIs s (k + 1) b := two_keep s k b hlt hb (fun _ _ => h95)
            clear h95
            by_cases hk0 : (0 : Int) < (k : Int)
            · go_wp2_with fail
              go_round
              case rel => exact ⟨k + 1, b, by omega, by go_num, rfl, HB, HD⟩
              case measure => simp [intOf]; omega
            · go_wp2_with fail
              go_round
              case rel => exact ⟨k + 1, b, by omega, by go_num, rfl, HB, HD⟩
              case measure => simp [intOf]; omega
    · obtain rfl : k = s.size := by omega
      have HPD : Hid (LineDigits s) := fun i h => hd.out i h h
      have HE : Hid (b = true ↔ (Inner s s.size ∧ lastDigit s s.size = true)) := Iff.trans hb (ends_inner s)
      clear hd hlt hk hb
      go_wp2_with fail
      refine (Und_any s _ b HPD.out HE.out).mono ?_
      rintro e w1 ⟨rfl, hb1⟩
      go_wp2_with fail
      refine (Und_yes _).mono ?_
      rintro e w2 ⟨rfl, hb2⟩
      go_wp2_with fail
      refine (Und_no _).mono ?_
      rintro e w3 ⟨rfl, hb3⟩
      go_wp2_with fail
      go_ret
      exact ⟨rfl, hb1.trans ((hb2.mono hb1.size).trans (hb3.mono (Nat.le_trans hb1.size hb2.size)))⟩

set_option maxHeartbeats 1000000 in
set_option maxRecDepth 100000 in
theorem law_und_first (s : ByteArray) (w : World) (hm : s.size ≤ 2147483647) (hp : 0 < s.size) (h1 : (s[0]'hp).toNat = 95) :
    Calls Try.prog 11 #[.string s] w fun e w' => e = .returned (.bool true) ∧ Below w.heap.size w w' := by
  have h0 : ¬ (2147483647 : Int) < (s.size : Int) := by omega
  have hne : s.toList.isEmpty = false := by
    rw [ByteArray.toList_eq, List.isEmpty_eq_false_iff]
    intro e
    have : s.size = s.data.toList.length := by simp
    rw [e, List.length_nil] at this; omega
  have HB0 : WantIs s 0 false := two_start s false ⟨fun a => (by cases a), fun ⟨h, a, _⟩ => absurd h1 a⟩
  have e1 : (((s[0]'hp).toNat : Int) != 95) = false := by simp [h1]
  clear h1
  go_enter Try.func11, Try.ntmps11
  go_wp2_with fail
  go_loop [3, 4] (fun p i => ∃ (k : Nat) (b : Bool), k ≤ s.size ∧ i = .int .i64 k ∧ p = .bool b ∧ WantIs s k b ∧ Hid (LineUpto s k)) (fun _ i => s.size - (intOf i).toNat)
  case atStart => exact ⟨0, _, Nat.zero_le _, rfl, rfl, HB0, fun i h h0 => by omega⟩
  case round =>
    clear e1 hne
    obtain ⟨k, b, hk, rfl, rfl, hb, hd⟩ := hrel
    by_cases hlt : k < s.size
    · by_cases h95 : (s[k]'hlt).toNat = 95
      · have HD : Hid (LineUpto s (k + 1)) := line_step s k hlt hd.out (.inl h95)
        have f95 : (((s[k]'hlt).toNat : Int) == 95) = true := by simp [h95]
        have g95 : (((s[k]'hlt).toNat : Int) != 95) = false := by simp [h95]
        by_cases hk0 : 0 < k
        · have fk : (0 : Int) < (k : Int) := by omega
          by_cases hp : (s[k - 1]'(by omega)).toNat = 95
          · have fp : (((s[k - 1]'(by omega)).toNat : Int) == 95) = true := by simp [hp]
            have HB : WantIs s (k + 1) false := two_drop s k hlt hk0 hp h95
            clear h95 hp
            go_wp2_with fail
            go_round
            case rel => exact ⟨k + 1, false, by omega, by go_num, rfl, HB, HD⟩
            case measure => simp [intOf]; omega
          · have fp : (((s[k - 1]'(by omega)).toNat : Int) == 95) = false := by rw [beq_eq_false_iff_ne]; omega
            have HB : WantIs s (k + 1) b := two_keep s k b hlt hb (fun _ a => absurd a hp)
            clear h95 hp
            go_wp2_with fail
            go_round
            case rel => exact ⟨k + 1, b, by omega, by go_num, rfl, HB, HD⟩
            case measure => simp [intOf]; omega
        · have fk : ¬ (0 : Int) < (k : Int) := by omega
          have HB : WantIs s (k + 1) b := two_keep s k b hlt hb (fun a => absurd a hk0)
          clear h95
          go_wp2_with fail
          go_round
          case rel => exact ⟨k + 1, b, by omega, by go_num, rfl, HB, HD⟩
          case measure => simp [intOf]; omega
      · have f95 : (((s[k]'hlt).toNat : Int) == 95) = false := by rw [beq_eq_false_iff_ne]; omega
        have g95 : (((s[k]'hlt).toNat : Int) != 95) = true := by rw [bne_iff_ne]; omega
        by_cases ha : ((s[k]'hlt).toNat : Int) < 48
        · clear h95
          go_wp2_with fail
          refine (Und_yes _).mono ?_
          rintro e w1 ⟨rfl, hb1⟩
          go_wp2_with fail
          refine (Und_no _).mono ?_
          rintro e w2 ⟨rfl, hb2⟩
          go_wp2_with fail
          go_ret
          exact ⟨rfl, hb1.trans (hb2.mono hb1.size)⟩
        · by_cases hc : 57 < ((s[k]'hlt).toNat : Int)
          · clear h95
            go_wp2_with fail
            refine (Und_yes _).mono ?_
            rintro e w1 ⟨rfl, hb1⟩
            go_wp2_with fail
            refine (Und_no _).mono ?_
            rintro e w2 ⟨rfl, hb2⟩
            go_wp2_with fail
            go_ret
            exact ⟨rfl, hb1.trans (hb2.mono hb1.size)⟩
          · have HD : Hid (LineUpto s (k + 1)) := line_step s k hlt hd.out (.inr (by omega))
            have HB : WantIs s (k + 1) b := two_keep s k b hlt hb (fun _ _ => h95)
            clear h95
            by_cases hk0 : (0 : Int) < (k : Int)
            · go_wp2_with fail
              go_round
              case rel => exact ⟨k + 1, b, by omega, by go_num, rfl, HB, HD⟩
              case measure => simp [intOf]; omega
            · go_wp2_with fail
              go_round
              case rel => exact ⟨k + 1, b, by omega, by go_num, rfl, HB, HD⟩
              case measure => simp [intOf]; omega
    · obtain rfl : k = s.size := by omega
      have HPD : Hid (LineDigits s) := fun i h => hd.out i h h
      have HE : Hid (b = true ↔ (Inner s s.size ∧ lastDigit s s.size = true)) := Iff.trans hb (ends_inner s)
      clear hd hlt hk hb
      go_wp2_with fail
      refine (Und_any s _ b HPD.out HE.out).mono ?_
      rintro e w1 ⟨rfl, hb1⟩
      go_wp2_with fail
      refine (Und_yes _).mono ?_
      rintro e w2 ⟨rfl, hb2⟩
      go_wp2_with fail
      refine (Und_no _).mono ?_
      rintro e w3 ⟨rfl, hb3⟩
      go_wp2_with fail
      go_ret
      exact ⟨rfl, hb1.trans ((hb2.mono hb1.size).trans (hb3.mono (Nat.le_trans hb1.size hb2.size)))⟩

set_option maxHeartbeats 1000000 in
set_option maxRecDepth 100000 in
theorem law_und_last (s : ByteArray) (w : World) (hm : s.size ≤ 2147483647) (hp : 0 < s.size) (h1 : (s[0]'hp).toNat ≠ 95) (h2 : (s[s.size - 1]'(by omega)).toNat = 95) :
    Calls Try.prog 11 #[.string s] w fun e w' => e = .returned (.bool true) ∧ Below w.heap.size w w' := by
  have h0 : ¬ (2147483647 : Int) < (s.size : Int) := by omega
  have hne : s.toList.isEmpty = false := by
    rw [ByteArray.toList_eq, List.isEmpty_eq_false_iff]
    intro e
    have : s.size = s.data.toList.length := by simp
    rw [e, List.length_nil] at this; omega
  have HB0 : WantIs s 0 false := two_start s false ⟨fun a => (by cases a), fun ⟨h, _, a⟩ => absurd h2 a⟩
  have e1 : (((s[0]'hp).toNat : Int) != 95) = true := by rw [bne_iff_ne]; omega
  have e2 : (((s[s.size - 1]'(by omega)).toNat : Int) != 95) = false := by simp [h2]
  clear h1 h2
  go_enter Try.func11, Try.ntmps11
  go_wp2_with fail
  go_loop [3, 4] (fun p i => ∃ (k : Nat) (b : Bool), k ≤ s.size ∧ i = .int .i64 k ∧ p = .bool b ∧ WantIs s k b ∧ Hid (LineUpto s k)) (fun _ i => s.size - (intOf i).toNat)
  case atStart => exact ⟨0, _, Nat.zero_le _, rfl, rfl, HB0, fun i h h0 => by omega⟩
  case round =>
    clear e1 e2 hne
    obtain ⟨k, b, hk, rfl, rfl, hb, hd⟩ := hrel
    by_cases hlt : k < s.size
    · by_cases h95 : (s[k]'hlt).toNat = 95
      · have HD : Hid (LineUpto s (k + 1)) := line_step s k hlt hd.out (.inl h95)
        have f95 : (((s[k]'hlt).toNat : Int) == 95) = true := by simp [h95]
        have g95 : (((s[k]'hlt).toNat : Int) != 95) = false := by simp [h95]
        by_cases hk0 : 0 < k
        · have fk : (0 : Int) < (k : Int) := by omega
          by_cases hp : (s[k - 1]'(by omega)).toNat = 95
          · have fp : (((s[k - 1]'(by omega)).toNat : Int) == 95) = true := by simp [hp]
            have HB : WantIs s (k + 1) false := two_drop s k hlt hk0 hp h95
            clear h95 hp
            go_wp2_with fail
            go_round
            case rel => exact ⟨k + 1, false, by omega, by go_num, rfl, HB, HD⟩
            case measure => simp [intOf]; omega
          · have fp : (((s[k - 1]'(by omega)).toNat : Int) == 95) = false := by rw [beq_eq_false_iff_ne]; omega
            have HB : WantIs s (k + 1) b := two_keep s k b hlt hb (fun _ a => absurd a hp)
            clear h95 hp
            go_wp2_with fail
            go_round
            case rel => exact ⟨k + 1, b, by omega, by go_num, rfl, HB, HD⟩
            case measure => simp [intOf]; omega
        · have fk : ¬ (0 : Int) < (k : Int) := by omega
          have HB : WantIs s (k + 1) b := two_keep s k b hlt hb (fun a => absurd a hk0)
          clear h95
          go_wp2_with fail
          go_round
          case rel => exact ⟨k + 1, b, by omega, by go_num, rfl, HB, HD⟩
          case measure => simp [intOf]; omega
      · have f95 : (((s[k]'hlt).toNat : Int) == 95) = false := by rw [beq_eq_false_iff_ne]; omega
        have g95 : (((s[k]'hlt).toNat : Int) != 95) = true := by rw [bne_iff_ne]; omega
        by_cases ha : ((s[k]'hlt).toNat : Int) < 48
        · clear h95
          go_wp2_with fail
          refine (Und_yes _).mono ?_
          rintro e w1 ⟨rfl, hb1⟩
          go_wp2_with fail
          refine (Und_no _).mono ?_
          rintro e w2 ⟨rfl, hb2⟩
          go_wp2_with fail
          go_ret
          exact ⟨rfl, hb1.trans (hb2.mono hb1.size)⟩
        · by_cases hc : 57 < ((s[k]'hlt).toNat : Int)
          · clear h95
            go_wp2_with fail
            refine (Und_yes _).mono ?_
            rintro e w1 ⟨rfl, hb1⟩
            go_wp2_with fail
            refine (Und_no _).mono ?_
            rintro e w2 ⟨rfl, hb2⟩
            go_wp2_with fail
            go_ret
            exact ⟨rfl, hb1.trans (hb2.mono hb1.size)⟩
          · have HD : Hid (LineUpto s (k + 1)) := line_step s k hlt hd.out (.inr (by omega))
            have HB : WantIs s (k + 1) b := two_keep s k b hlt hb (fun _ _ => h95)
            clear h95
            by_cases hk0 : (0 : Int) < (k : Int)
            · go_wp2_with fail
              go_round
              case rel => exact ⟨k + 1, b, by omega, by go_num, rfl, HB, HD⟩
              case measure => simp [intOf]; omega
            · go_wp2_with fail
              go_round
              case rel => exact ⟨k + 1, b, by omega, by go_num, rfl, HB, HD⟩
              case measure => simp [intOf]; omega
    · obtain rfl : k = s.size := by omega
      have HPD : Hid (LineDigits s) := fun i h => hd.out i h h
      have HE : Hid (b = true ↔ (Inner s s.size ∧ lastDigit s s.size = true)) := Iff.trans hb (ends_inner s)
      clear hd hlt hk hb
      go_wp2_with fail
      refine (Und_any s _ b HPD.out HE.out).mono ?_
      rintro e w1 ⟨rfl, hb1⟩
      go_wp2_with fail
      refine (Und_yes _).mono ?_
      rintro e w2 ⟨rfl, hb2⟩
      go_wp2_with fail
      refine (Und_no _).mono ?_
      rintro e w3 ⟨rfl, hb3⟩
      go_wp2_with fail
      go_ret
      exact ⟨rfl, hb1.trans ((hb2.mono hb1.size).trans (hb3.mono (Nat.le_trans hb1.size hb2.size)))⟩

set_option maxHeartbeats 1000000 in
set_option maxRecDepth 100000 in
theorem law_und_ends (s : ByteArray) (w : World) (hm : s.size ≤ 2147483647) (hp : 0 < s.size) (h1 : (s[0]'hp).toNat ≠ 95) (h2 : (s[s.size - 1]'(by omega)).toNat ≠ 95) :
    Calls Try.prog 11 #[.string s] w fun e w' => e = .returned (.bool true) ∧ Below w.heap.size w w' := by
  have h0 : ¬ (2147483647 : Int) < (s.size : Int) := by omega
  have hne : s.toList.isEmpty = false := by
    rw [ByteArray.toList_eq, List.isEmpty_eq_false_iff]
    intro e
    have : s.size = s.data.toList.length := by simp
    rw [e, List.length_nil] at this; omega
  have HB0 : WantIs s 0 true := two_start s true ⟨fun _ => ⟨hp, h1, h2⟩, fun _ => rfl⟩
  have e1 : (((s[0]'hp).toNat : Int) != 95) = true := by rw [bne_iff_ne]; omega
  have e2 : (((s[s.size - 1]'(by omega)).toNat : Int) != 95) = true := by rw [bne_iff_ne]; omega
  clear h1 h2
  go_enter Try.func11, Try.ntmps11
  go_wp2_with fail
  go_loop [3, 4] (fun p i => ∃ (k : Nat) (b : Bool), k ≤ s.size ∧ i = .int .i64 k ∧ p = .bool b ∧ WantIs s k b ∧ Hid (LineUpto s k)) (fun _ i => s.size - (intOf i).toNat)
  case atStart => exact ⟨0, _, Nat.zero_le _, rfl, rfl, HB0, fun i h h0 => by omega⟩
  case round =>
    clear e1 e2 hne
    obtain ⟨k, b, hk, rfl, rfl, hb, hd⟩ := hrel
    by_cases hlt : k < s.size
    · by_cases h95 : (s[k]'hlt).toNat = 95
      · have HD : Hid (LineUpto s (k + 1)) := line_step s k hlt hd.out (.inl h95)
        have f95 : (((s[k]'hlt).toNat : Int) == 95) = true := by simp [h95]
        have g95 : (((s[k]'hlt).toNat : Int) != 95) = false := by simp [h95]
        by_cases hk0 : 0 < k
        · have fk : (0 : Int) < (k : Int) := by omega
          by_cases hp : (s[k - 1]'(by omega)).toNat = 95
          · have fp : (((s[k - 1]'(by omega)).toNat : Int) == 95) = true := by simp [hp]
            have HB : WantIs s (k + 1) false := two_drop s k hlt hk0 hp h95
            clear h95 hp
            go_wp2_with fail
            go_round
            case rel => exact ⟨k + 1, false, by omega, by go_num, rfl, HB, HD⟩
            case measure => simp [intOf]; omega
          · have fp : (((s[k - 1]'(by omega)).toNat : Int) == 95) = false := by rw [beq_eq_false_iff_ne]; omega
            have HB : WantIs s (k + 1) b := two_keep s k b hlt hb (fun _ a => absurd a hp)
            clear h95 hp
            go_wp2_with fail
            go_round
            case rel => exact ⟨k + 1, b, by omega, by go_num, rfl, HB, HD⟩
            case measure => simp [intOf]; omega
        · have fk : ¬ (0 : Int) < (k : Int) := by omega
          have HB : WantIs s (k + 1) b := two_keep s k b hlt hb (fun a => absurd a hk0)
          clear h95
          go_wp2_with fail
          go_round
          case rel => exact ⟨k + 1, b, by omega, by go_num, rfl, HB, HD⟩
          case measure => simp [intOf]; omega
      · have f95 : (((s[k]'hlt).toNat : Int) == 95) = false := by rw [beq_eq_false_iff_ne]; omega
        have g95 : (((s[k]'hlt).toNat : Int) != 95) = true := by rw [bne_iff_ne]; omega
        by_cases ha : ((s[k]'hlt).toNat : Int) < 48
        · clear h95
          go_wp2_with fail
          refine (Und_yes _).mono ?_
          rintro e w1 ⟨rfl, hb1⟩
          go_wp2_with fail
          refine (Und_no _).mono ?_
          rintro e w2 ⟨rfl, hb2⟩
          go_wp2_with fail
          go_ret
          exact ⟨rfl, hb1.trans (hb2.mono hb1.size)⟩
        · by_cases hc : 57 < ((s[k]'hlt).toNat : Int)
          · clear h95
            go_wp2_with fail
            refine (Und_yes _).mono ?_
            rintro e w1 ⟨rfl, hb1⟩
            go_wp2_with fail
            refine (Und_no _).mono ?_
            rintro e w2 ⟨rfl, hb2⟩
            go_wp2_with fail
            go_ret
            exact ⟨rfl, hb1.trans (hb2.mono hb1.size)⟩
          · have HD : Hid (LineUpto s (k + 1)) := line_step s k hlt hd.out (.inr (by omega))
            have HB : WantIs s (k + 1) b := two_keep s k b hlt hb (fun _ _ => h95)
            clear h95
            by_cases hk0 : (0 : Int) < (k : Int)
            · go_wp2_with fail
              go_round
              case rel => exact ⟨k + 1, b, by omega, by go_num, rfl, HB, HD⟩
              case measure => simp [intOf]; omega
            · go_wp2_with fail
              go_round
              case rel => exact ⟨k + 1, b, by omega, by go_num, rfl, HB, HD⟩
              case measure => simp [intOf]; omega
    · obtain rfl : k = s.size := by omega
      have HPD : Hid (LineDigits s) := fun i h => hd.out i h h
      have HE : Hid (b = true ↔ (Inner s s.size ∧ lastDigit s s.size = true)) := Iff.trans hb (ends_inner s)
      clear hd hlt hk hb
      go_wp2_with fail
      refine (Und_any s _ b HPD.out HE.out).mono ?_
      rintro e w1 ⟨rfl, hb1⟩
      go_wp2_with fail
      refine (Und_yes _).mono ?_
      rintro e w2 ⟨rfl, hb2⟩
      go_wp2_with fail
      refine (Und_no _).mono ?_
      rintro e w3 ⟨rfl, hb3⟩
      go_wp2_with fail
      go_ret
      exact ⟨rfl, hb1.trans ((hb2.mono hb1.size).trans (hb3.mono (Nat.le_trans hb1.size hb2.size)))⟩

theorem law_und (s : ByteArray) (w : World) :
    Calls Try.prog 11 #[.string s] w fun e w' => e = .returned (.bool true) ∧ Below w.heap.size w w' := by
  by_cases hm : s.size ≤ 2147483647
  · by_cases hp : 0 < s.size
    · by_cases h1 : (s[0]'hp).toNat = 95
      · exact law_und_first s w hm hp h1
      · by_cases h2 : (s[s.size - 1]'(by omega)).toNat = 95
        · exact law_und_last s w hm hp h1 h2
        · exact law_und_ends s w hm hp h1 h2
    · exact law_und_empty s w hm (by omega)
  · exact law_und_large s w (by omega)
end Go.Proofs.Ytfjdgfhfpcbcfaa
