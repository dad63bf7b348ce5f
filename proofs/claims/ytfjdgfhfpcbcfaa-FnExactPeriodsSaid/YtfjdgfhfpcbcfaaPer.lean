/-
  numPeriodsOK answers whether each point has a byte behind it that is no point. Condition: every byte is a point or a digit.
-/
import Derived.Test.YtfjdgfhfpcbcfaaDec
namespace Go.Proofs.Ytfjdgfhfpcbcfaa
open Go Go.RowKit
set_option linter.unusedVariables false

/-- Of the first k bytes each point has a byte behind it that is no point. -/
def RightUpto (s : ByteArray) (k : Nat) : Prop := ∀ i (h : i < s.size), i < k → (s[i]'h).toNat = 46 → ∃ hj : i + 1 < s.size, (s[i + 1]'hj).toNat ≠ 46

/-- Is the byte ahead of k a point? -/
def lastPoint (s : ByteArray) (k : Nat) : Bool := match k with
  | 0 => false
  | p + 1 => if h : p < s.size then (s[p]'h).toNat == 46 else false

theorem lastPoint_step (s : ByteArray) (k : Nat) (h : k < s.size) : lastPoint s (k + 1) = ((s[k]'h).toNat == 46) := by
  simp [lastPoint, h]
theorem lastPoint_true (s : ByteArray) (k : Nat) (h : lastPoint s k = true) : ∃ p, p + 1 = k ∧ ∃ hp : p < s.size, (s[p]'hp).toNat = 46 := by
  cases k with
  | zero => simp [lastPoint] at h
  | succ p =>
    by_cases hp : p < s.size
    · exact ⟨p, rfl, hp, by simpa [lastPoint, hp] using h⟩
    · simp [lastPoint, hp] at h

theorem hid' {p : Prop} (h : p) : Hid p := h

theorem digit_yes (r : Int) (w : World) (h1 : 48 ≤ r) (h2 : r ≤ 57) :
    Calls Try.prog 50 #[.int .i32 r] w fun e w' => e = .returned (.bool true) ∧ w = w' := by
  go_enter Try.func50, Try.ntmps50
  go_wp2
  go_ret
  exact ⟨rfl, rfl⟩
theorem digit_low (r : Int) (w : World) (h1 : r < 48) :
    Calls Try.prog 50 #[.int .i32 r] w fun e w' => e = .returned (.bool false) ∧ w = w' := by
  go_enter Try.func50, Try.ntmps50
  go_wp2
  go_ret
  exact ⟨rfl, rfl⟩

/-- A round of numPeriodsOK that goes on: what is behind it. -/
theorem per_true_end (s : ByteArray) (hr : RightUpto s s.size) : lastPoint s s.size = false := by
  cases h : lastPoint s s.size
  · rfl
  · obtain ⟨p, hp, hp', e⟩ := lastPoint_true s _ h
    obtain ⟨h', _⟩ := hr p hp' hp' e
    omega
theorem per_true_round (s : ByteArray) (hr : RightUpto s s.size) (k : Nat) (h : k < s.size) (hl : lastPoint s k = true) : (s[k]'h).toNat ≠ 46 := by
  obtain ⟨p, rfl, hp', e⟩ := lastPoint_true s _ hl
  obtain ⟨h', e'⟩ := hr p hp' hp' e
  exact e'

set_option maxHeartbeats 400000 in
set_option maxRecDepth 100000 in
theorem per_true (s : ByteArray) (w : World) (hs : PointDigits s) (hr : RightUpto s s.size) :
    Calls Try.prog 42 #[.string s] w fun e w' => e = .returned (.bool true) ∧ Below w.heap.size w w' := by
  have HS : Hid (PointDigits s) := hs
  have HR : Hid (RightUpto s s.size) := hr
  clear hs hr
  go_enter Try.func42, Try.ntmps42
  go_wp2_with fail
  go_loopw [3, 5] (fun p _ w' => ∃ pos : Nat, pos ≤ s.size ∧ w' = w.iter s pos ∧ p = .bool (lastPoint s pos)) (fun _ _ w' => s.size - w'.iterPos w.heap.size)
  case atStart => exact ⟨0, Nat.zero_le _, rfl, rfl⟩
  case round =>
    obtain ⟨pos, hle, rfl, rfl⟩ := hrel
    by_cases hlt : pos < s.size
    · have hnx : ∀ ty, (Instr.next (.pointer (some ⟨w.heap.size, 0, none⟩)) true ty).run Try.prog (w.iter s pos) = _ := fun ty => run_next_ascii w s pos ty hlt (HS.out.ascii pos hlt)
      have HSTEP : Hid (lastPoint s (pos + 1) = ((s[pos]'hlt).toNat == 46)) := lastPoint_step s pos hlt
      cases hl : lastPoint s pos
      · by_cases h46 : (s[pos]'hlt).toNat = 46
        · have f46 : (((s[pos]'hlt).toNat : Int) == 46) = true := by simp [h46]
          have H46 : Hid ((s[pos]'hlt).toNat = 46) := h46
          clear h46
          go_wp2_with fail
          go_roundw
          case rel => exact ⟨pos + 1, by omega, rfl, by rw [HSTEP.out, H46.out]; simp⟩
          case measure => simp; omega
        · have f46 : (((s[pos]'hlt).toNat : Int) == 46) = false := by rw [beq_eq_false_iff_ne]; omega
          have H46 : Hid (((s[pos]'hlt).toNat == 46) = false) := by show _ = false; rw [beq_eq_false_iff_ne]; exact h46
          clear h46
          go_wp2_with fail
          go_roundw
          case rel => exact ⟨pos + 1, by omega, rfl, by rw [HSTEP.out, H46.out]⟩
          case measure => simp; omega
      · have h46 := per_true_round s HR.out pos hlt hl
        have hdg : 48 ≤ (s[pos]'hlt).toNat ∧ (s[pos]'hlt).toNat ≤ 57 := (HS.out pos hlt).resolve_left h46
        have f46 : (((s[pos]'hlt).toNat : Int) == 46) = false := by rw [beq_eq_false_iff_ne]; omega
        have H46 : Hid (((s[pos]'hlt).toNat == 46) = false) := by show _ = false; rw [beq_eq_false_iff_ne]; exact h46
        obtain ⟨hd1, hd2⟩ := hdg
        have hd1' : (48 : Int) ≤ ((s[pos]'hlt).toNat : Int) := by omega
        have hd2' : ((s[pos]'hlt).toNat : Int) ≤ 57 := by omega
        clear h46 hd1 hd2
        go_wp2_with fail
        refine (digit_yes _ _ hd1' hd2').mono ?_
        rintro e w' ⟨rfl, rfl⟩
        go_wp2_with fail
        go_roundw
        case rel => exact ⟨pos + 1, by omega, rfl, by rw [HSTEP.out, H46.out]⟩
        case measure => simp; omega
    · obtain rfl : pos = s.size := by omega
      have hnx : ∀ ty, (Instr.next (.pointer (some ⟨w.heap.size, 0, none⟩)) true ty).run Try.prog (w.iter s s.size) = _ := fun ty => run_next_end w s s.size ty hlt
      have hl := per_true_end s HR.out
      go_wp2_with fail
      go_ret
      exact ⟨rfl, (Below.refl _ _).alloc (Nat.le_refl _) _⟩

theorem per_false_end (s : ByteArray) (hr : ¬ RightUpto s s.size) (hn : ∀ i (h : i + 1 < s.size), (s[i]'(by omega)).toNat = 46 → (s[i + 1]'h).toNat ≠ 46) : lastPoint s s.size = true := by
  cases h : lastPoint s s.size
  · exfalso
    apply hr
    intro i hi _ e
    by_cases h1 : i + 1 < s.size
    · exact ⟨h1, hn i h1 e⟩
    · have e1 : i + 1 = s.size := by omega
      rw [← e1, lastPoint_step s i hi, e] at h
      simp at h
  · rfl

set_option maxHeartbeats 400000 in
set_option maxRecDepth 100000 in
theorem per_false (s : ByteArray) (w : World) (hs : PointDigits s) (hr : ¬ RightUpto s s.size) :
    Calls Try.prog 42 #[.string s] w fun e w' => e = .returned (.bool false) ∧ Below w.heap.size w w' := by
  have HS : Hid (PointDigits s) := hs
  have HR : Hid (¬ RightUpto s s.size) := hr
  clear hs hr
  go_enter Try.func42, Try.ntmps42
  go_wp2_with fail
  go_loopw [3, 5] (fun p _ w' => ∃ pos : Nat, pos ≤ s.size ∧ w' = w.iter s pos ∧ p = .bool (lastPoint s pos) ∧ Hid (∀ i (h : i + 1 < s.size), i + 1 < pos → (s[i]'(by omega)).toNat = 46 → (s[i + 1]'h).toNat ≠ 46)) (fun _ _ w' => s.size - w'.iterPos w.heap.size)
  case atStart => exact ⟨0, Nat.zero_le _, rfl, rfl, fun i h h0 => by omega⟩
  case round =>
    obtain ⟨pos, hle, rfl, rfl, hn⟩ := hrel
    by_cases hlt : pos < s.size
    · have hnx : ∀ ty, (Instr.next (.pointer (some ⟨w.heap.size, 0, none⟩)) true ty).run Try.prog (w.iter s pos) = _ := fun ty => run_next_ascii w s pos ty hlt (HS.out.ascii pos hlt)
      have HSTEP : Hid (lastPoint s (pos + 1) = ((s[pos]'hlt).toNat == 46)) := lastPoint_step s pos hlt
      cases hl : lastPoint s pos
      · have hn' : Hid (∀ i (h : i + 1 < s.size), i + 1 < pos + 1 → (s[i]'(by omega)).toNat = 46 → (s[i + 1]'h).toNat ≠ 46) := by
          intro i h hi e
          by_cases e1 : i + 1 = pos
          · rw [← e1, lastPoint_step s i (by omega), e] at hl
            simp at hl
          · exact hn.out i h (by omega) e
        by_cases h46 : (s[pos]'hlt).toNat = 46
        · have f46 : (((s[pos]'hlt).toNat : Int) == 46) = true := by simp [h46]
          have H46 : Hid ((s[pos]'hlt).toNat = 46) := h46
          clear h46
          go_wp2_with fail
          go_roundw
          case rel => exact ⟨pos + 1, by omega, rfl, by rw [HSTEP.out, H46.out]; simp, hn'⟩
          case measure => simp; omega
        · have f46 : (((s[pos]'hlt).toNat : Int) == 46) = false := by rw [beq_eq_false_iff_ne]; omega
          have H46 : Hid (((s[pos]'hlt).toNat == 46) = false) := by show _ = false; rw [beq_eq_false_iff_ne]; exact h46
          clear h46
          go_wp2_with fail
          go_roundw
          case rel => exact ⟨pos + 1, by omega, rfl, by rw [HSTEP.out, H46.out], hn'⟩
          case measure => simp; omega
      · by_cases h46 : (s[pos]'hlt).toNat = 46
        · have hlow : ((s[pos]'hlt).toNat : Int) < 48 := by omega
          clear h46
          go_wp2_with fail
          refine (digit_low _ _ hlow).mono ?_
          rintro e w' ⟨rfl, rfl⟩
          go_wp2_with fail
          go_ret
          exact ⟨rfl, (Below.refl _ _).alloc (Nat.le_refl _) _⟩
        · have hn' : Hid (∀ i (h : i + 1 < s.size), i + 1 < pos + 1 → (s[i]'(by omega)).toNat = 46 → (s[i + 1]'h).toNat ≠ 46) := by
            intro i h hi e
            by_cases e1 : i + 1 = pos
            · subst e1; exact h46
            · exact hn.out i h (by omega) e
          have hdg : 48 ≤ (s[pos]'hlt).toNat ∧ (s[pos]'hlt).toNat ≤ 57 := (HS.out pos hlt).resolve_left h46
          have f46 : (((s[pos]'hlt).toNat : Int) == 46) = false := by rw [beq_eq_false_iff_ne]; omega
          have H46 : Hid (((s[pos]'hlt).toNat == 46) = false) := by show _ = false; rw [beq_eq_false_iff_ne]; exact h46
          obtain ⟨hd1, hd2⟩ := hdg
          have hd1' : (48 : Int) ≤ ((s[pos]'hlt).toNat : Int) := by omega
          have hd2' : ((s[pos]'hlt).toNat : Int) ≤ 57 := by omega
          clear h46 hd1 hd2
          go_wp2_with fail
          refine (digit_yes _ _ hd1' hd2').mono ?_
          rintro e w' ⟨rfl, rfl⟩
          go_wp2_with fail
          go_roundw
          case rel => exact ⟨pos + 1, by omega, rfl, by rw [HSTEP.out, H46.out], hn'⟩
          case measure => simp; omega
    · obtain rfl : pos = s.size := by omega
      have hnx : ∀ ty, (Instr.next (.pointer (some ⟨w.heap.size, 0, none⟩)) true ty).run Try.prog (w.iter s s.size) = _ := fun ty => run_next_end w s s.size ty hlt
      have hl := per_false_end s HR.out (fun i h => hn.out i h h)
      go_wp2_with fail
      go_ret
      exact ⟨rfl, (Below.refl _ _).alloc (Nat.le_refl _) _⟩

/-- impl.PeriodsOk, by its answer. -/
theorem Per_any (s : ByteArray) (w : World) (b : Bool) (hs : PointDigits s) (hb : b = true ↔ RightUpto s s.size) :
    Calls Try.prog 19 #[.string s] w fun e w' => e = .returned (.bool b) ∧ Below w.heap.size w w' := by
  have h : ∀ w0 : World, Calls Try.prog 42 #[.string s] w0 fun e w' => e = .returned (.bool b) ∧ Below w0.heap.size w0 w' := by
    intro w0
    cases b
    · exact per_false s w0 hs (fun a => by simpa using hb.mpr a)
    · exact per_true s w0 hs (hb.mp rfl)
  have H := hid' h
  clear hs hb h
  go_enter Try.func19, Try.ntmps19
  go_wp2_with (first | (go_at_call 32; go_in) | (go_at_call 42; refine (H.out _).mono ?_; rintro e w1 ⟨rfl, hb⟩))
  go_ret
  exact ⟨rfl, hb⟩

theorem Per_yes (w : World) :
    Calls Try.prog 19 #[.string (ByteArray.mk #[49, 46, 48])] w fun e w' => e = .returned (.bool true) ∧ Below w.heap.size w w' := by
  refine Per_any _ w true ?_ ⟨fun _ => ?_, fun _ => rfl⟩
  · intro i h
    have h' : i < 3 := h
    obtain rfl | rfl | rfl : i = 0 ∨ i = 1 ∨ i = 2 := by omega
    · exact .inr (show (48 : Nat) ≤ 49 ∧ (49 : Nat) ≤ 57 by decide)
    · exact .inl (show (46 : Nat) = 46 by decide)
    · exact .inr (show (48 : Nat) ≤ 48 ∧ (48 : Nat) ≤ 57 by decide)
  · intro i h _ e
    have h' : i < 3 := h
    obtain rfl | rfl | rfl : i = 0 ∨ i = 1 ∨ i = 2 := by omega
    · exact absurd (show (49 : Nat) = 46 from e) (by decide)
    · exact ⟨(by decide), show (48 : Nat) ≠ 46 by decide⟩
    · exact absurd (show (48 : Nat) = 46 from e) (by decide)
theorem Per_no (w : World) :
    Calls Try.prog 19 #[.string (ByteArray.mk #[49, 46])] w fun e w' => e = .returned (.bool false) ∧ Below w.heap.size w w' := by
  refine Per_any _ w false ?_ ⟨fun a => (by simp at a), fun a => ?_⟩
  · intro i h
    have h' : i < 2 := h
    obtain rfl | rfl : i = 0 ∨ i = 1 := by omega
    · exact .inr (show (48 : Nat) ≤ 49 ∧ (49 : Nat) ≤ 57 by decide)
    · exact .inl (show (46 : Nat) = 46 by decide)
  · obtain ⟨h', _⟩ := a 1 (by decide) (by decide) (show (46 : Nat) = 46 by decide)
    exact absurd (show 2 < 2 from h') (by decide)
end Go.Proofs.Ytfjdgfhfpcbcfaa
