/-
  numUnderscoresOK answers whether each underscore stands between digits. Condition: every byte is an underscore or a digit.
-/
import Derived.Test.YtfjdgfhfpcbcfaaChars
import Derived.Laws.RangeAny
import Derived.LoopTactic
namespace Go.Proofs.Ytfjdgfhfpcbcfaa
open Go Go.RowKit
set_option linter.unusedVariables false

/-- Every byte is an underscore or a digit. -/
def LineDigits (s : ByteArray) : Prop := ∀ i (h : i < s.size), (s[i]'h).toNat = 95 ∨ (48 ≤ (s[i]'h).toNat ∧ (s[i]'h).toNat ≤ 57)

theorem LineDigits.ascii {s : ByteArray} (h : LineDigits s) (i : Nat) (hi : i < s.size) : (s[i]'hi).toNat < 128 := by
  rcases h i hi with a | a <;> omega

/-- Is there a byte ahead of k, and is it a digit? -/
def lastDigit (s : ByteArray) (k : Nat) : Bool := match k with
  | 0 => false
  | p + 1 => if h : p < s.size then !((s[p]'h).toNat == 95) else false

theorem lastDigit_step (s : ByteArray) (k : Nat) (h : k < s.size) : lastDigit s (k + 1) = !((s[k]'h).toNat == 95) := by
  simp [lastDigit, h]

/-- Among the first k bytes the first is no underscore, and none stands behind another. -/
def Inner (s : ByteArray) (k : Nat) : Prop := (∀ h : 0 < s.size, 0 < k → (s[0]'h).toNat ≠ 95) ∧ ∀ i (h : i + 1 < s.size), i + 1 < k → (s[i]'(by omega)).toNat = 95 → (s[i + 1]'h).toNat ≠ 95

theorem Inner.less {s : ByteArray} {j k : Nat} (h : Inner s k) (hj : j ≤ k) : Inner s j :=
  ⟨fun a b => h.1 a (by omega), fun i a b e => h.2 i a (by omega) e⟩

theorem inner_step (s : ByteArray) (k : Nat) (hlt : k < s.size) (h : Inner s k) (hk : lastDigit s k = true ∨ (s[k]'hlt).toNat ≠ 95) : Inner s (k + 1) := by
  refine ⟨fun a b => ?_, fun i a b e => ?_⟩
  · cases k with
    | zero =>
      rcases hk with hk | hk
      · simp [lastDigit] at hk
      · exact hk
    | succ p => exact h.1 a (by omega)
  · by_cases e1 : i + 1 = k
    · subst e1
      rcases hk with hk | hk
      · rw [lastDigit_step s i (by omega), e] at hk
        simp at hk
      · exact hk
    · exact h.2 i a (by omega) e
theorem inner_stop (s : ByteArray) (k : Nat) (hlt : k < s.size) (hk : lastDigit s k = false) (e : (s[k]'hlt).toNat = 95) : ¬ Inner s (k + 1) := by
  intro h
  cases k with
  | zero => exact h.1 hlt (by omega) e
  | succ p =>
    refine h.2 p hlt (by omega) ?_ e
    rw [lastDigit_step s p (by omega)] at hk
    simpa using hk

theorem no_word (s : ByteArray) (a : UInt8) (l : List UInt8) (hs : LineDigits s) (ha : a.toNat ≠ 95) (ha2 : ¬ (48 ≤ a.toNat ∧ a.toNat ≤ 57)) : (s.toList == a :: l) = false := by
  rw [beq_eq_false_iff_ne, ByteArray.toList_eq]
  intro e
  have hsz : 0 < s.size := by
    have : s.size = s.data.toList.length := by simp
    rw [this, e]; simp
  have h0 : s[0]'hsz = a := by
    have e1 : s.data.toList[0]'(by rw [e]; simp) = a := by simp [e]
    rw [← e1]
    simp
    rfl
  rcases hs 0 hsz with h | h
  · rw [h0] at h; exact ha h
  · rw [h0] at h; exact ha2 h

theorem line_hex_yes (r : Int) (w : World) (h1 : 48 ≤ r) (h2 : r ≤ 57) :
    Calls Try.prog 36 #[.int .i32 r] w fun e w' => e = .returned (.bool true) ∧ w = w' := hex_digit r w h1 h2
theorem line_hex_no (r : Int) (w : World) (h : r = 95) :
    Calls Try.prog 36 #[.int .i32 r] w fun e w' => e = .returned (.bool false) ∧ w = w' :=
  hex_no r w (by omega) (by omega) (by omega) (by omega) (by omega)

set_option maxHeartbeats 400000 in
set_option maxRecDepth 100000 in
theorem und_true (s : ByteArray) (w : World) (hs : LineDigits s) (hr : Inner s s.size) (hl : lastDigit s s.size = true) :
    Calls Try.prog 44 #[.string s] w fun e w' => e = .returned (.bool true) ∧ Below w.heap.size w w' := by
  have n1 := no_word s 110 [97, 110] hs (by decide) (by decide)
  have n2 := no_word s 43 [110, 97, 110] hs (by decide) (by decide)
  have n3 := no_word s 45 [110, 97, 110] hs (by decide) (by decide)
  have n4 := no_word s 105 [110, 102] hs (by decide) (by decide)
  have n5 := no_word s 45 [105, 110, 102] hs (by decide) (by decide)
  have n6 := no_word s 43 [105, 110, 102] hs (by decide) (by decide)
  have HS : Hid (LineDigits s) := hs
  have HR : Hid (Inner s s.size) := hr
  have HL : Hid (lastDigit s s.size = true) := hl
  clear hs hr hl
  go_enter Try.func44, Try.ntmps44
  go_wp2_with fail
  go_loopw [3, 5] (fun p _ w' => ∃ pos : Nat, pos ≤ s.size ∧ w' = w.iter s pos ∧ p = .bool (lastDigit s pos)) (fun _ _ w' => s.size - w'.iterPos w.heap.size)
  case atStart => exact ⟨0, Nat.zero_le _, rfl, rfl⟩
  case round =>
    obtain ⟨pos, hle, rfl, rfl⟩ := hrel
    by_cases hlt : pos < s.size
    · have hnx : ∀ ty, (Instr.next (.pointer (some ⟨w.heap.size, 0, none⟩)) true ty).run Try.prog (w.iter s pos) = _ := fun ty => run_next_ascii w s pos ty hlt (HS.out.ascii pos hlt)
      have HSTEP : Hid (lastDigit s (pos + 1) = !((s[pos]'hlt).toNat == 95)) := lastDigit_step s pos hlt
      by_cases h95 : (s[pos]'hlt).toNat = 95
      · have f95 : (((s[pos]'hlt).toNat : Int) == 95) = true := by simp [h95]
        have e95 : ((s[pos]'hlt).toNat : Int) = 95 := by omega
        have E95 : Hid (((s[pos]'hlt).toNat : Int) = 95) := e95
        have H95 : Hid ((s[pos]'hlt).toNat = 95) := h95
        clear h95 e95
        cases hd : lastDigit s pos
        · exact absurd (HR.out.less (j := pos + 1) (by omega)) (inner_stop s pos hlt hd H95.out)
        · 
          go_wp2_with fail
          refine (line_hex_no _ _ E95.out).mono ?_
          rintro e w' ⟨rfl, rfl⟩
          go_wp2_with fail
          go_roundw
          case rel => exact ⟨pos + 1, by omega, rfl, by rw [HSTEP.out, H95.out]; simp⟩
          case measure => simp; omega
      · have f95 : (((s[pos]'hlt).toNat : Int) == 95) = false := by rw [beq_eq_false_iff_ne]; omega
        have H95 : Hid (((s[pos]'hlt).toNat == 95) = false) := by show _ = false; rw [beq_eq_false_iff_ne]; exact h95
        have hdg : 48 ≤ (s[pos]'hlt).toNat ∧ (s[pos]'hlt).toNat ≤ 57 := (HS.out pos hlt).resolve_left h95
        obtain ⟨hd1, hd2⟩ := hdg
        have hd1' : (48 : Int) ≤ ((s[pos]'hlt).toNat : Int) := by omega
        have hd2' : ((s[pos]'hlt).toNat : Int) ≤ 57 := by omega
        clear h95 hd1 hd2
        go_wp2_with fail
        refine (line_hex_yes _ _ hd1' hd2').mono ?_
        rintro e w' ⟨rfl, rfl⟩
        go_wp2_with fail
        go_roundw
        case rel => exact ⟨pos + 1, by omega, rfl, by rw [HSTEP.out, H95.out]; simp⟩
        case measure => simp; omega
    · obtain rfl : pos = s.size := by omega
      have hnx : ∀ ty, (Instr.next (.pointer (some ⟨w.heap.size, 0, none⟩)) true ty).run Try.prog (w.iter s s.size) = _ := fun ty => run_next_end w s s.size ty hlt
      have hl : lastDigit s s.size = true := HL.out
      go_wp2_with fail
      go_ret
      exact ⟨by show Ending.returned (.bool (lastDigit s s.size)) = _; rw [hl], (Below.refl _ _).alloc (Nat.le_refl _) _⟩

set_option maxHeartbeats 400000 in
set_option maxRecDepth 100000 in
theorem und_false (s : ByteArray) (w : World) (hs : LineDigits s) (hr : ¬ (Inner s s.size ∧ lastDigit s s.size = true)) :
    Calls Try.prog 44 #[.string s] w fun e w' => e = .returned (.bool false) ∧ Below w.heap.size w w' := by
  have n1 := no_word s 110 [97, 110] hs (by decide) (by decide)
  have n2 := no_word s 43 [110, 97, 110] hs (by decide) (by decide)
  have n3 := no_word s 45 [110, 97, 110] hs (by decide) (by decide)
  have n4 := no_word s 105 [110, 102] hs (by decide) (by decide)
  have n5 := no_word s 45 [105, 110, 102] hs (by decide) (by decide)
  have n6 := no_word s 43 [105, 110, 102] hs (by decide) (by decide)
  have HS : Hid (LineDigits s) := hs
  have HR : Hid (¬ (Inner s s.size ∧ lastDigit s s.size = true)) := hr
  clear hs hr
  go_enter Try.func44, Try.ntmps44
  go_wp2_with fail
  go_loopw [3, 5] (fun p _ w' => ∃ pos : Nat, pos ≤ s.size ∧ w' = w.iter s pos ∧ p = .bool (lastDigit s pos) ∧ Hid (Inner s pos)) (fun _ _ w' => s.size - w'.iterPos w.heap.size)
  case atStart => exact ⟨0, Nat.zero_le _, rfl, rfl, ⟨fun _ h => by omega, fun i _ h => by omega⟩⟩
  case round =>
    obtain ⟨pos, hle, rfl, rfl, hin⟩ := hrel
    by_cases hlt : pos < s.size
    · have hnx : ∀ ty, (Instr.next (.pointer (some ⟨w.heap.size, 0, none⟩)) true ty).run Try.prog (w.iter s pos) = _ := fun ty => run_next_ascii w s pos ty hlt (HS.out.ascii pos hlt)
      have HSTEP : Hid (lastDigit s (pos + 1) = !((s[pos]'hlt).toNat == 95)) := lastDigit_step s pos hlt
      by_cases h95 : (s[pos]'hlt).toNat = 95
      · have f95 : (((s[pos]'hlt).toNat : Int) == 95) = true := by simp [h95]
        have e95 : ((s[pos]'hlt).toNat : Int) = 95 := by omega
        have E95 : Hid (((s[pos]'hlt).toNat : Int) = 95) := e95
        have H95 : Hid ((s[pos]'hlt).toNat = 95) := h95
        clear h95 e95
        cases hd : lastDigit s pos
        · go_wp2_with fail
          go_ret
          exact ⟨rfl, (Below.refl _ _).alloc (Nat.le_refl _) _⟩
        · have hin2 : Hid (Inner s (pos + 1)) := inner_step s pos hlt hin.out (.inl hd)
          go_wp2_with fail
          refine (line_hex_no _ _ E95.out).mono ?_
          rintro e w' ⟨rfl, rfl⟩
          go_wp2_with fail
          go_roundw
          case rel => exact ⟨pos + 1, by omega, rfl, by rw [HSTEP.out, H95.out]; simp, hin2⟩
          case measure => simp; omega
      · have f95 : (((s[pos]'hlt).toNat : Int) == 95) = false := by rw [beq_eq_false_iff_ne]; omega
        have H95 : Hid (((s[pos]'hlt).toNat == 95) = false) := by show _ = false; rw [beq_eq_false_iff_ne]; exact h95
        have hdg : 48 ≤ (s[pos]'hlt).toNat ∧ (s[pos]'hlt).toNat ≤ 57 := (HS.out pos hlt).resolve_left h95
        have hin2 : Hid (Inner s (pos + 1)) := inner_step s pos hlt hin.out (.inr h95)
        obtain ⟨hd1, hd2⟩ := hdg
        have hd1' : (48 : Int) ≤ ((s[pos]'hlt).toNat : Int) := by omega
        have hd2' : ((s[pos]'hlt).toNat : Int) ≤ 57 := by omega
        clear h95 hd1 hd2
        go_wp2_with fail
        refine (line_hex_yes _ _ hd1' hd2').mono ?_
        rintro e w' ⟨rfl, rfl⟩
        go_wp2_with fail
        go_roundw
        case rel => exact ⟨pos + 1, by omega, rfl, by rw [HSTEP.out, H95.out]; simp, hin2⟩
        case measure => simp; omega
    · obtain rfl : pos = s.size := by omega
      have hnx : ∀ ty, (Instr.next (.pointer (some ⟨w.heap.size, 0, none⟩)) true ty).run Try.prog (w.iter s s.size) = _ := fun ty => run_next_end w s s.size ty hlt
      have hl : lastDigit s s.size = false := by
        cases h : lastDigit s s.size
        · rfl
        · exact absurd ⟨hin.out, h⟩ HR.out
      go_wp2_with fail
      go_ret
      exact ⟨by show Ending.returned (.bool (lastDigit s s.size)) = _; rw [hl], (Below.refl _ _).alloc (Nat.le_refl _) _⟩

/-- impl.UnderscoresOk, by its answer. -/
theorem Und_any (s : ByteArray) (w : World) (b : Bool) (hs : LineDigits s) (hb : b = true ↔ (Inner s s.size ∧ lastDigit s s.size = true)) :
    Calls Try.prog 21 #[.string s] w fun e w' => e = .returned (.bool b) ∧ Below w.heap.size w w' := by
  have h : ∀ w0 : World, Calls Try.prog 44 #[.string s] w0 fun e w' => e = .returned (.bool b) ∧ Below w0.heap.size w0 w' := by
    intro w0
    cases b
    · exact und_false s w0 hs (fun a => by simpa using hb.mpr a)
    · exact und_true s w0 hs (hb.mp rfl).1 (hb.mp rfl).2
  have H := hid h
  clear hs hb h
  go_enter Try.func21, Try.ntmps21
  go_wp2_with (first | (go_at_call 34; go_in) | (go_at_call 44; refine (H.out _).mono ?_; rintro e w1 ⟨rfl, hb⟩))
  go_ret
  exact ⟨rfl, hb⟩

theorem Und_yes (w : World) :
    Calls Try.prog 21 #[.string (ByteArray.mk #[49, 95, 48])] w fun e w' => e = .returned (.bool true) ∧ Below w.heap.size w w' := by
  refine Und_any _ w true ?_ ⟨fun _ => ⟨⟨?_, ?_⟩, ?_⟩, fun _ => rfl⟩
  · intro i h
    have h' : i < 3 := h
    obtain rfl | rfl | rfl : i = 0 ∨ i = 1 ∨ i = 2 := by omega
    · exact .inr (show (48 : Nat) ≤ 49 ∧ (49 : Nat) ≤ 57 by decide)
    · exact .inl (show (95 : Nat) = 95 by decide)
    · exact .inr (show (48 : Nat) ≤ 48 ∧ (48 : Nat) ≤ 57 by decide)
  · intro _ _
    exact show (49 : Nat) ≠ 95 by decide
  · intro i h _ e
    have h' : i + 1 < 3 := h
    obtain rfl | rfl : i = 0 ∨ i = 1 := by omega
    · exact absurd (show (49 : Nat) = 95 from e) (by decide)
    · exact show (48 : Nat) ≠ 95 by decide
  · decide
theorem Und_no (w : World) :
    Calls Try.prog 21 #[.string (ByteArray.mk #[49, 95])] w fun e w' => e = .returned (.bool false) ∧ Below w.heap.size w w' := by
  refine Und_any _ w false ?_ ⟨fun a => (by simp at a), fun a => absurd a.2 (by decide)⟩
  intro i h
  have h' : i < 2 := h
  obtain rfl | rfl : i = 0 ∨ i = 1 := by omega
  · exact .inr (show (48 : Nat) ≤ 49 ∧ (49 : Nat) ≤ 57 by decide)
  · exact .inl (show (95 : Nat) = 95 by decide)
end Go.Proofs.Ytfjdgfhfpcbcfaa
