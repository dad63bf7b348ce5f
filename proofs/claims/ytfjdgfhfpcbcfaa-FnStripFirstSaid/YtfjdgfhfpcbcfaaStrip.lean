/-
  stripFirstNewline hands back a string without the newline at its front, and the law FnStripFirst returns true. No condition (law_strip; the theorems ahead of it each treat one case).
-/
import Derived.Test.YtfjdgfhfpcbcfaaProg
import Derived.WalkKit
import Derived.Below
namespace Go.Proofs.Ytfjdgfhfpcbcfaa
open Go Go.RowKit
set_option linter.unusedVariables false

/-- stripFirstNewline hands r back for s, in whatever world, and leaves the world alone. -/
def Strips (s r : ByteArray) : Prop := ∀ w : World, Calls Try.prog 40 #[.string s] w fun e w' => e = .returned (.string r) ∧ w = w'

theorem strip_empty (s : ByteArray) (h : s.size = 0) : Strips s s := by
  intro w
  have h0 : ¬ (0 : Int) < (s.size : Int) := by omega
  have h1 : ¬ (1 : Int) < (s.size : Int) := by omega
  clear h
  go_enter Try.func40, Try.ntmps40
  go_wp2
  go_ret
  exact ⟨rfl, rfl⟩

theorem strip_nl (s : ByteArray) (h : 0 < s.size) (h1 : (((s[0]'h).toNat : Int) == 10) = true) : Strips s (s.extract 1 s.size) := by
  intro w
  have h0 : (0 : Int) < (s.size : Int) := by omega
  go_enter Try.func40, Try.ntmps40
  go_wp2
  go_ret
  exact ⟨rfl, rfl⟩

theorem strip_one (s : ByteArray) (h : 0 < s.size) (h2 : ¬ 1 < s.size) (h1 : (((s[0]'h).toNat : Int) == 10) = false) : Strips s s := by
  intro w
  have h0 : (0 : Int) < (s.size : Int) := by omega
  have h3 : ¬ (1 : Int) < (s.size : Int) := by omega
  go_enter Try.func40, Try.ntmps40
  go_wp2
  go_ret
  exact ⟨rfl, rfl⟩

theorem strip_crlf (s : ByteArray) (h : 0 < s.size) (h2 : 1 < s.size) (h1 : (((s[0]'h).toNat : Int) == 10) = false) (h3 : (((s[0]'h).toNat : Int) == 13) = true) (h4 : (((s[1]'h2).toNat : Int) == 10) = true) : Strips s (s.extract 2 s.size) := by
  intro w
  have h0 : (0 : Int) < (s.size : Int) := by omega
  have h5 : (1 : Int) < (s.size : Int) := by omega
  go_enter Try.func40, Try.ntmps40
  go_wp2
  go_ret
  exact ⟨rfl, rfl⟩

theorem strip_cr (s : ByteArray) (h : 0 < s.size) (h2 : 1 < s.size) (h1 : (((s[0]'h).toNat : Int) == 10) = false) (h3 : (((s[0]'h).toNat : Int) == 13) = true) (h4 : (((s[1]'h2).toNat : Int) == 10) = false) : Strips s s := by
  intro w
  have h0 : (0 : Int) < (s.size : Int) := by omega
  have h5 : (1 : Int) < (s.size : Int) := by omega
  go_enter Try.func40, Try.ntmps40
  go_wp2
  go_ret
  exact ⟨rfl, rfl⟩

theorem strip_other (s : ByteArray) (h : 0 < s.size) (h2 : 1 < s.size) (h1 : (((s[0]'h).toNat : Int) == 10) = false) (h3 : (((s[0]'h).toNat : Int) == 13) = false) : Strips s s := by
  intro w
  have h0 : (0 : Int) < (s.size : Int) := by omega
  have h5 : (1 : Int) < (s.size : Int) := by omega
  go_enter Try.func40, Try.ntmps40
  go_wp2
  go_ret
  exact ⟨rfl, rfl⟩

/-- impl.StripFirstNewline. -/
theorem Strip_any (s r : ByteArray) (w : World) (h : Strips s r) :
    Calls Try.prog 17 #[.string s] w fun e w' => e = .returned (.string r) ∧ w = w' := by
  go_enter Try.func17, Try.ntmps17
  go_wp2_with (first | (go_at_call 30; go_in) | (go_at_call 40; refine (h _).mono ?_; rintro e w' ⟨rfl, rfl⟩))
  go_ret
  exact ⟨rfl, rfl⟩

theorem strip_shown : Strips (ByteArray.mk #[10, 10, 97]) (ByteArray.mk #[10, 97]) :=
  strip_nl (ByteArray.mk #[10, 10, 97]) (by decide) (by decide)

theorem law_strip_large (s : ByteArray) (w : World) (h : 2147483647 < s.size) :
    Calls Try.prog 7 #[.string s] w fun e w' => e = .returned (.bool true) ∧ w = w' := by
  have h0 : (2147483647 : Int) < (s.size : Int) := by omega
  go_enter Try.func7, Try.ntmps7
  go_wp2
  go_ret
  exact ⟨rfl, rfl⟩

theorem law_strip_nl (s : ByteArray) (w : World) (hm : s.size ≤ 2147483647) (h : 0 < s.size) (h1 : (((s[0]'h).toNat : Int) == 10) = true) :
    Calls Try.prog 7 #[.string s] w fun e w' => e = .returned (.bool true) ∧ w = w' := by
  have hs : Strips s (s.extract 1 s.size) := strip_nl s h h1
  have h0 : (0 : Int) < (s.size : Int) := by omega
  have hm' : ¬ (2147483647 : Int) < (s.size : Int) := by omega
  clear hm
  go_enter Try.func7, Try.ntmps7
  go_wp2_with fail
  refine (Strip_any s _ _ hs).mono ?_
  rintro e w' ⟨rfl, rfl⟩
  go_wp2_with fail
  refine (Strip_any _ _ _ strip_shown).mono ?_
  rintro e w' ⟨rfl, rfl⟩
  go_wp2_with fail
  go_ret
  exact ⟨rfl, rfl⟩

theorem two_bytes (s : ByteArray) (h : 0 < s.size) (h2 : 1 < s.size) : (s.extract 0 2).toList = [s[0]'h, s[1]'h2] := by
  obtain ⟨⟨l⟩⟩ := s
  match l, h, h2 with
  | a :: b :: r, _, _ =>
    rw [ByteArray.toList_eq]
    simp [ByteArray.extract_mk]
    constructor <;> rfl

theorem byte_of (b : UInt8) (k : Nat) (hk : k < 256) (h : ((b.toNat : Int) == k) = true) : b = UInt8.ofNat k := by
  have h1 : (b.toNat : Int) = k := by simpa using h
  apply UInt8.toNat_inj.mp
  rw [UInt8.toNat_ofNat']
  omega
theorem byte_ne (b : UInt8) (k : Nat) (hk : k < 256) (h : ((b.toNat : Int) == k) = false) : b ≠ UInt8.ofNat k := by
  intro e
  subst e
  rw [UInt8.toNat_ofNat'] at h
  have h2 : k % 2 ^ 8 = k := by omega
  rw [h2] at h
  simp at h

theorem crlf_yes (s : ByteArray) (h : 0 < s.size) (h2 : 1 < s.size) (h3 : (((s[0]'h).toNat : Int) == 13) = true) (h4 : (((s[1]'h2).toNat : Int) == 10) = true) :
    ((s.extract 0 2).toList == [13, 10]) = true := by
  rw [two_bytes s h h2, byte_of _ 13 (by decide) h3, byte_of _ 10 (by decide) h4]
  decide
theorem crlf_no1 (s : ByteArray) (h : 0 < s.size) (h2 : 1 < s.size) (h3 : (((s[0]'h).toNat : Int) == 13) = false) :
    ((s.extract 0 2).toList == [13, 10]) = false := by
  rw [two_bytes s h h2]
  have e := byte_ne _ 13 (by decide) h3
  have e' : (s[0]'h == 13) = false := beq_eq_false_iff_ne.mpr e
  simp [e']
theorem crlf_no2 (s : ByteArray) (h : 0 < s.size) (h2 : 1 < s.size) (h3 : (((s[1]'h2).toNat : Int) == 10) = false) :
    ((s.extract 0 2).toList == [13, 10]) = false := by
  rw [two_bytes s h h2]
  have e := byte_ne _ 10 (by decide) h3
  simp
  intro _ a
  exact absurd a e

theorem law_strip_empty (s : ByteArray) (w : World) (hm : s.size ≤ 2147483647) (h : s.size = 0) :
    Calls Try.prog 7 #[.string s] w fun e w' => e = .returned (.bool true) ∧ w = w' := by
  have hs := strip_empty s h
  have hm' : ¬ (2147483647 : Int) < (s.size : Int) := by omega
  have h0 : ¬ (0 : Int) < (s.size : Int) := by omega
  have h1 : ¬ (1 : Int) < (s.size : Int) := by omega
  clear h
  clear hm
  go_enter Try.func7, Try.ntmps7
  go_wp2_with fail
  refine (Strip_any s _ _ hs).mono ?_
  rintro e w' ⟨rfl, rfl⟩
  go_wp2_with fail
  refine (Strip_any _ _ _ strip_shown).mono ?_
  rintro e w' ⟨rfl, rfl⟩
  go_wp2_with fail
  go_ret
  exact ⟨rfl, rfl⟩

theorem law_strip_one (s : ByteArray) (w : World) (hm : s.size ≤ 2147483647) (h : 0 < s.size) (h2 : ¬ 1 < s.size) (h1 : (((s[0]'h).toNat : Int) == 10) = false)  :
    Calls Try.prog 7 #[.string s] w fun e w' => e = .returned (.bool true) ∧ w = w' := by
  have hs := strip_one s h h2 h1
  have hm' : ¬ (2147483647 : Int) < (s.size : Int) := by omega
  have h0 : (0 : Int) < (s.size : Int) := by omega
  have h3 : ¬ (1 : Int) < (s.size : Int) := by omega
  clear hm
  go_enter Try.func7, Try.ntmps7
  go_wp2_with fail
  refine (Strip_any s _ _ hs).mono ?_
  rintro e w' ⟨rfl, rfl⟩
  go_wp2_with fail
  refine (Strip_any _ _ _ strip_shown).mono ?_
  rintro e w' ⟨rfl, rfl⟩
  go_wp2_with fail
  go_ret
  exact ⟨rfl, rfl⟩

theorem law_strip_crlf (s : ByteArray) (w : World) (hm : s.size ≤ 2147483647) (h : 0 < s.size) (h2 : 1 < s.size) (h1 : (((s[0]'h).toNat : Int) == 10) = false) (h3 : (((s[0]'h).toNat : Int) == 13) = true) (h4 : (((s[1]'h2).toNat : Int) == 10) = true) :
    Calls Try.prog 7 #[.string s] w fun e w' => e = .returned (.bool true) ∧ w = w' := by
  have hs := strip_crlf s h h2 h1 h3 h4
  have hm' : ¬ (2147483647 : Int) < (s.size : Int) := by omega
  have h0 : (0 : Int) < (s.size : Int) := by omega
  have h5 : (1 : Int) < (s.size : Int) := by omega
  have h6 := crlf_yes s h h2 h3 h4
  clear hm
  go_enter Try.func7, Try.ntmps7
  go_wp2_with fail
  refine (Strip_any s _ _ hs).mono ?_
  rintro e w' ⟨rfl, rfl⟩
  go_wp2_with fail
  refine (Strip_any _ _ _ strip_shown).mono ?_
  rintro e w' ⟨rfl, rfl⟩
  go_wp2_with fail
  go_ret
  exact ⟨rfl, rfl⟩

theorem law_strip_cr (s : ByteArray) (w : World) (hm : s.size ≤ 2147483647) (h : 0 < s.size) (h2 : 1 < s.size) (h1 : (((s[0]'h).toNat : Int) == 10) = false) (h3 : (((s[0]'h).toNat : Int) == 13) = true) (h4 : (((s[1]'h2).toNat : Int) == 10) = false) :
    Calls Try.prog 7 #[.string s] w fun e w' => e = .returned (.bool true) ∧ w = w' := by
  have hs := strip_cr s h h2 h1 h3 h4
  have hm' : ¬ (2147483647 : Int) < (s.size : Int) := by omega
  have h0 : (0 : Int) < (s.size : Int) := by omega
  have h5 : (1 : Int) < (s.size : Int) := by omega
  have h6 := crlf_no2 s h h2 h4
  clear hm
  go_enter Try.func7, Try.ntmps7
  go_wp2_with fail
  refine (Strip_any s _ _ hs).mono ?_
  rintro e w' ⟨rfl, rfl⟩
  go_wp2_with fail
  refine (Strip_any _ _ _ strip_shown).mono ?_
  rintro e w' ⟨rfl, rfl⟩
  go_wp2_with fail
  go_ret
  exact ⟨rfl, rfl⟩

theorem law_strip_other (s : ByteArray) (w : World) (hm : s.size ≤ 2147483647) (h : 0 < s.size) (h2 : 1 < s.size) (h1 : (((s[0]'h).toNat : Int) == 10) = false) (h3 : (((s[0]'h).toNat : Int) == 13) = false) :
    Calls Try.prog 7 #[.string s] w fun e w' => e = .returned (.bool true) ∧ w = w' := by
  have hs := strip_other s h h2 h1 h3
  have hm' : ¬ (2147483647 : Int) < (s.size : Int) := by omega
  have h0 : (0 : Int) < (s.size : Int) := by omega
  have h5 : (1 : Int) < (s.size : Int) := by omega
  have h6 := crlf_no1 s h h2 h3
  clear hm
  go_enter Try.func7, Try.ntmps7
  go_wp2_with fail
  refine (Strip_any s _ _ hs).mono ?_
  rintro e w' ⟨rfl, rfl⟩
  go_wp2_with fail
  refine (Strip_any _ _ _ strip_shown).mono ?_
  rintro e w' ⟨rfl, rfl⟩
  go_wp2_with fail
  go_ret
  exact ⟨rfl, rfl⟩

/-- The law, at every string. -/
theorem law_strip (s : ByteArray) (w : World) :
    Calls Try.prog 7 #[.string s] w fun e w' => e = .returned (.bool true) ∧ w = w' := by
  by_cases hm : s.size ≤ 2147483647
  · by_cases h : 0 < s.size
    · by_cases h1 : (((s[0]'h).toNat : Int) == 10) = true
      · exact law_strip_nl s w hm h h1
      · have h1' : (((s[0]'h).toNat : Int) == 10) = false := by simpa using h1
        by_cases h2 : 1 < s.size
        · by_cases h3 : (((s[0]'h).toNat : Int) == 13) = true
          · by_cases h4 : (((s[1]'h2).toNat : Int) == 10) = true
            · exact law_strip_crlf s w hm h h2 h1' h3 h4
            · exact law_strip_cr s w hm h h2 h1' h3 (by simpa using h4)
          · exact law_strip_other s w hm h h2 h1' (by simpa using h3)
        · exact law_strip_one s w hm h h2 h1'
    · exact law_strip_empty s w hm (by omega)
  · exact law_strip_large s w (by omega)
end Go.Proofs.Ytfjdgfhfpcbcfaa
