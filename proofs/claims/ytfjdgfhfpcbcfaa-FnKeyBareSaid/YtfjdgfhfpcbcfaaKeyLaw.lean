/-
  The law FnKeyBare returns true at every slice of strings. Condition: the slice is empty, or its strings stand in memory.
-/
import Derived.Test.YtfjdgfhfpcbcfaaKtx
namespace Go.Proofs.Ytfjdgfhfpcbcfaa
open Go Go.RowKit
set_option linter.unusedVariables false

set_option maxRecDepth 100000 in
theorem law_key_zero (a : Option Addr) (cap : Nat) (w : World) :
    Calls Try.prog 12 #[.slice a 0 cap] w fun e w' => e = .returned (.bool true) ∧ Below w.heap.size w w' := by
  go_enter Try.func12, Try.ntmps12
  go_wp2_with fail
  refine (fits_zero _ _ _).mono ?_
  rintro e w' ⟨rfl, rfl⟩
  go_wp2_with fail
  refine (keyed_any _).mono ?_
  rintro e w1 ⟨rfl, hb1⟩
  go_wp2_with fail
  go_ret
  exact ⟨rfl, hb1⟩

set_option maxHeartbeats 400000 in
set_option maxRecDepth 100000 in
theorem law_key_large (b off n cap : Nat) (f : Nat → ByteArray) (w : World) (hrow : StrRow w b off n f) (hn : n ≤ cap) (hcap : cap ≤ 9223372036854775807) (hno : ¬ AllFit n f) :
    Calls Try.prog 12 #[.slice (some ⟨b, off, none⟩) n cap] w fun e w' => e = .returned (.bool true) ∧ Below w.heap.size w w' := by
  have HR : Hid (StrRow w b off n f) := hrow
  have HF : Hid (¬ AllFit n f) := hno
  clear hrow hno
  go_enter Try.func12, Try.ntmps12
  go_wp2_with fail
  refine (fits_any b off n cap f false _ HR.out hn hcap ⟨fun a => (by cases a), fun a => absurd a HF.out⟩).mono ?_
  rintro e w' ⟨rfl, rfl⟩
  go_wp2_with fail
  go_ret
  exact ⟨rfl, Below.refl _ _⟩

set_option maxHeartbeats 400000 in
set_option maxRecDepth 100000 in
theorem law_key_count (b off n cap : Nat) (f : Nat → ByteArray) (w : World) (hrow : StrRow w b off n f) (hn : n ≤ cap) (hcap : cap ≤ 9223372036854775807) (hfit : AllFit n f) (hcount : n < 1 ∨ 20 < n) :
    Calls Try.prog 12 #[.slice (some ⟨b, off, none⟩) n cap] w fun e w' => e = .returned (.bool true) ∧ Below w.heap.size w w' := by
  have HR : Hid (StrRow w b off n f) := hrow
  have HF : Hid (AllFit n f) := hfit
  clear hrow hfit
  by_cases hlow : n < 1
  · have g1 : (n : Int) < 1 := by omega
    go_enter Try.func12, Try.ntmps12
    go_wp2_with fail
    refine (fits_any b off n cap f true _ HR.out hn hcap ⟨fun _ => HF.out, fun _ => rfl⟩).mono ?_
    rintro e w' ⟨rfl, rfl⟩
    go_wp2_with fail
    refine (keyed_any _).mono ?_
    rintro e w1 ⟨rfl, hb1⟩
    go_wp2_with fail
    go_ret
    exact ⟨rfl, hb1⟩
  · have g1 : ¬ (n : Int) < 1 := by omega
    have g2 : (20 : Int) < (n : Int) := by omega
    go_enter Try.func12, Try.ntmps12
    go_wp2_with fail
    refine (fits_any b off n cap f true _ HR.out hn hcap ⟨fun _ => HF.out, fun _ => rfl⟩).mono ?_
    rintro e w' ⟨rfl, rfl⟩
    go_wp2_with fail
    refine (keyed_any _).mono ?_
    rintro e w1 ⟨rfl, hb1⟩
    go_wp2_with fail
    go_ret
    exact ⟨rfl, hb1⟩

theorem text_of (v : ByteArray) (l : List UInt8) (h : v.data.toList = l) : v = ⟨l.toArray⟩ := by
  subst h
  obtain ⟨⟨x⟩⟩ := v
  rfl
theorem text_size (v : ByteArray) : v.data.toList.length = v.size := by simp

set_option maxHeartbeats 2000000 in
set_option maxRecDepth 100000 in
theorem law_key_some (b off n cap : Nat) (f : Nat → ByteArray) (w : World) (hrow : StrRow w b off n f) (hblk : b < w.heap.size) (hn : n ≤ cap) (hcap : cap ≤ 9223372036854775807) (hfit : AllFit n f) (h1 : 1 ≤ n) (h20 : n ≤ 20) :
    Calls Try.prog 12 #[.slice (some ⟨b, off, none⟩) n cap] w fun e w' => e = .returned (.bool true) ∧ Below w.heap.size w w' := by
  have HR : Hid (StrRow w b off n f) := hrow
  have HF : Hid (AllFit n f) := hfit
  have HFIT : Hid (∀ i, i < n → (f i).size ≤ 2147483647) := hfit.2
  clear hrow hfit
  have g1 : ¬ (n : Int) < 1 := by omega
  have g2 : ¬ (20 : Int) < (n : Int) := by omega
  go_enter Try.func12, Try.ntmps12
  go_wp2_with fail
  refine (fits_any b off n cap f true _ HR.out hn hcap ⟨fun _ => HF.out, fun _ => rfl⟩).mono ?_
  rintro e w' ⟨rfl, rfl⟩
  go_wp2_with fail
  go_loop [3, 20] (fun p i => ∃ (k : Nat) (v : ByteArray), k ≤ n ∧ i = .int .i64 k ∧ p = .string v ∧ Hid (v.data.toList = joined f k) ∧ Hid (∀ i, i < k → BareText (f i) ∧ (f i).size ≤ 1000)) (fun _ i => n - (intOf i).toNat)
  case atStart => exact ⟨0, ByteArray.mk #[], Nat.zero_le _, rfl, rfl, rfl, fun i h => by omega⟩
  case round =>
    obtain ⟨k, v, hk, rfl, rfl, HV, hd⟩ := hrel
    by_cases hlt : k < n
    · have hc := HR.out k hlt
      have hsz := HFIT.out k hlt
      have hvs : v.size ≤ 1001 * 20 := by
        have e := joined_length f k (fun i hi => (hd.out i hi).2) k (Nat.le_refl _)
        rw [← HV.out, text_size] at e
        omega
      have HD : Hid (BareText (f k) → (f k).size ≤ 1000 → ∀ i, i < k + 1 → BareText (f i) ∧ (f i).size ≤ 1000) := by
        intro a1 a2 i hi
        by_cases e : i = k
        · subst e; exact ⟨a1, a2⟩
        · exact hd.out i (by omega)
      have HSTEP : Hid (joined f (k + 1) = joined f k ++ (if 0 < k then [46] else []) ++ (f k).data.toList) := rfl
      generalize f k = s at hc hsz HD HSTEP
      by_cases hbare : BareText s
      · by_cases hlen : 1000 < s.size
        · have gl : (1000 : Int) < (s.size : Int) := by omega
          have HB : Hid (BareText s) := hbare
          clear hbare hlen
          go_wp2_with fail
          refine (bare_text s true _ (by omega) ⟨fun _ => HB.out, fun _ => rfl⟩).mono ?_
          rintro e w' ⟨rfl, rfl⟩
          go_wp2_with fail
          refine (keyed_any _).mono ?_
          rintro e w1 ⟨rfl, hb1⟩
          go_wp2_with fail
          go_ret
          exact ⟨rfl, hb1⟩
        · have gl : ¬ (1000 : Int) < (s.size : Int) := by omega
          have HB : Hid (BareText s) := hbare
          have HD2 : Hid (∀ i, i < k + 1 → BareText (f i) ∧ (f i).size ≤ 1000) := HD.out hbare (by omega)
          clear hbare hlen HD hd
          have hone : (ByteArray.mk #[46]).size = 1 := rfl
          by_cases hk0 : 0 < k
          · have fk : (0 : Int) < (k : Int) := by omega
            have HNEXT : Hid ((v ++ ByteArray.mk #[46] ++ s).data.toList = joined f (k + 1)) := by
              have e := HSTEP.out
              rw [if_pos hk0, ← HV.out] at e
              show _ = _
              rw [e]
              simp
            have hs1 : v.size + (ByteArray.mk #[46]).size ≤ 9223372036854775807 := by omega
            have hs2 : v.size + 1 + s.size ≤ 9223372036854775807 := by omega
            clear HSTEP hk0 hone
            go_wp2_with fail
            refine (bare_text s true _ (by omega) ⟨fun _ => HB.out, fun _ => rfl⟩).mono ?_
            rintro e w' ⟨rfl, rfl⟩
            go_wp2_with fail
            go_round
            case rel => exact ⟨k + 1, _, by omega, by go_num, rfl, HNEXT, HD2⟩
            case measure => simp [intOf]; omega
          · have fk : ¬ (0 : Int) < (k : Int) := by omega
            have HNEXT : Hid ((v ++ s).data.toList = joined f (k + 1)) := by
              have e := HSTEP.out
              rw [if_neg hk0, ← HV.out, List.append_nil] at e
              show _ = _
              rw [e]
              simp
            have hs2 : v.size + s.size ≤ 9223372036854775807 := by omega
            clear HSTEP hk0 hone
            go_wp2_with fail
            refine (bare_text s true _ (by omega) ⟨fun _ => HB.out, fun _ => rfl⟩).mono ?_
            rintro e w' ⟨rfl, rfl⟩
            go_wp2_with fail
            go_round
            case rel => exact ⟨k + 1, _, by omega, by go_num, rfl, HNEXT, HD2⟩
            case measure => simp [intOf]; omega
      · have HB : Hid (¬ BareText s) := hbare
        clear hbare
        go_wp2_with fail
        refine (bare_text s false _ (by omega) ⟨fun a => (by cases a), fun a => absurd a HB.out⟩).mono ?_
        rintro e w' ⟨rfl, rfl⟩
        go_wp2_with fail
        refine (keyed_any _).mono ?_
        rintro e w1 ⟨rfl, hb1⟩
        go_wp2_with fail
        go_ret
        exact ⟨rfl, hb1⟩
    · obtain rfl : k = n := by omega
      obtain rfl := text_of v _ HV.out
      have HB1 : Hid (∀ i, i < k → BareText (f i)) := fun i hi => (hd.out i hi).1
      have HB2 : Hid (∀ i, i < k → (f i).size ≤ 1000) := fun i hi => (hd.out i hi).2
      clear HV hd hlt HF HFIT
      go_wp2_with fail
      refine (key_text b off k cap f _ HR.out hblk h20 h1 HB1.out HB2.out).mono ?_
      rintro e w1 ⟨rfl, hb1⟩
      go_wp2_with fail
      refine (keyed_any _).mono ?_
      rintro e w2 ⟨rfl, hb2⟩
      go_wp2_with fail
      go_ret
      exact ⟨rfl, hb1.trans (hb2.mono hb1.size)⟩

theorem law_key (b off n cap : Nat) (f : Nat → ByteArray) (w : World) (hrow : StrRow w b off n f) (hblk : b < w.heap.size) (hn : n ≤ cap) (hcap : cap ≤ 9223372036854775807) :
    Calls Try.prog 12 #[.slice (some ⟨b, off, none⟩) n cap] w fun e w' => e = .returned (.bool true) ∧ Below w.heap.size w w' := by
  by_cases hfit : AllFit n f
  · by_cases h1 : 1 ≤ n
    · by_cases h20 : n ≤ 20
      · exact law_key_some b off n cap f w hrow hblk hn hcap hfit h1 h20
      · exact law_key_count b off n cap f w hrow hn hcap hfit (.inr (by omega))
    · exact law_key_count b off n cap f w hrow hn hcap hfit (.inl (by omega))
  · exact law_key_large b off n cap f w hrow hn hcap hfit
end Go.Proofs.Ytfjdgfhfpcbcfaa
