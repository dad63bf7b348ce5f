/-
  The law FnExactLeadingZero returns true. No condition (law_lz).
-/
import Derived.Test.YtfjdgfhfpcbcfaaLz
import Derived.Test.YtfjdgfhfpcbcfaaRow
import Derived.LoopTactic
namespace Go.Proofs.Ytfjdgfhfpcbcfaa
open Go Go.RowKit
set_option linter.unusedVariables false

theorem law_lz_large (s : ByteArray) (w : World) (h : 2147483647 < s.size) :
    Calls Try.prog 6 #[.string s] w fun e w' => e = .returned (.bool true) ∧ Below w.heap.size w w' := by
  have h0 : (2147483647 : Int) < (s.size : Int) := by omega
  go_enter Try.func6, Try.ntmps6
  go_wp2
  go_ret
  exact ⟨rfl, Below.refl _ _⟩

theorem not_empty (s : ByteArray) (h : 0 < s.size) : s.toList.isEmpty = false := by
  rw [ByteArray.toList_eq, List.isEmpty_eq_false_iff]
  intro e
  have : s.size = s.data.toList.length := by simp
  rw [e, List.length_nil] at this
  omega
theorem is_empty (s : ByteArray) (h : s.size = 0) : s.toList.isEmpty = true := by
  rw [ByteArray.toList_eq]
  have : s.data.toList = [] := List.eq_nil_of_length_eq_zero (by simpa using h)
  rw [this]
  rfl

theorem slice_tail (s : ByteArray) (h : 0 < s.size) (w : World) : (Instr.slice 9 (.string s) (some (.int .i64 1)) none none).run Try.prog w = .ok (.string (s.extract 1 s.size)) w := by
  rw [run_slice_string_from_if w 9 s .i64 1 Try.underlying9, if_pos ⟨by omega, by omega⟩]
  rfl

set_option maxHeartbeats 1000000 in
set_option maxRecDepth 100000 in
theorem law_lz_empty (s : ByteArray) (w : World) (hm : s.size ≤ 2147483647) (he : s.size = 0) :
    Calls Try.prog 6 #[.string s] w fun e w' => e = .returned (.bool true) ∧ Below w.heap.size w w' := by
  have h0 : ¬ (2147483647 : Int) < (s.size : Int) := by omega
  have hne : s.toList.isEmpty = true := is_empty s he
  clear he
  obtain ⟨cap, W, hcv, hbel, hsize, hcell, hfree⟩ := bytes_of (P := Try.prog) 9 23 5 s w Try.underlying9 Try.underlying23 Try.underlying5
  have HB : Hid (Below w.heap.size w W) := hbel
  have HC : Hid (∀ i (h : i < s.size), W.cell? ⟨w.heap.size, i, none⟩ = some (.int .u8 ((s[i]'h).toNat : Int))) := hcell
  clear hbel hsize hcell hfree
  go_enter Try.func6, Try.ntmps6
  go_wp2_with fail
  go_loop [27] (fun i => ∃ k : Nat, k ≤ s.size ∧ i = .int .i64 k ∧ Hid (∀ i (h : i < s.size), i < k → 48 ≤ (s[i]'h).toNat ∧ (s[i]'h).toNat ≤ 57)) (fun i => s.size - (intOf i).toNat)
  case atStart => exact ⟨0, Nat.zero_le _, rfl, fun i h h0 => by omega⟩
  case round =>
    clear hne hcv
    obtain ⟨k, hk, rfl, hd⟩ := hrel
    by_cases hlt : k < s.size
    · have hc := HC.out k hlt
      by_cases ha : ((s[k]'hlt).toNat : Int) < 48
      · go_wp2_with fail
        refine (Lz_any _ true _ lz_shown_yes).mono ?_
        rintro e w' ⟨rfl, rfl⟩
        go_wp2_with fail
        refine (Lz_any _ false _ lz_shown_no).mono ?_
        rintro e w' ⟨rfl, rfl⟩
        go_wp2_with fail
        go_ret
        exact ⟨rfl, HB.out⟩
      · by_cases hb : 57 < ((s[k]'hlt).toNat : Int)
        · go_wp2_with fail
          refine (Lz_any _ true _ lz_shown_yes).mono ?_
          rintro e w' ⟨rfl, rfl⟩
          go_wp2_with fail
          refine (Lz_any _ false _ lz_shown_no).mono ?_
          rintro e w' ⟨rfl, rfl⟩
          go_wp2_with fail
          go_ret
          exact ⟨rfl, HB.out⟩
        · have HD : Hid (∀ i (h : i < s.size), i < k + 1 → 48 ≤ (s[i]'h).toNat ∧ (s[i]'h).toNat ≤ 57) := by
            intro i h hi
            by_cases e : i = k
            · subst e; omega
            · exact hd.out i h (by omega)
          go_wp2_with fail
          go_round
          case rel => exact ⟨k + 1, by omega, by go_num, HD⟩
          case measure => simp [intOf]; omega
    · obtain rfl : k = s.size := by omega
      have hdig : Digits s := fun i h => hd.out i h h
      have HDIG : Hid (Digits s) := hdig
      clear hdig hd hlt hk HC
      by_cases h1 : 1 < s.size
      · have g1 : (1 : Int) < (s.size : Int) := by omega
        by_cases h48 : (s[0]'(by omega)).toNat = 48
        · have HS : LzSays s true := lz_digits s true HDIG.out ⟨fun _ => ⟨h1, h48⟩, fun _ => rfl⟩
          have f48 : (((s[0]'(by omega)).toNat : Int) == 48) = true := eq_yes (by omega)
          clear h48
          go_wp2_with fail
          refine (Lz_any s true _ HS).mono ?_
          rintro e w' ⟨rfl, rfl⟩
          go_wp2_with fail
          refine (Lz_any _ true _ lz_shown_yes).mono ?_
          rintro e w' ⟨rfl, rfl⟩
          go_wp2_with fail
          refine (Lz_any _ false _ lz_shown_no).mono ?_
          rintro e w' ⟨rfl, rfl⟩
          go_wp2_with fail
          go_ret
          exact ⟨rfl, HB.out⟩
        · have HS : LzSays s false := lz_digits s false HDIG.out ⟨fun a => (by cases a), fun ⟨_, e⟩ => absurd e h48⟩
          have f48 : (((s[0]'(by omega)).toNat : Int) == 48) = false := eq_no (by omega)
          clear h48
          go_wp2_with fail
          refine (Lz_any s false _ HS).mono ?_
          rintro e w' ⟨rfl, rfl⟩
          go_wp2_with fail
          refine (Lz_any _ true _ lz_shown_yes).mono ?_
          rintro e w' ⟨rfl, rfl⟩
          go_wp2_with fail
          refine (Lz_any _ false _ lz_shown_no).mono ?_
          rintro e w' ⟨rfl, rfl⟩
          go_wp2_with fail
          go_ret
          exact ⟨rfl, HB.out⟩
      · have g1 : ¬ (1 : Int) < (s.size : Int) := by omega
        have HS : LzSays s false := lz_digits s false HDIG.out ⟨fun a => (by cases a), fun ⟨a, _⟩ => absurd a h1⟩
        go_wp2_with fail
        refine (Lz_any s false _ HS).mono ?_
        rintro e w' ⟨rfl, rfl⟩
        go_wp2_with fail
        refine (Lz_any _ true _ lz_shown_yes).mono ?_
        rintro e w' ⟨rfl, rfl⟩
        go_wp2_with fail
        refine (Lz_any _ false _ lz_shown_no).mono ?_
        rintro e w' ⟨rfl, rfl⟩
        go_wp2_with fail
        go_ret
        exact ⟨rfl, HB.out⟩

set_option maxHeartbeats 1000000 in
set_option maxRecDepth 100000 in
theorem law_lz_bare (s : ByteArray) (w : World) (hm : s.size ≤ 2147483647) (hp : 0 < s.size) (n1 : (s[0]'hp).toNat ≠ 43) (n2 : (s[0]'hp).toNat ≠ 45) :
    Calls Try.prog 6 #[.string s] w fun e w' => e = .returned (.bool true) ∧ Below w.heap.size w w' := by
  have h0 : ¬ (2147483647 : Int) < (s.size : Int) := by omega
  have hne : s.toList.isEmpty = false := not_empty s hp
  have e1 : (((s[0]'hp).toNat : Int) == 43) = false := eq_no (by omega)
  have e2 : (((s[0]'hp).toNat : Int) == 45) = false := eq_no (by omega)
  clear n1 n2
  obtain ⟨cap, W, hcv, hbel, hsize, hcell, hfree⟩ := bytes_of (P := Try.prog) 9 23 5 s w Try.underlying9 Try.underlying23 Try.underlying5
  have HB : Hid (Below w.heap.size w W) := hbel
  have HC : Hid (∀ i (h : i < s.size), W.cell? ⟨w.heap.size, i, none⟩ = some (.int .u8 ((s[i]'h).toNat : Int))) := hcell
  clear hbel hsize hcell hfree
  go_enter Try.func6, Try.ntmps6
  go_wp2_with fail
  go_loop [27] (fun i => ∃ k : Nat, k ≤ s.size ∧ i = .int .i64 k ∧ Hid (∀ i (h : i < s.size), i < k → 48 ≤ (s[i]'h).toNat ∧ (s[i]'h).toNat ≤ 57)) (fun i => s.size - (intOf i).toNat)
  case atStart => exact ⟨0, Nat.zero_le _, rfl, fun i h h0 => by omega⟩
  case round =>
    clear hne hcv e1 e2
    obtain ⟨k, hk, rfl, hd⟩ := hrel
    by_cases hlt : k < s.size
    · have hc := HC.out k hlt
      by_cases ha : ((s[k]'hlt).toNat : Int) < 48
      · go_wp2_with fail
        refine (Lz_any _ true _ lz_shown_yes).mono ?_
        rintro e w' ⟨rfl, rfl⟩
        go_wp2_with fail
        refine (Lz_any _ false _ lz_shown_no).mono ?_
        rintro e w' ⟨rfl, rfl⟩
        go_wp2_with fail
        go_ret
        exact ⟨rfl, HB.out⟩
      · by_cases hb : 57 < ((s[k]'hlt).toNat : Int)
        · go_wp2_with fail
          refine (Lz_any _ true _ lz_shown_yes).mono ?_
          rintro e w' ⟨rfl, rfl⟩
          go_wp2_with fail
          refine (Lz_any _ false _ lz_shown_no).mono ?_
          rintro e w' ⟨rfl, rfl⟩
          go_wp2_with fail
          go_ret
          exact ⟨rfl, HB.out⟩
        · have HD : Hid (∀ i (h : i < s.size), i < k + 1 → 48 ≤ (s[i]'h).toNat ∧ (s[i]'h).toNat ≤ 57) := by
            intro i h hi
            by_cases e : i = k
            · subst e; omega
            · exact hd.out i h (by omega)
          go_wp2_with fail
          go_round
          case rel => exact ⟨k + 1, by omega, by go_num, HD⟩
          case measure => simp [intOf]; omega
    · obtain rfl : k = s.size := by omega
      have hdig : Digits s := fun i h => hd.out i h h
      have HDIG : Hid (Digits s) := hdig
      clear hdig hd hlt hk HC
      by_cases h1 : 1 < s.size
      · have g1 : (1 : Int) < (s.size : Int) := by omega
        by_cases h48 : (s[0]'(by omega)).toNat = 48
        · have HS : LzSays s true := lz_digits s true HDIG.out ⟨fun _ => ⟨h1, h48⟩, fun _ => rfl⟩
          have f48 : (((s[0]'(by omega)).toNat : Int) == 48) = true := eq_yes (by omega)
          clear h48
          go_wp2_with fail
          refine (Lz_any s true _ HS).mono ?_
          rintro e w' ⟨rfl, rfl⟩
          go_wp2_with fail
          refine (Lz_any _ true _ lz_shown_yes).mono ?_
          rintro e w' ⟨rfl, rfl⟩
          go_wp2_with fail
          refine (Lz_any _ false _ lz_shown_no).mono ?_
          rintro e w' ⟨rfl, rfl⟩
          go_wp2_with fail
          go_ret
          exact ⟨rfl, HB.out⟩
        · have HS : LzSays s false := lz_digits s false HDIG.out ⟨fun a => (by cases a), fun ⟨_, e⟩ => absurd e h48⟩
          have f48 : (((s[0]'(by omega)).toNat : Int) == 48) = false := eq_no (by omega)
          clear h48
          go_wp2_with fail
          refine (Lz_any s false _ HS).mono ?_
          rintro e w' ⟨rfl, rfl⟩
          go_wp2_with fail
          refine (Lz_any _ true _ lz_shown_yes).mono ?_
          rintro e w' ⟨rfl, rfl⟩
          go_wp2_with fail
          refine (Lz_any _ false _ lz_shown_no).mono ?_
          rintro e w' ⟨rfl, rfl⟩
          go_wp2_with fail
          go_ret
          exact ⟨rfl, HB.out⟩
      · have g1 : ¬ (1 : Int) < (s.size : Int) := by omega
        have HS : LzSays s false := lz_digits s false HDIG.out ⟨fun a => (by cases a), fun ⟨a, _⟩ => absurd a h1⟩
        go_wp2_with fail
        refine (Lz_any s false _ HS).mono ?_
        rintro e w' ⟨rfl, rfl⟩
        go_wp2_with fail
        refine (Lz_any _ true _ lz_shown_yes).mono ?_
        rintro e w' ⟨rfl, rfl⟩
        go_wp2_with fail
        refine (Lz_any _ false _ lz_shown_no).mono ?_
        rintro e w' ⟨rfl, rfl⟩
        go_wp2_with fail
        go_ret
        exact ⟨rfl, HB.out⟩

set_option maxHeartbeats 1000000 in
set_option maxRecDepth 100000 in
theorem law_lz_plus (s d : ByteArray) (w : World) (hm : s.size ≤ 2147483647) (hp : 0 < s.size) (n1 : (s[0]'hp).toNat = 43) (hsl : ∀ w : World, (Instr.slice 9 (.string s) (some (.int .i64 1)) none none).run Try.prog w = .ok (.string d) w) (ht : Tail s d) :
    Calls Try.prog 6 #[.string s] w fun e w' => e = .returned (.bool true) ∧ Below w.heap.size w w' := by
  have h0 : ¬ (2147483647 : Int) < (s.size : Int) := by omega
  have hne : s.toList.isEmpty = false := not_empty s hp
  have e1 : (((s[0]'hp).toNat : Int) == 43) = true := eq_yes (by omega)
  have hdm : d.size ≤ 2147483647 := by have := ht.size; omega
  have HT : Hid (Tail s d) := ht
  have HG : Hid ((s[0]'hp).toNat = 43 ∨ (s[0]'hp).toNat = 45) := .inl n1
  clear n1 ht
  obtain ⟨cap, W, hcv, hbel, hsize, hcell, hfree⟩ := bytes_of (P := Try.prog) 9 23 5 d w Try.underlying9 Try.underlying23 Try.underlying5
  have HB : Hid (Below w.heap.size w W) := hbel
  have HC : Hid (∀ i (h : i < d.size), W.cell? ⟨w.heap.size, i, none⟩ = some (.int .u8 ((d[i]'h).toNat : Int))) := hcell
  clear hbel hsize hcell hfree
  go_enter Try.func6, Try.ntmps6
  go_wp2_with fail
  go_loop [27] (fun i => ∃ k : Nat, k ≤ d.size ∧ i = .int .i64 k ∧ Hid (∀ i (h : i < d.size), i < k → 48 ≤ (d[i]'h).toNat ∧ (d[i]'h).toNat ≤ 57)) (fun i => d.size - (intOf i).toNat)
  case atStart => exact ⟨0, Nat.zero_le _, rfl, fun i h h0 => by omega⟩
  case round =>
    clear hne hcv e1 hsl
    obtain ⟨k, hk, rfl, hd⟩ := hrel
    by_cases hlt : k < d.size
    · have hc := HC.out k hlt
      by_cases ha : ((d[k]'hlt).toNat : Int) < 48
      · go_wp2_with fail
        refine (Lz_any _ true _ lz_shown_yes).mono ?_
        rintro e w' ⟨rfl, rfl⟩
        go_wp2_with fail
        refine (Lz_any _ false _ lz_shown_no).mono ?_
        rintro e w' ⟨rfl, rfl⟩
        go_wp2_with fail
        go_ret
        exact ⟨rfl, HB.out⟩
      · by_cases hb : 57 < ((d[k]'hlt).toNat : Int)
        · go_wp2_with fail
          refine (Lz_any _ true _ lz_shown_yes).mono ?_
          rintro e w' ⟨rfl, rfl⟩
          go_wp2_with fail
          refine (Lz_any _ false _ lz_shown_no).mono ?_
          rintro e w' ⟨rfl, rfl⟩
          go_wp2_with fail
          go_ret
          exact ⟨rfl, HB.out⟩
        · have HD : Hid (∀ i (h : i < d.size), i < k + 1 → 48 ≤ (d[i]'h).toNat ∧ (d[i]'h).toNat ≤ 57) := by
            intro i h hi
            by_cases e : i = k
            · subst e; omega
            · exact hd.out i h (by omega)
          go_wp2_with fail
          go_round
          case rel => exact ⟨k + 1, by omega, by go_num, HD⟩
          case measure => simp [intOf]; omega
    · obtain rfl : k = d.size := by omega
      have hdig : Digits d := fun i h => hd.out i h h
      have HDIG : Hid (Digits d) := hdig
      clear hdig hd hlt hk HC
      by_cases h1 : 1 < d.size
      · have g1 : (1 : Int) < (d.size : Int) := by omega
        by_cases h48 : (d[0]'(by omega)).toNat = 48
        · have HS : LzSays s true := lz_signed s d (hp := hp) (ht := HT.out) (hsign := HG.out) true HDIG.out ⟨fun _ => ⟨h1, h48⟩, fun _ => rfl⟩
          have f48 : (((d[0]'(by omega)).toNat : Int) == 48) = true := eq_yes (by omega)
          clear h48
          go_wp2_with fail
          refine (Lz_any s true _ HS).mono ?_
          rintro e w' ⟨rfl, rfl⟩
          go_wp2_with fail
          refine (Lz_any _ true _ lz_shown_yes).mono ?_
          rintro e w' ⟨rfl, rfl⟩
          go_wp2_with fail
          refine (Lz_any _ false _ lz_shown_no).mono ?_
          rintro e w' ⟨rfl, rfl⟩
          go_wp2_with fail
          go_ret
          exact ⟨rfl, HB.out⟩
        · have HS : LzSays s false := lz_signed s d (hp := hp) (ht := HT.out) (hsign := HG.out) false HDIG.out ⟨fun a => (by cases a), fun ⟨_, e⟩ => absurd e h48⟩
          have f48 : (((d[0]'(by omega)).toNat : Int) == 48) = false := eq_no (by omega)
          clear h48
          go_wp2_with fail
          refine (Lz_any s false _ HS).mono ?_
          rintro e w' ⟨rfl, rfl⟩
          go_wp2_with fail
          refine (Lz_any _ true _ lz_shown_yes).mono ?_
          rintro e w' ⟨rfl, rfl⟩
          go_wp2_with fail
          refine (Lz_any _ false _ lz_shown_no).mono ?_
          rintro e w' ⟨rfl, rfl⟩
          go_wp2_with fail
          go_ret
          exact ⟨rfl, HB.out⟩
      · have g1 : ¬ (1 : Int) < (d.size : Int) := by omega
        have HS : LzSays s false := lz_signed s d (hp := hp) (ht := HT.out) (hsign := HG.out) false HDIG.out ⟨fun a => (by cases a), fun ⟨a, _⟩ => absurd a h1⟩
        go_wp2_with fail
        refine (Lz_any s false _ HS).mono ?_
        rintro e w' ⟨rfl, rfl⟩
        go_wp2_with fail
        refine (Lz_any _ true _ lz_shown_yes).mono ?_
        rintro e w' ⟨rfl, rfl⟩
        go_wp2_with fail
        refine (Lz_any _ false _ lz_shown_no).mono ?_
        rintro e w' ⟨rfl, rfl⟩
        go_wp2_with fail
        go_ret
        exact ⟨rfl, HB.out⟩

set_option maxHeartbeats 1000000 in
set_option maxRecDepth 100000 in
theorem law_lz_minus (s d : ByteArray) (w : World) (hm : s.size ≤ 2147483647) (hp : 0 < s.size) (n1 : (s[0]'hp).toNat = 45) (hsl : ∀ w : World, (Instr.slice 9 (.string s) (some (.int .i64 1)) none none).run Try.prog w = .ok (.string d) w) (ht : Tail s d) :
    Calls Try.prog 6 #[.string s] w fun e w' => e = .returned (.bool true) ∧ Below w.heap.size w w' := by
  have h0 : ¬ (2147483647 : Int) < (s.size : Int) := by omega
  have hne : s.toList.isEmpty = false := not_empty s hp
  have e1 : (((s[0]'hp).toNat : Int) == 43) = false := eq_no (by omega)
  have e2 : (((s[0]'hp).toNat : Int) == 45) = true := eq_yes (by omega)
  have hdm : d.size ≤ 2147483647 := by have := ht.size; omega
  have HT : Hid (Tail s d) := ht
  have HG : Hid ((s[0]'hp).toNat = 43 ∨ (s[0]'hp).toNat = 45) := .inr n1
  clear n1 ht
  obtain ⟨cap, W, hcv, hbel, hsize, hcell, hfree⟩ := bytes_of (P := Try.prog) 9 23 5 d w Try.underlying9 Try.underlying23 Try.underlying5
  have HB : Hid (Below w.heap.size w W) := hbel
  have HC : Hid (∀ i (h : i < d.size), W.cell? ⟨w.heap.size, i, none⟩ = some (.int .u8 ((d[i]'h).toNat : Int))) := hcell
  clear hbel hsize hcell hfree
  go_enter Try.func6, Try.ntmps6
  go_wp2_with fail
  go_loop [27] (fun i => ∃ k : Nat, k ≤ d.size ∧ i = .int .i64 k ∧ Hid (∀ i (h : i < d.size), i < k → 48 ≤ (d[i]'h).toNat ∧ (d[i]'h).toNat ≤ 57)) (fun i => d.size - (intOf i).toNat)
  case atStart => exact ⟨0, Nat.zero_le _, rfl, fun i h h0 => by omega⟩
  case round =>
    clear hne hcv e1 e2 hsl
    obtain ⟨k, hk, rfl, hd⟩ := hrel
    by_cases hlt : k < d.size
    · have hc := HC.out k hlt
      by_cases ha : ((d[k]'hlt).toNat : Int) < 48
      · go_wp2_with fail
        refine (Lz_any _ true _ lz_shown_yes).mono ?_
        rintro e w' ⟨rfl, rfl⟩
        go_wp2_with fail
        refine (Lz_any _ false _ lz_shown_no).mono ?_
        rintro e w' ⟨rfl, rfl⟩
        go_wp2_with fail
        go_ret
        exact ⟨rfl, HB.out⟩
      · by_cases hb : 57 < ((d[k]'hlt).toNat : Int)
        · go_wp2_with fail
          refine (Lz_any _ true _ lz_shown_yes).mono ?_
          rintro e w' ⟨rfl, rfl⟩
          go_wp2_with fail
          refine (Lz_any _ false _ lz_shown_no).mono ?_
          rintro e w' ⟨rfl, rfl⟩
          go_wp2_with fail
          go_ret
          exact ⟨rfl, HB.out⟩
        · have HD : Hid (∀ i (h : i < d.size), i < k + 1 → 48 ≤ (d[i]'h).toNat ∧ (d[i]'h).toNat ≤ 57) := by
            intro i h hi
            by_cases e : i = k
            · subst e; omega
            · exact hd.out i h (by omega)
          go_wp2_with fail
          go_round
          case rel => exact ⟨k + 1, by omega, by go_num, HD⟩
          case measure => simp [intOf]; omega
    · obtain rfl : k = d.size := by omega
      have hdig : Digits d := fun i h => hd.out i h h
      have HDIG : Hid (Digits d) := hdig
      clear hdig hd hlt hk HC
      by_cases h1 : 1 < d.size
      · have g1 : (1 : Int) < (d.size : Int) := by omega
        by_cases h48 : (d[0]'(by omega)).toNat = 48
        · have HS : LzSays s true := lz_signed s d (hp := hp) (ht := HT.out) (hsign := HG.out) true HDIG.out ⟨fun _ => ⟨h1, h48⟩, fun _ => rfl⟩
          have f48 : (((d[0]'(by omega)).toNat : Int) == 48) = true := eq_yes (by omega)
          clear h48
          go_wp2_with fail
          refine (Lz_any s true _ HS).mono ?_
          rintro e w' ⟨rfl, rfl⟩
          go_wp2_with fail
          refine (Lz_any _ true _ lz_shown_yes).mono ?_
          rintro e w' ⟨rfl, rfl⟩
          go_wp2_with fail
          refine (Lz_any _ false _ lz_shown_no).mono ?_
          rintro e w' ⟨rfl, rfl⟩
          go_wp2_with fail
          go_ret
          exact ⟨rfl, HB.out⟩
        · have HS : LzSays s false := lz_signed s d (hp := hp) (ht := HT.out) (hsign := HG.out) false HDIG.out ⟨fun a => (by cases a), fun ⟨_, e⟩ => absurd e h48⟩
          have f48 : (((d[0]'(by omega)).toNat : Int) == 48) = false := eq_no (by omega)
          clear h48
          go_wp2_with fail
          refine (Lz_any s false _ HS).mono ?_
          rintro e w' ⟨rfl, rfl⟩
          go_wp2_with fail
          refine (Lz_any _ true _ lz_shown_yes).mono ?_
          rintro e w' ⟨rfl, rfl⟩
          go_wp2_with fail
          refine (Lz_any _ false _ lz_shown_no).mono ?_
          rintro e w' ⟨rfl, rfl⟩
          go_wp2_with fail
          go_ret
          exact ⟨rfl, HB.out⟩
      · have g1 : ¬ (1 : Int) < (d.size : Int) := by omega
        have HS : LzSays s false := lz_signed s d (hp := hp) (ht := HT.out) (hsign := HG.out) false HDIG.out ⟨fun a => (by cases a), fun ⟨a, _⟩ => absurd a h1⟩
        go_wp2_with fail
        refine (Lz_any s false _ HS).mono ?_
        rintro e w' ⟨rfl, rfl⟩
        go_wp2_with fail
        refine (Lz_any _ true _ lz_shown_yes).mono ?_
        rintro e w' ⟨rfl, rfl⟩
        go_wp2_with fail
        refine (Lz_any _ false _ lz_shown_no).mono ?_
        rintro e w' ⟨rfl, rfl⟩
        go_wp2_with fail
        go_ret
        exact ⟨rfl, HB.out⟩

theorem law_lz (s : ByteArray) (w : World) :
    Calls Try.prog 6 #[.string s] w fun e w' => e = .returned (.bool true) ∧ Below w.heap.size w w' := by
  by_cases hm : s.size ≤ 2147483647
  · by_cases hp : 0 < s.size
    · by_cases n1 : (s[0]'hp).toNat = 43
      · exact law_lz_plus s _ w hm hp n1 (slice_tail s hp) (tail_extract s hp)
      · by_cases n2 : (s[0]'hp).toNat = 45
        · exact law_lz_minus s _ w hm hp n2 (slice_tail s hp) (tail_extract s hp)
        · exact law_lz_bare s w hm hp n1 n2
    · exact law_lz_empty s w hm (by omega)
  · exact law_lz_large s w (by omega)
end Go.Proofs.Ytfjdgfhfpcbcfaa
