/-
  The law FnExactRepl returns true. No condition (law_repl).
-/
import Derived.Test.YtfjdgfhfpcbcfaaRepl
import Derived.Deep.RegionWith
namespace Go.Proofs.Ytfjdgfhfpcbcfaa
open Go Go.RowKit
set_option linter.unusedVariables false

theorem law_repl_large (s : ByteArray) (w : World) (h : 2147483647 < s.size) :
    Calls Try.prog 10 #[.string s] w fun e w' => e = .returned (.bool true) ∧ Below w.heap.size w w' := by
  have h0 : (2147483647 : Int) < (s.size : Int) := by omega
  go_enter Try.func10, Try.ntmps10
  go_wp2
  go_ret
  exact ⟨rfl, Below.refl _ _⟩

set_option maxHeartbeats 1000000 in
set_option maxRecDepth 100000 in
theorem law_repl_fits (s : ByteArray) (w : World) (hm : s.size ≤ 2147483647) :
    Calls Try.prog 10 #[.string s] w fun e w' => e = .returned (.bool true) ∧ Below w.heap.size w w' := by
  have h0 : ¬ (2147483647 : Int) < (s.size : Int) := by omega
  obtain ⟨cap, W, hcv, hbel, hsize, hcell, hfree⟩ := bytes_of (P := Try.prog) 9 23 5 s w Try.underlying9 Try.underlying23 Try.underlying5
  have HR : Replaced w w.heap.size s 0 W := ⟨hbel, by omega, fun i h => by rw [hcell i h, if_neg (by omega)], hfree⟩
  clear hbel hsize hcell hfree
  go_enter Try.func10, Try.ntmps10
  go_wp2_with fail
  go_loopw [13] (fun i wr => ∃ k : Nat, k ≤ s.size ∧ i = .int .i64 k ∧ Replaced w w.heap.size s k wr) (fun i _ => s.size - (intOf i).toNat)
  case atStart => exact ⟨0, Nat.zero_le _, rfl, HR⟩
  case round =>
    rename_i wr
    clear hcv
    obtain ⟨k, hk, rfl, hr⟩ := hrel
    by_cases hlt : k < s.size
    · have hc := hr.cell k hlt
      rw [if_neg (by omega)] at hc
      have hf := hr.free k hlt
      by_cases ht : (s[k]'hlt).toNat = 116
      · have ft : (((s[k]'hlt).toNat : Int) == 116) = true := by simp [ht]
        have HN : Replaced w w.heap.size s (k + 1) (wr.setCell ⟨w.heap.size, k, none⟩ (.int .u8 84)) := hr.set hlt 84 (by rw [rep_t _ ht]; rfl)
        clear ht
        go_wp2_with fail
        go_roundw
        case rel => exact ⟨k + 1, by omega, by go_num, HN⟩
        case measure => simp [intOf]; omega
      · have ft : (((s[k]'hlt).toNat : Int) == 116) = false := by rw [beq_eq_false_iff_ne]; omega
        by_cases hb : (s[k]'hlt).toNat = 32
        · have fb : (((s[k]'hlt).toNat : Int) == 32) = true := by simp [hb]
          have HN : Replaced w w.heap.size s (k + 1) (wr.setCell ⟨w.heap.size, k, none⟩ (.int .u8 84)) := hr.set hlt 84 (by rw [rep_blank _ hb]; rfl)
          clear hb ht
          go_wp2_with fail
          go_roundw
          case rel => exact ⟨k + 1, by omega, by go_num, HN⟩
          case measure => simp [intOf]; omega
        · have fb : (((s[k]'hlt).toNat : Int) == 32) = false := by rw [beq_eq_false_iff_ne]; omega
          by_cases hz : (s[k]'hlt).toNat = 122
          · have fz : (((s[k]'hlt).toNat : Int) == 122) = true := by simp [hz]
            have HN : Replaced w w.heap.size s (k + 1) (wr.setCell ⟨w.heap.size, k, none⟩ (.int .u8 90)) := hr.set hlt 90 (by rw [rep_z _ hz]; rfl)
            clear hz ht hb
            go_wp2_with fail
            go_roundw
            case rel => exact ⟨k + 1, by omega, by go_num, HN⟩
            case measure => simp [intOf]; omega
          · have fz : (((s[k]'hlt).toNat : Int) == 122) = false := by rw [beq_eq_false_iff_ne]; omega
            have HN : Replaced w w.heap.size s (k + 1) wr := hr.keep hlt (rep_other _ hz ht hb)
            clear hz ht hb
            go_wp2_with fail
            go_roundw
            case rel => exact ⟨k + 1, by omega, by go_num, HN⟩
            case measure => simp [intOf]; omega
    · obtain rfl : k = s.size := by omega
      have hold := hr.holds
      have holdd : Holds w.heap.size s wr.drew := hold
      have hback : ∀ W' : World, Holds w.heap.size s W' → (convert 23 9 (.slice (some ⟨w.heap.size, 0, none⟩) s.size cap)).run Try.prog W' = .ok (.string (repl s)) W' := fun W' h => back_of w.heap.size cap s W' h
      go_wp2_with fail
      go_region_with (first
        | (go_at_call_of 20 (Value.string s); refine (Repl_any s _ hm).mono ?_; rintro e w1 ⟨rfl, hb1⟩; have hold1 : Holds w.heap.size s w1 := Holds.on (W := wr.drew) hold hb1 hr.big)
        | (go_at_call 20; refine (Repl_shown _).mono ?_; rintro e w2 ⟨rfl, hb2⟩))
      all_goals
        go_wp2_with fail
        go_ret
        exact ⟨rfl, (hr.below.drew.trans (hb1.mono hr.below.size)).trans (hb2.mono (Nat.le_trans hr.below.size hb1.size))⟩

theorem law_repl (s : ByteArray) (w : World) :
    Calls Try.prog 10 #[.string s] w fun e w' => e = .returned (.bool true) ∧ Below w.heap.size w w' := by
  by_cases hm : s.size ≤ 2147483647
  · exact law_repl_fits s w hm
  · exact law_repl_large s w (by omega)
end Go.Proofs.Ytfjdgfhfpcbcfaa
