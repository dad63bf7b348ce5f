/-
  datetimeRepl hands back the string with Z for z and T for t and blanks. Condition: at most 2147483647 bytes.
-/
import Derived.Test.YtfjdgfhfpcbcfaaProg
import Derived.Test.YtfjdgfhfpcbcfaaRow
import Derived.WalkKit
import Derived.Below
import Derived.LoopTactic
import Derived.Laws.IdiomStrings
namespace Go.Proofs.Ytfjdgfhfpcbcfaa
open Go Go.RowKit
set_option linter.unusedVariables false

/-- What a byte is replaced by. -/
def rep (b : UInt8) : UInt8 := if b.toNat = 122 then 90 else if b.toNat = 116 then 84 else if b.toNat = 32 then 84 else b
/-- What a text is replaced by. -/
def repl (s : ByteArray) : ByteArray := ⟨(s.data.toList.map rep).toArray⟩

theorem rep_z (b : UInt8) (h : b.toNat = 122) : (rep b).toNat = 90 := by simp [rep, h]
theorem rep_t (b : UInt8) (h : b.toNat = 116) : (rep b).toNat = 84 := by simp [rep, h]
theorem rep_blank (b : UInt8) (h : b.toNat = 32) : (rep b).toNat = 84 := by simp [rep, h]
theorem rep_other (b : UInt8) (h1 : b.toNat ≠ 122) (h2 : b.toNat ≠ 116) (h3 : b.toNat ≠ 32) : rep b = b := by simp [rep, h1, h2, h3]

/-- The new row in block B: its first k bytes are replaced, the others are those of s. -/
structure Replaced (w : World) (B : Nat) (s : ByteArray) (k : Nat) (W : World) : Prop where
  below : Below B w W
  big : B < W.heap.size
  cell : ∀ i (h : i < s.size), W.cell? ⟨B, i, none⟩ = some (.int .u8 ((if i < k then rep (s[i]'h) else s[i]'h).toNat : Int))
  free : ∀ i, i < s.size → W.frozen? ⟨B, i, none⟩ = false

theorem Replaced.keep {w W : World} {B k : Nat} {s : ByteArray} (h : Replaced w B s k W) (hlt : k < s.size) (e : rep (s[k]'hlt) = s[k]'hlt) : Replaced w B s (k + 1) W := by
  refine ⟨h.below, h.big, fun i hi => ?_, h.free⟩
  rw [h.cell i hi]
  by_cases e1 : i = k
  · subst e1
    rw [if_neg (by omega), if_pos (by omega), e]
  · by_cases e2 : i < k
    · rw [if_pos e2, if_pos (by omega)]
    · rw [if_neg e2, if_neg (by omega)]

theorem Replaced.set {w W : World} {B k : Nat} {s : ByteArray} (h : Replaced w B s k W) (hlt : k < s.size) (v : Int) (e : ((rep (s[k]'hlt)).toNat : Int) = v) : Replaced w B s (k + 1) (W.setCell ⟨B, k, none⟩ (.int .u8 v)) := by
  refine ⟨h.below.setCell (Nat.le_refl _) _, by simpa [World.setCell] using h.big, fun i hi => ?_, fun i hi => ?_⟩
  · by_cases e1 : i = k
    · subst e1
      rw [World.cell?_setCell_same _ _ _ (h.cell i hlt), if_pos (by omega), e]
    · rw [World.cell?_setCell_other _ _ _ _ (by simp only [ne_eq, Addr.mk.injEq]; omega), h.cell i hi]
      by_cases e2 : i < k
      · rw [if_pos e2, if_pos (by omega)]
      · rw [if_neg e2, if_neg (by omega)]
  · rw [World.frozen?_setCell]
    exact h.free i hi

/-- The row holds the bytes of the replaced text. -/
def Holds (B : Nat) (s : ByteArray) (W : World) : Prop := ∀ i (h : i < s.size), W.cell? ⟨B, i, none⟩ = some (.int .u8 ((rep (s[i]'h)).toNat : Int))
theorem Replaced.holds {w W : World} {B : Nat} {s : ByteArray} (h : Replaced w B s s.size W) : Holds B s W := by
  intro i hi
  rw [h.cell i hi, if_pos hi]
theorem Holds.on {B : Nat} {s : ByteArray} {W W' : World} (h : Holds B s W) (hb : Below W.heap.size W W') (hB : B < W.heap.size) : Holds B s W' := by
  intro i hi
  rw [hb.cell (p := ⟨B, i, none⟩) hB]
  exact h i hi

theorem back_of (B cap : Nat) (s : ByteArray) (W : World) (h : Holds B s W) :
    (convert 23 9 (.slice (some ⟨B, 0, none⟩) s.size cap)).run Try.prog W = .ok (.string (repl s)) W := by
  have hl : (s.data.toList.map rep).length = s.size := by simp
  have e := run_convert_bytes_back (P := Try.prog) W 23 9 5 ⟨B, 0, none⟩ cap (s.data.toList.map rep) Try.underlying23 Try.underlying5 Try.underlying9 (fun j hj => by
    have hj' : j < s.size := by rw [← hl]; exact hj
    have e1 := h j hj'
    have e2 : (⟨B, 0, none⟩ : Addr).add j = ⟨B, j, none⟩ := by
      by_cases h0 : j = 0
      · subst h0; rfl
      · simp [Addr.add, h0]
    rw [e2, e1]
    simp
    rfl)
  rw [hl] at e
  exact e

set_option maxHeartbeats 400000 in
set_option maxRecDepth 100000 in
theorem repl_any (s : ByteArray) (w : World) (hm : s.size ≤ 2147483647) :
    Calls Try.prog 43 #[.string s] w fun e w' => e = .returned (.string (repl s)) ∧ Below w.heap.size w w' := by
  obtain ⟨cap, W, hcv, hbel, hsize, hcell, hfree⟩ := bytes_of (P := Try.prog) 9 23 5 s w Try.underlying9 Try.underlying23 Try.underlying5
  have HR : Replaced w w.heap.size s 0 W := ⟨hbel, by omega, fun i h => by rw [hcell i h, if_neg (by omega)], hfree⟩
  clear hbel hsize hcell hfree
  go_enter Try.func43, Try.ntmps43
  go_wp2_with fail
  go_loopw [10] (fun i wr => ∃ k : Nat, k ≤ s.size ∧ i = .int .i64 k ∧ Replaced w w.heap.size s k wr) (fun i _ => s.size - (intOf i).toNat)
  case atStart => exact ⟨0, Nat.zero_le _, rfl, HR⟩
  case round =>
    rename_i wr
    clear hcv
    obtain ⟨k, hk, rfl, hr⟩ := hrel
    by_cases hlt : k < s.size
    · have hc := hr.cell k hlt
      rw [if_neg (by omega)] at hc
      have hf := hr.free k hlt
      by_cases hz : (s[k]'hlt).toNat = 122
      · have fz : (((s[k]'hlt).toNat : Int) == 122) = true := by simp [hz]
        have HN : Replaced w w.heap.size s (k + 1) (wr.setCell ⟨w.heap.size, k, none⟩ (.int .u8 90)) := hr.set hlt 90 (by rw [rep_z _ hz]; rfl)
        clear hz
        go_wp2_with fail
        go_roundw
        case rel => exact ⟨k + 1, by omega, by go_num, HN⟩
        case measure => simp [intOf]; omega
      · have fz : (((s[k]'hlt).toNat : Int) == 122) = false := by rw [beq_eq_false_iff_ne]; omega
        by_cases ht : (s[k]'hlt).toNat = 116
        · have ft : (((s[k]'hlt).toNat : Int) == 116) = true := by simp [ht]
          have HN : Replaced w w.heap.size s (k + 1) (wr.setCell ⟨w.heap.size, k, none⟩ (.int .u8 84)) := hr.set hlt 84 (by rw [rep_t _ ht]; rfl)
          clear ht hz
          go_wp2_with fail
          go_roundw
          case rel => exact ⟨k + 1, by omega, by go_num, HN⟩
          case measure => simp [intOf]; omega
        · have ft : (((s[k]'hlt).toNat : Int) == 116) = false := by rw [beq_eq_false_iff_ne]; omega
          by_cases hb : (s[k]'hlt).toNat = 32
          · have fb : (((s[k]'hlt).toNat : Int) == 32) = true := by simp [hb]
            have HN : Replaced w w.heap.size s (k + 1) (wr.setCell ⟨w.heap.size, k, none⟩ (.int .u8 84)) := hr.set hlt 84 (by rw [rep_blank _ hb]; rfl)
            clear hb hz ht
            go_wp2_with fail
            go_roundw
            case rel => exact ⟨k + 1, by omega, by go_num, HN⟩
            case measure => simp [intOf]; omega
          · have fb : (((s[k]'hlt).toNat : Int) == 32) = false := by rw [beq_eq_false_iff_ne]; omega
            have HN : Replaced w w.heap.size s (k + 1) wr := hr.keep hlt (rep_other _ hz ht hb)
            clear hz ht hb
            go_wp2_with fail
            go_roundw
            case rel => exact ⟨k + 1, by omega, by go_num, HN⟩
            case measure => simp [intOf]; omega
    · obtain rfl : k = s.size := by omega
      have hback := back_of w.heap.size cap s wr hr.holds
      go_wp2_with fail
      go_ret
      exact ⟨rfl, hr.below⟩

/-- impl.DatetimeRepl. -/
theorem Repl_any (s : ByteArray) (w : World) (hm : s.size ≤ 2147483647) :
    Calls Try.prog 20 #[.string s] w fun e w' => e = .returned (.string (repl s)) ∧ Below w.heap.size w w' := by
  go_enter Try.func20, Try.ntmps20
  go_wp2_with (first | (go_at_call 33; go_in) | (go_at_call 43; refine (repl_any s _ hm).mono ?_; rintro e w1 ⟨rfl, hb⟩))
  go_ret
  exact ⟨rfl, hb⟩

theorem Repl_shown (w : World) :
    Calls Try.prog 20 #[.string (ByteArray.mk #[116, 32, 122])] w fun e w' => e = .returned (.string (ByteArray.mk #[84, 84, 90])) ∧ Below w.heap.size w w' :=
  Repl_any (ByteArray.mk #[116, 32, 122]) w (by decide)
end Go.Proofs.Ytfjdgfhfpcbcfaa
