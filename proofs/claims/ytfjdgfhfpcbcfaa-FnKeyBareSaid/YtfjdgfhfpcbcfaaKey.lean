/-
  Key.String hands back the pieces with points between. Conditions: at most 20 pieces, each of signs of bare keys, not empty, of at most 1000 bytes.
-/
import Derived.Test.YtfjdgfhfpcbcfaaShelf
import Derived.Test.YtfjdgfhfpcbcfaaBare
import Derived.Test.YtfjdgfhfpcbcfaaFits
import Derived.WalkKit
import Derived.Below
import Derived.LoopTactic
import Derived.WalkMore
import Derived.Laws.RangeAny
namespace Go.Proofs.Ytfjdgfhfpcbcfaa
open Go Go.RowKit
set_option linter.unusedVariables false

/-- The first k pieces with points between. -/
def joined (f : Nat → ByteArray) : Nat → List UInt8
  | 0 => []
  | k + 1 => joined f k ++ (if 0 < k then [46] else []) ++ (f k).data.toList

theorem World.heap_alloc_new (w : World) (o : Obj) : (w.alloc o).heap[w.heap.size]? = some o := by
  show (w.heap.push o)[w.heap.size]? = _
  simp

/-- Grow at a builder that has not been written. -/
theorem grow_any (B b : Nat) (m : Int) (w : World) (h0 : 0 ≤ m) (h1 : m ≤ 1000) (hB : B ≤ b) (hbk : w.heap[b]? = some (.cells #[.pointer none, .slice none 0 0] 34 (0, 0))) (hBw : B ≤ w.heap.size) :
    Calls Try.prog 45 #[.pointer (some ⟨b, 0, none⟩), .int .i64 m] w fun e w' => e = .returned (.tuple #[]) ∧ Lib.IsBuilderF 34 5 B b (Lib.byteCells []) w' ∧ Below B w w' := by
  obtain ⟨k, rfl⟩ := Int.eq_ofNat_of_zero_le h0
  exact (Try.Builder_Grow_fresh B b k w hB hbk hBw (by omega)).mono fun e w' ⟨he, hI, hb⟩ => ⟨he, Lib.IsBuilderF.of (Or.inr hI), hb⟩

/-- What the walk knows of the builder that holds l. -/
def HasText (w : World) (l : List UInt8) (W : World) : Prop := Lib.IsBuilderF 34 5 w.heap.size w.heap.size (Lib.byteCells l) W ∧ Below w.heap.size w W

theorem write_byte (w W : World) (l : List UInt8) (h : HasText w l W) (hl : l.length ≤ 1000000) :
    Calls Try.prog 46 #[.pointer (some ⟨w.heap.size, 0, none⟩), .int .u8 46] W fun e w' => e = .returned .nilIface ∧ HasText w (l ++ [46]) w' := by
  refine (Try.Builder_WriteByte_k w.heap.size w.heap.size (Lib.byteCells l) 46 W h.1 (by rw [Lib.byteCells_length]; omega) h.2.size).mono ?_
  rintro e w' ⟨he, h1, hb, _⟩
  exact ⟨he, by rw [Lib.byteCells_append]; exact Or.inr h1, h.2.trans hb⟩

theorem write_text (w W : World) (l : List UInt8) (s : ByteArray) (pos : Nat) (h : HasText w l W) (hl : l.length ≤ 1000000) (hs : s.size ≤ 1000) :
    Calls Try.prog 47 #[.pointer (some ⟨w.heap.size, 0, none⟩), .string s] (W.iter s pos) fun e w' => e = .returned (.tuple #[.int .i64 s.size, .nilIface]) ∧ HasText w (l ++ s.data.toList) w' := by
  have hb0 : Below w.heap.size w (W.iter s pos) := h.2.alloc h.2.size _
  refine (Try.Builder_WriteString_k w.heap.size w.heap.size (Lib.byteCells l) s (W.iter s pos) (h.1.alloc _) (by rw [Lib.byteCells_length]; omega) hb0.size).mono ?_
  rintro e w' ⟨he, h1, hb, _⟩
  exact ⟨he, by rw [Lib.byteCells_append]; exact Or.inr h1, hb0.trans hb⟩

theorem read_text (w W : World) (l : List UInt8) (h : HasText w l W) :
    Calls Try.prog 49 #[.pointer (some ⟨w.heap.size, 0, none⟩)] W fun e w' => e = .returned (.string ⟨l.toArray⟩) ∧ Below w.heap.size w w' := by
  refine (Try.Builder_String_any_k w.heap.size w.heap.size l W h.1 h.2.size).mono ?_
  rintro e w' ⟨he, _, hb, _⟩
  exact ⟨he, h.2.trans hb⟩

theorem BareText.ascii {s : ByteArray} (h : BareText s) (i : Nat) (hi : i < s.size) : (s[i]'hi).toNat < 128 := by
  have := h.2 i hi
  unfold BareSign at this
  omega

theorem joined_length (f : Nat → ByteArray) (n : Nat) (h : ∀ i, i < n → (f i).size ≤ 1000) : ∀ k, k ≤ n → (joined f k).length ≤ 1001 * k
  | 0, _ => by simp [joined]
  | k + 1, hk => by
    have ih := joined_length f n h k (by omega)
    have h1 := h k (by omega)
    have h2 : (f k).data.toList.length = (f k).size := by simp
    have h3 : (if 0 < k then [46] else [] : List UInt8).length ≤ 1 := by split <;> simp
    simp only [joined, List.length_append]
    omega

set_option maxHeartbeats 4000000 in
set_option maxRecDepth 1000000 in
theorem key_string (b off n cap : Nat) (f : Nat → ByteArray) (w : World) (hrow : StrRow w b off n f) (hb : b < w.heap.size) (hn : n ≤ 20) (hbare : ∀ i, i < n → BareText (f i)) (hlen : ∀ i, i < n → (f i).size ≤ 1000) :
    Calls Try.prog 35 #[.slice (some ⟨b, off, none⟩) n cap] w fun e w' => e = .returned (.string ⟨(joined f n).toArray⟩) ∧ Below w.heap.size w w' := by
  have HROW : Hid (StrRow w b off n f) := hrow
  have HBARE : Hid (∀ i, i < n → BareText (f i)) := hbare
  have HLEN : Hid (∀ i, i < n → (f i).size ≤ 1000) := hlen
  clear hrow hbare hlen
  go_enter Try.func35, Try.ntmps35
  go_wp2_with fail
  go_step3
  go_wp2_with fail
  refine (grow_any w.heap.size w.heap.size _ _ (by omega) (by omega) (Nat.le_refl _) ?hblk (by simp)).mono ?_
  case hblk => exact World.heap_alloc_new _ _
  rintro e w1 ⟨rfl, hI, hb1⟩
  have H1 : HasText w (joined f 0) w1 := ⟨hI, ((Below.refl _ _).alloc (Nat.le_refl _) _).trans hb1⟩
  clear hI hb1
  go_wp2_with fail
  go_step3
  go_wp2_with fail
  go_loopw [14] (fun i wr => ∃ k : Nat, k ≤ n ∧ i = .int .i64 k ∧ HasText w (joined f k) wr) (fun i _ => n - (intOf i).toNat)
  case atStart => exact ⟨0, Nat.zero_le _, rfl, H1⟩
  case round =>
    rename_i wr
    clear H1
    obtain ⟨k, hk, rfl, hT⟩ := hrel
    obtain ⟨wo, rfl⟩ : ∃ wo : World, wo = wr := ⟨_, rfl⟩
    by_cases hlt : k < n
    · have hJ := joined_length f n HLEN.out k hk
      have HJ : Hid ((joined f k).length ≤ 900000) := by show _ ≤ _; omega
      have HSTEP : Hid (joined f (k + 1) = joined f k ++ (if 0 < k then [46] else []) ++ (f k).data.toList) := rfl
      have hc := (HROW.out.on hT.2 hb) k hlt
      have hB := HBARE.out k hlt
      have hsz := HLEN.out k hlt
      generalize f k = s at hc hB hsz HSTEP
      have hne := text_full s hB.1
      have HB : Hid (BareText s) := hB
      clear hB hJ
      generalize hacc : joined f k = acc at hT HJ HSTEP
      clear hacc
      by_cases hk0 : 0 < k
      · have fk : (0 : Int) < (k : Int) := by omega
        have HNEXT : Hid (joined f (k + 1) = (acc ++ [46]) ++ s.data.toList) := by
          have e := HSTEP.out
          rw [if_pos hk0] at e
          exact e
        clear HSTEP hk0
        go_wp2_with fail
        refine (write_byte w wo acc hT (Nat.le_trans HJ.out (by decide))).mono ?_
        rintro e wx ⟨rfl, hX⟩
        have HJX : Hid ((acc ++ [46]).length ≤ 1000000) := by
          have hj : acc.length ≤ 900000 := HJ.out
          show _ ≤ _
          rw [List.length_append]
          show acc.length + 1 ≤ 1000000
          omega
        clear hT HJ hc
        generalize acc ++ [46] = acx at hX HNEXT HJX
        go_wp2_with fail
        go_loopw [7] (fun _ w' => ∃ pos : Nat, w' = wx.iter s pos) (fun _ w' => s.size - w'.iterPos wx.heap.size)
        case atStart => exact ⟨0, rfl⟩
        case round =>
          obtain ⟨pos, rfl⟩ := hrel
          by_cases hp : pos < s.size
          · have hnx : ∀ ty, (Instr.next (.pointer (some ⟨wx.heap.size, 0, none⟩)) true ty).run Try.prog (wx.iter s pos) = _ := fun ty => run_next_ascii wx s pos ty hp (HB.out.ascii pos hp)
            have hS : BareSign (s[pos]'hp).toNat := HB.out.2 pos hp
            unfold BareSign at hS
            rcases hS with ⟨h1, h2⟩ | ⟨h1, h2⟩ | ⟨h1, h2⟩ | h1 | h1
            · have g1 : (97 : Int) ≤ ((s[pos]'hp).toNat : Int) := by omega
              have g2 : ((s[pos]'hp).toNat : Int) ≤ 122 := by omega
              have d1 : decide (((s[pos]'hp).toNat : Int) ≤ 57) = false := decide_eq_false (by omega)
              have d2 : decide (((s[pos]'hp).toNat : Int) ≤ 90) = false := decide_eq_false (by omega)
              have d3 : decide (((s[pos]'hp).toNat : Int) ≤ 122) = true := decide_eq_true (by omega)
              have d4 : decide ((48 : Int) ≤ ((s[pos]'hp).toNat : Int)) = true := decide_eq_true (by omega)
              have d5 : decide ((65 : Int) ≤ ((s[pos]'hp).toNat : Int)) = true := decide_eq_true (by omega)
              have d6 : decide ((97 : Int) ≤ ((s[pos]'hp).toNat : Int)) = true := decide_eq_true (by omega)
              have d7 : (((s[pos]'hp).toNat : Int) == 95) = false := beq_eq_false_iff_ne.mpr (by omega)
              have d8 : (((s[pos]'hp).toNat : Int) == 45) = false := beq_eq_false_iff_ne.mpr (by omega)
              clear h1 h2
              go_wp2_with fail
              go_roundw
              case rel => exact ⟨pos + 1, rfl⟩
              case measure => simp; omega
            · have g1 : (65 : Int) ≤ ((s[pos]'hp).toNat : Int) := by omega
              have g2 : ((s[pos]'hp).toNat : Int) ≤ 90 := by omega
              have d1 : decide (((s[pos]'hp).toNat : Int) ≤ 57) = false := decide_eq_false (by omega)
              have d2 : decide (((s[pos]'hp).toNat : Int) ≤ 90) = true := decide_eq_true (by omega)
              have d3 : decide (((s[pos]'hp).toNat : Int) ≤ 122) = true := decide_eq_true (by omega)
              have d4 : decide ((48 : Int) ≤ ((s[pos]'hp).toNat : Int)) = true := decide_eq_true (by omega)
              have d5 : decide ((65 : Int) ≤ ((s[pos]'hp).toNat : Int)) = true := decide_eq_true (by omega)
              have d6 : decide ((97 : Int) ≤ ((s[pos]'hp).toNat : Int)) = false := decide_eq_false (by omega)
              have d7 : (((s[pos]'hp).toNat : Int) == 95) = false := beq_eq_false_iff_ne.mpr (by omega)
              have d8 : (((s[pos]'hp).toNat : Int) == 45) = false := beq_eq_false_iff_ne.mpr (by omega)
              clear h1 h2
              go_wp2_with fail
              go_roundw
              case rel => exact ⟨pos + 1, rfl⟩
              case measure => simp; omega
            · have g1 : (48 : Int) ≤ ((s[pos]'hp).toNat : Int) := by omega
              have g2 : ((s[pos]'hp).toNat : Int) ≤ 57 := by omega
              have d1 : decide (((s[pos]'hp).toNat : Int) ≤ 57) = true := decide_eq_true (by omega)
              have d2 : decide (((s[pos]'hp).toNat : Int) ≤ 90) = true := decide_eq_true (by omega)
              have d3 : decide (((s[pos]'hp).toNat : Int) ≤ 122) = true := decide_eq_true (by omega)
              have d4 : decide ((48 : Int) ≤ ((s[pos]'hp).toNat : Int)) = true := decide_eq_true (by omega)
              have d5 : decide ((65 : Int) ≤ ((s[pos]'hp).toNat : Int)) = false := decide_eq_false (by omega)
              have d6 : decide ((97 : Int) ≤ ((s[pos]'hp).toNat : Int)) = false := decide_eq_false (by omega)
              have d7 : (((s[pos]'hp).toNat : Int) == 95) = false := beq_eq_false_iff_ne.mpr (by omega)
              have d8 : (((s[pos]'hp).toNat : Int) == 45) = false := beq_eq_false_iff_ne.mpr (by omega)
              clear h1 h2
              go_wp2_with fail
              go_roundw
              case rel => exact ⟨pos + 1, rfl⟩
              case measure => simp; omega
            · have g1 : (95 : Int) ≤ ((s[pos]'hp).toNat : Int) := by omega
              have g2 : ((s[pos]'hp).toNat : Int) ≤ 95 := by omega
              have d1 : decide (((s[pos]'hp).toNat : Int) ≤ 57) = false := decide_eq_false (by omega)
              have d2 : decide (((s[pos]'hp).toNat : Int) ≤ 90) = false := decide_eq_false (by omega)
              have d3 : decide (((s[pos]'hp).toNat : Int) ≤ 122) = true := decide_eq_true (by omega)
              have d4 : decide ((48 : Int) ≤ ((s[pos]'hp).toNat : Int)) = true := decide_eq_true (by omega)
              have d5 : decide ((65 : Int) ≤ ((s[pos]'hp).toNat : Int)) = true := decide_eq_true (by omega)
              have d6 : decide ((97 : Int) ≤ ((s[pos]'hp).toNat : Int)) = false := decide_eq_false (by omega)
              have d7 : (((s[pos]'hp).toNat : Int) == 95) = true := beq_iff_eq.mpr (by omega)
              have d8 : (((s[pos]'hp).toNat : Int) == 45) = false := beq_eq_false_iff_ne.mpr (by omega)
              clear h1
              go_wp2_with fail
              go_roundw
              case rel => exact ⟨pos + 1, rfl⟩
              case measure => simp; omega
            · have g1 : (45 : Int) ≤ ((s[pos]'hp).toNat : Int) := by omega
              have g2 : ((s[pos]'hp).toNat : Int) ≤ 45 := by omega
              have d1 : decide (((s[pos]'hp).toNat : Int) ≤ 57) = true := decide_eq_true (by omega)
              have d2 : decide (((s[pos]'hp).toNat : Int) ≤ 90) = true := decide_eq_true (by omega)
              have d3 : decide (((s[pos]'hp).toNat : Int) ≤ 122) = true := decide_eq_true (by omega)
              have d4 : decide ((48 : Int) ≤ ((s[pos]'hp).toNat : Int)) = false := decide_eq_false (by omega)
              have d5 : decide ((65 : Int) ≤ ((s[pos]'hp).toNat : Int)) = false := decide_eq_false (by omega)
              have d6 : decide ((97 : Int) ≤ ((s[pos]'hp).toNat : Int)) = false := decide_eq_false (by omega)
              have d7 : (((s[pos]'hp).toNat : Int) == 95) = false := beq_eq_false_iff_ne.mpr (by omega)
              have d8 : (((s[pos]'hp).toNat : Int) == 45) = true := beq_iff_eq.mpr (by omega)
              clear h1
              go_wp2_with fail
              go_roundw
              case rel => exact ⟨pos + 1, rfl⟩
              case measure => simp; omega
          · have hnx : ∀ ty, (Instr.next (.pointer (some ⟨wx.heap.size, 0, none⟩)) true ty).run Try.prog (wx.iter s pos) = _ := fun ty => run_next_end wx s pos ty hp
            go_wp2_with fail
            refine (write_text w wx acx s pos hX HJX.out hsz).mono ?_
            rintro e w2 ⟨rfl, hY⟩
            have HY : Hid (HasText w (joined f (k + 1)) w2) := by rw [HNEXT.out]; exact hY
            clear hY
            go_wp2_with fail
            go_roundw
            case rel => exact ⟨k + 1, by omega, by go_num, HY⟩
            case measure => simp [intOf]; omega
      · have fk : ¬ (0 : Int) < (k : Int) := by omega
        have HNEXT : Hid (joined f (k + 1) = acc ++ s.data.toList) := by
          have e := HSTEP.out
          rw [if_neg hk0, List.append_nil] at e
          exact e
        clear HSTEP hk0
        obtain ⟨wx, rfl⟩ : ∃ wx : World, wx = wo := ⟨_, rfl⟩
        obtain ⟨acx, rfl⟩ : ∃ acx : List UInt8, acx = acc := ⟨_, rfl⟩
        have hX := hT
        have HJX : Hid (acx.length ≤ 1000000) := Nat.le_trans HJ.out (by decide)
        clear hT HJ
        go_wp2_with fail
        go_loopw [7] (fun _ w' => ∃ pos : Nat, w' = wx.iter s pos) (fun _ w' => s.size - w'.iterPos wx.heap.size)
        case atStart => exact ⟨0, rfl⟩
        case round =>
          obtain ⟨pos, rfl⟩ := hrel
          by_cases hp : pos < s.size
          · have hnx : ∀ ty, (Instr.next (.pointer (some ⟨wx.heap.size, 0, none⟩)) true ty).run Try.prog (wx.iter s pos) = _ := fun ty => run_next_ascii wx s pos ty hp (HB.out.ascii pos hp)
            have hS : BareSign (s[pos]'hp).toNat := HB.out.2 pos hp
            unfold BareSign at hS
            rcases hS with ⟨h1, h2⟩ | ⟨h1, h2⟩ | ⟨h1, h2⟩ | h1 | h1
            · have g1 : (97 : Int) ≤ ((s[pos]'hp).toNat : Int) := by omega
              have g2 : ((s[pos]'hp).toNat : Int) ≤ 122 := by omega
              have d1 : decide (((s[pos]'hp).toNat : Int) ≤ 57) = false := decide_eq_false (by omega)
              have d2 : decide (((s[pos]'hp).toNat : Int) ≤ 90) = false := decide_eq_false (by omega)
              have d3 : decide (((s[pos]'hp).toNat : Int) ≤ 122) = true := decide_eq_true (by omega)
              have d4 : decide ((48 : Int) ≤ ((s[pos]'hp).toNat : Int)) = true := decide_eq_true (by omega)
              have d5 : decide ((65 : Int) ≤ ((s[pos]'hp).toNat : Int)) = true := decide_eq_true (by omega)
              have d6 : decide ((97 : Int) ≤ ((s[pos]'hp).toNat : Int)) = true := decide_eq_true (by omega)
              have d7 : (((s[pos]'hp).toNat : Int) == 95) = false := beq_eq_false_iff_ne.mpr (by omega)
              have d8 : (((s[pos]'hp).toNat : Int) == 45) = false := beq_eq_false_iff_ne.mpr (by omega)
              clear h1 h2
              go_wp2_with fail
              go_roundw
              case rel => exact ⟨pos + 1, rfl⟩
              case measure => simp; omega
            · have g1 : (65 : Int) ≤ ((s[pos]'hp).toNat : Int) := by omega
              have g2 : ((s[pos]'hp).toNat : Int) ≤ 90 := by omega
              have d1 : decide (((s[pos]'hp).toNat : Int) ≤ 57) = false := decide_eq_false (by omega)
              have d2 : decide (((s[pos]'hp).toNat : Int) ≤ 90) = true := decide_eq_true (by omega)
              have d3 : decide (((s[pos]'hp).toNat : Int) ≤ 122) = true := decide_eq_true (by omega)
              have d4 : decide ((48 : Int) ≤ ((s[pos]'hp).toNat : Int)) = true := decide_eq_true (by omega)
              have d5 : decide ((65 : Int) ≤ ((s[pos]'hp).toNat : Int)) = true := decide_eq_true (by omega)
              have d6 : decide ((97 : Int) ≤ ((s[pos]'hp).toNat : Int)) = false := decide_eq_false (by omega)
              have d7 : (((s[pos]'hp).toNat : Int) == 95) = false := beq_eq_false_iff_ne.mpr (by omega)
              have d8 : (((s[pos]'hp).toNat : Int) == 45) = false := beq_eq_false_iff_ne.mpr (by omega)
              clear h1 h2
              go_wp2_with fail
              go_roundw
              case rel => exact ⟨pos + 1, rfl⟩
              case measure => simp; omega
            · have g1 : (48 : Int) ≤ ((s[pos]'hp).toNat : Int) := by omega
              have g2 : ((s[pos]'hp).toNat : Int) ≤ 57 := by omega
              have d1 : decide (((s[pos]'hp).toNat : Int) ≤ 57) = true := decide_eq_true (by omega)
              have d2 : decide (((s[pos]'hp).toNat : Int) ≤ 90) = true := decide_eq_true (by omega)
              have d3 : decide (((s[pos]'hp).toNat : Int) ≤ 122) = true := decide_eq_true (by omega)
              have d4 : decide ((48 : Int) ≤ ((s[pos]'hp).toNat : Int)) = true := decide_eq_true (by omega)
              have d5 : decide ((65 : Int) ≤ ((s[pos]'hp).toNat : Int)) = false := decide_eq_false (by omega)
              have d6 : decide ((97 : Int) ≤ ((s[pos]'hp).toNat : Int)) = false := decide_eq_false (by omega)
              have d7 : (((s[pos]'hp).toNat : Int) == 95) = false := beq_eq_false_iff_ne.mpr (by omega)
              have d8 : (((s[pos]'hp).toNat : Int) == 45) = false := beq_eq_false_iff_ne.mpr (by omega)
              clear h1 h2
              go_wp2_with fail
              go_roundw
              case rel => exact ⟨pos + 1, rfl⟩
              case measure => simp; omega
            · have g1 : (95 : Int) ≤ ((s[pos]'hp).toNat : Int) := by omega
              have g2 : ((s[pos]'hp).toNat : Int) ≤ 95 := by omega
              have d1 : decide (((s[pos]'hp).toNat : Int) ≤ 57) = false := decide_eq_false (by omega)
              have d2 : decide (((s[pos]'hp).toNat : Int) ≤ 90) = false := decide_eq_false (by omega)
              have d3 : decide (((s[pos]'hp).toNat : Int) ≤ 122) = true := decide_eq_true (by omega)
              have d4 : decide ((48 : Int) ≤ ((s[pos]'hp).toNat : Int)) = true := decide_eq_true (by omega)
              have d5 : decide ((65 : Int) ≤ ((s[pos]'hp).toNat : Int)) = true := decide_eq_true (by omega)
              have d6 : decide ((97 : Int) ≤ ((s[pos]'hp).toNat : Int)) = false := decide_eq_false (by omega)
              have d7 : (((s[pos]'hp).toNat : Int) == 95) = true := beq_iff_eq.mpr (by omega)
              have d8 : (((s[pos]'hp).toNat : Int) == 45) = false := beq_eq_false_iff_ne.mpr (by omega)
              clear h1
              go_wp2_with fail
              go_roundw
              case rel => exact ⟨pos + 1, rfl⟩
              case measure => simp; omega
            · have g1 : (45 : Int) ≤ ((s[pos]'hp).toNat : Int) := by omega
              have g2 : ((s[pos]'hp).toNat : Int) ≤ 45 := by omega
              have d1 : decide (((s[pos]'hp).toNat : Int) ≤ 57) = true := decide_eq_true (by omega)
              have d2 : decide (((s[pos]'hp).toNat : Int) ≤ 90) = true := decide_eq_true (by omega)
              have d3 : decide (((s[pos]'hp).toNat : Int) ≤ 122) = true := decide_eq_true (by omega)
              have d4 : decide ((48 : Int) ≤ ((s[pos]'hp).toNat : Int)) = false := decide_eq_false (by omega)
              have d5 : decide ((65 : Int) ≤ ((s[pos]'hp).toNat : Int)) = false := decide_eq_false (by omega)
              have d6 : decide ((97 : Int) ≤ ((s[pos]'hp).toNat : Int)) = false := decide_eq_false (by omega)
              have d7 : (((s[pos]'hp).toNat : Int) == 95) = false := beq_eq_false_iff_ne.mpr (by omega)
              have d8 : (((s[pos]'hp).toNat : Int) == 45) = true := beq_iff_eq.mpr (by omega)
              clear h1
              go_wp2_with fail
              go_roundw
              case rel => exact ⟨pos + 1, rfl⟩
              case measure => simp; omega
          · have hnx : ∀ ty, (Instr.next (.pointer (some ⟨wx.heap.size, 0, none⟩)) true ty).run Try.prog (wx.iter s pos) = _ := fun ty => run_next_end wx s pos ty hp
            go_wp2_with fail
            refine (write_text w wx acx s pos hX HJX.out hsz).mono ?_
            rintro e w2 ⟨rfl, hY⟩
            have HY : Hid (HasText w (joined f (k + 1)) w2) := by rw [HNEXT.out]; exact hY
            clear hY
            go_wp2_with fail
            go_roundw
            case rel => exact ⟨k + 1, by omega, by go_num, HY⟩
            case measure => simp [intOf]; omega
    · obtain rfl : k = n := by omega
      go_wp2_with fail
      refine (read_text w wo _ hT).mono ?_
      rintro e w2 ⟨rfl, hb2⟩
      go_wp2_with fail
      rw [Exit.noGoto_ret]
      go_ret
      exact ⟨rfl, hb2⟩
end Go.Proofs.Ytfjdgfhfpcbcfaa
