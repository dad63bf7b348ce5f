/-
  The bytes of a string, converted, stand in a new row that may be written. No condition; the program is a variable.
-/
import Derived.Lib.ConvBytes
import Derived.Below
import Derived.WalkKit
namespace Go.Proofs.Ytfjdgfhfpcbcfaa
open Go Go.RowKit

theorem getD_byte (s : ByteArray) (j : Nat) (h : j < s.size) : s.data.toList.getD j 0 = s[j]'h := by
  have e : s.data.toList[j]? = some (s[j]'h) := by
    rw [Array.getElem?_toList]
    exact Array.getElem?_eq_getElem h
  simp [List.getD, e]

theorem bytes_of {P : Program} (t r e : TypeId) (d : ByteArray) (w : World) (ht : P.underlying t = some .string) (hr : P.underlying r = some (.slice e)) (he : P.underlying e = some (.int .u8)) :
    ∃ (cap : Nat) (W : World), (convert t r (.string d)).run P w = .ok (.slice (some ⟨w.heap.size, 0, none⟩) d.size cap) W ∧ Below w.heap.size w W ∧ W.heap.size = w.heap.size + 1 ∧
      (∀ i (h : i < d.size), W.cell? ⟨w.heap.size, i, none⟩ = some (.int .u8 ((d[i]'h).toNat : Int))) ∧
      (∀ i, i < d.size → W.frozen? ⟨w.heap.size, i, none⟩ = false) := by
  refine ⟨_, _, Lib.run_convert_string_bytes w t r e d ht hr he, ⟨?_, ?_, ?_, ?_, ?_⟩, Lib.bytesWorld_size w e d, ?_, ?_⟩
  · rfl
  · rfl
  · rfl
  · rw [Lib.bytesWorld_size]; omega
  · intro k hk; exact Lib.bytesWorld_at_old w e d k hk
  · intro i h
    rw [Lib.bytesWorld_cell w e d i h, getD_byte d i h]
  · intro i h
    have hsz : d.size ≤ (Lib.bytesCells w e d).size := by
      unfold Lib.bytesCells
      simp
    unfold World.frozen?
    simp only [Lib.bytesWorld_at_new]
    simp only [Bool.and_eq_false_imp, decide_eq_true_eq, decide_eq_false_iff_not]
    omega
end Go.Proofs.Ytfjdgfhfpcbcfaa
