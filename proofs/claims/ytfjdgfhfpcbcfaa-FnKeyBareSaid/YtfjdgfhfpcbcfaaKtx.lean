/-
  impl.KeyText hands back the pieces with points between, and keyed returns true. Conditions: 1 to 20 pieces, each of signs of bare keys, not empty, of at most 1000 bytes.
-/
import Derived.Test.YtfjdgfhfpcbcfaaKey
import Derived.OwnWalk
import Derived.Laws.IdiomStrings
namespace Go.Proofs.Ytfjdgfhfpcbcfaa
open Go Go.RowKit
set_option linter.unusedVariables false

/-- The strings as cells. -/
def texts (f : Nat → ByteArray) (n : Nat) : List Value := (List.range n).map fun i => Value.string (f i)
theorem texts_length (f : Nat → ByteArray) (n : Nat) : (texts f n).length = n := by simp [texts]
theorem texts_at (f : Nat → ByteArray) (n j : Nat) (u : Value) (h : (texts f n)[j]? = some u) : j < n ∧ u = .string (f j) := by
  have hj : j < n := by
    have := (List.getElem?_eq_some_iff.1 h).1
    rwa [texts_length] at this
  refine ⟨hj, ?_⟩
  simp [texts, hj] at h
  exact h.symm
theorem texts_one (f : Nat → ByteArray) (n : Nat) : ∀ u ∈ texts f n, u.oneCell' = true := by
  intro u hu
  simp only [texts, List.mem_map] at hu
  obtain ⟨i, _, rfl⟩ := hu
  rfl
theorem addr_add (b off j : Nat) : (⟨b, off, none⟩ : Addr).add j = ⟨b, off + j, none⟩ := by
  by_cases h0 : j = 0
  · subst h0; rfl
  · simp [Addr.add, h0]

theorem info9 : (Try.prog.info? 9).map (fun i => (i.zero, i.size, i.bytes)) = some (some (.string ByteArray.empty), 1, 16) := by kernel_rfl

set_option maxHeartbeats 2000000 in
set_option maxRecDepth 1000000 in
theorem key_text (b off n cap : Nat) (f : Nat → ByteArray) (w : World) (hrow : StrRow w b off n f) (hb : b < w.heap.size) (hn : n ≤ 20) (hn1 : 1 ≤ n) (hbare : ∀ i, i < n → BareText (f i)) (hlen : ∀ i, i < n → (f i).size ≤ 1000) :
    Calls Try.prog 25 #[.slice (some ⟨b, off, none⟩) n cap] w fun e w' => e = .returned (.string ⟨(joined f n).toArray⟩) ∧ Below w.heap.size w w' := by
  obtain ⟨i0, hi, hz0, hz1, hz2⟩ := info_parts info9
  have HROW : Hid (StrRow w b off n f) := hrow
  have HBARE : Hid (∀ i, i < n → BareText (f i)) := hbare
  have HLEN : Hid (∀ i, i < n → (f i).size ≤ 1000) := hlen
  clear hrow hbare hlen
  go_enter Try.func25, Try.ntmps25
  go_wp2_with (at_builtin; refine wpList_append_own _ rfl _ _ 26 rfl w.heap.size 9 i0 (.string ByteArray.empty) 1 16 Try.underlying26 hi hz0 hz1 hz2 rfl (by decide) _ 0 [] rfl ?hown ⟨b, off, none⟩ n cap (texts f n) rfl ?hl ?c1 ?c2 ?c3 ?c4 ?c5 ?_)
  case hown => exact World.ownsRow_made w #[] 0 (Nat.le_refl _) (by unfold maxLen; omega) rfl
  case hl => rw [texts_length]; omega
  case c1 =>
    intro j u hj
    obtain ⟨hjn, rfl⟩ := texts_at f n j u hj
    rw [addr_add]
    exact (HROW.out.on (B := w.heap.size) ((Below.refl _ _).alloc (Nat.le_refl _) _) hb) j hjn
  case c2 => exact texts_one f n
  case c3 => unfold maxLen; omega
  case c4 => omega
  case c5 => simp
  intro v' w1 hown hgrow hnil
  have hbel : Below w.heap.size w w1 := ((Below.refl _ _).alloc (Nat.le_refl _) _).grown hgrow (by simp) (fun k hk => by
    have e : some w.heap.size = some k := hk
    injection e with e
    omega)
  obtain ⟨g, cap2, rfl, hbase⟩ : ∃ g cap2, v' = .slice (some ⟨g, 0, none⟩) n cap2 ∧ g < w1.heap.size := by
    rcases hown.2 with ⟨_, h0⟩ | ⟨g, cap2, cur, hv, hg, hblk, _⟩
    · omega
    · exact ⟨g, cap2, hv, (Array.getElem?_eq_some_iff.1 hblk).1⟩
  have HROW1 : Hid (StrRow w1 g 0 n f) := by
    intro j hj
    have e := hown.cells (g := g) rfl j (.string (f j)) (by simp [texts, hj])
    rwa [addr_add] at e
  clear hgrow hnil hown HROW
  go_wp2_with fail
  refine (key_string g 0 n cap2 f w1 HROW1.out hbase hn HBARE.out HLEN.out).mono ?_
  rintro e w2 ⟨rfl, hb2⟩
  go_wp2_with fail
  go_ret
  exact ⟨rfl, hbel.trans (hb2.mono hbel.size)⟩

/-- The key of the law's own example. -/
def sample (i : Nat) : ByteArray := if i = 0 then ByteArray.mk #[97] else ByteArray.mk #[98]
theorem sample_joined : joined sample 2 = [97, 46, 98] := by decide
theorem sample_bare : ∀ i, i < 2 → BareText (sample i) := by
  intro i hi
  obtain rfl | rfl : i = 0 ∨ i = 1 := by omega
  · refine ⟨by decide, fun j hj => ?_⟩
    have h' : j < 1 := hj
    obtain rfl : j = 0 := by omega
    exact .inl (show (97 : Nat) ≤ 97 ∧ (97 : Nat) ≤ 122 by decide)
  · refine ⟨by decide, fun j hj => ?_⟩
    have h' : j < 1 := hj
    obtain rfl : j = 0 := by omega
    exact .inl (show (97 : Nat) ≤ 98 ∧ (98 : Nat) ≤ 122 by decide)
theorem sample_short : ∀ i, i < 2 → (sample i).size ≤ 1000 := by
  intro i hi
  obtain rfl | rfl : i = 0 ∨ i = 1 := by omega
  · decide
  · decide

set_option maxHeartbeats 1000000 in
set_option maxRecDepth 1000000 in
/-- The law's own example holds. -/
theorem keyed_any (w : World) :
    Calls Try.prog 23 #[] w fun e w' => e = .returned (.bool true) ∧ Below w.heap.size w w' := by
  go_enter Try.func23, Try.ntmps23
  go_wp2_with fail
  refine (key_text w.heap.size 0 2 2 sample _ ?hrow (by simp) (by decide) (by decide) sample_bare sample_short).mono ?_
  case hrow =>
    intro i hi
    obtain rfl | rfl : i = 0 ∨ i = 1 := by omega
    · exact World.cell?_alloc_mark w _ _ _ 0
    · exact World.cell?_alloc_mark w _ _ _ 1
  rintro e w1 ⟨rfl, hb⟩
  rw [sample_joined]
  go_wp2_with fail
  go_ret
  exact ⟨rfl, ((Below.refl _ _).alloc (Nat.le_refl _) _).trans (hb.mono (by simp))⟩
end Go.Proofs.Ytfjdgfhfpcbcfaa
