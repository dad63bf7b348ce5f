/-
  No cell of these rows narrows 'for every input' (looked for: loops, veiled, ifaces, maps, wideKeys, modest, calm, conditions, laid).
  DERIVED. THE GIVEN ROWS OF THIS SEAT. 10 by the template 'for every input the law returns true; each argument reads behind the call as it read before'; 0 by the template 'total and deterministic' (their statements: YtfjdgfhfpcbcfaaTotals.lean).
  GIVEN WITH THE SEED: the statements are not yours to turn. If you find one false, say at which input.
  Laid BY PROGRAM, IN A SANDBOX (cutbox-rows.mjs): the forced cells as the released guide's own fill.sh prints them over the translation 2149387f727de4b9… (all of the seat's roots in one cut). By AI agents, Wed Nov 11 2026. No macro, syntax, notation, axiom, sorry.
-/
import Derived.Test.YtfjdgfhfpcbcfaaChecked
import GoSem.Claim
import GoSem.ClaimJoined
import GoSem.ClaimMapViews
import Derived.JoinedTies
import Derived.KernelRfl
namespace Go.Proofs.Ytfjdgfhfpcbcfaa
/- THE CELL 'sum', in the pinned program and in every row, IS THE sha256 OF THE DUMP (.gsa) THAT YtfjdgfhfpcbcfaaProg.lean LOADS. Nothing in Lean hashes anything: it is a label: what it is worth is what the hold of that sum in a sandbox is worth. -/
noncomputable def Try.pinned : Pinned := { name := "ytfjdgfhfpcbcfaa", sum := "2149387f727de4b9d937f065502d8e66700ce63649b91eada7f9191d1a812653", checked := Try.checked }
namespace Rows
def none {H : Type} : Left H := { results := [], args := [] }

/-- 'laws.FnExactHex': WHATEVER THE INPUT: true; the input reads as it did. -/
def fnExactHexSpec : ChangeSpec := { name := "fnExactHex", fn := fun _ => fun
  | [d] => { results := [.lit (.bool true)], args := [d] }
  | _ => none }
def fnExactHexRow : OpenClaim := { program := "ytfjdgfhfpcbcfaa", sum := "2149387f727de4b9d937f065502d8e66700ce63649b91eada7f9191d1a812653", func := "loop.example/pub-tomltexts/laws.FnExactHex", spec := "fnExactHex", apart := false }
def FnExactHexSaid : Prop := fnExactHexRow.holds Try.pinned (OpenSpec.ofChange fnExactHexSpec)

/-- ITS FALSE NEIGHBOUR: 'it returns false'. Refute it at one input. -/
def fnExactHexWrong : ChangeSpec := { name := "fnExactHex", fn := fun _ => fun
  | [d] => { results := [.lit (.bool false)], args := [d] }
  | _ => none }
def FnExactHexWrongFalsely : Prop := fnExactHexRow.holds Try.pinned (OpenSpec.ofChange fnExactHexWrong)

/-- 'laws.FnExactWhitespace': WHATEVER THE INPUT: true; the input reads as it did. -/
def fnExactWhitespaceSpec : ChangeSpec := { name := "fnExactWhitespace", fn := fun _ => fun
  | [d] => { results := [.lit (.bool true)], args := [d] }
  | _ => none }
def fnExactWhitespaceRow : OpenClaim := { program := "ytfjdgfhfpcbcfaa", sum := "2149387f727de4b9d937f065502d8e66700ce63649b91eada7f9191d1a812653", func := "loop.example/pub-tomltexts/laws.FnExactWhitespace", spec := "fnExactWhitespace", apart := false }
def FnExactWhitespaceSaid : Prop := fnExactWhitespaceRow.holds Try.pinned (OpenSpec.ofChange fnExactWhitespaceSpec)

/-- ITS FALSE NEIGHBOUR: 'it returns false'. Refute it at one input. -/
def fnExactWhitespaceWrong : ChangeSpec := { name := "fnExactWhitespace", fn := fun _ => fun
  | [d] => { results := [.lit (.bool false)], args := [d] }
  | _ => none }
def FnExactWhitespaceWrongFalsely : Prop := fnExactWhitespaceRow.holds Try.pinned (OpenSpec.ofChange fnExactWhitespaceWrong)

/-- 'laws.FnExactBareKeyChar': WHATEVER THE INPUT: true; the input reads as it did. -/
def fnExactBareKeyCharSpec : ChangeSpec := { name := "fnExactBareKeyChar", fn := fun _ => fun
  | [d] => { results := [.lit (.bool true)], args := [d] }
  | _ => none }
def fnExactBareKeyCharRow : OpenClaim := { program := "ytfjdgfhfpcbcfaa", sum := "2149387f727de4b9d937f065502d8e66700ce63649b91eada7f9191d1a812653", func := "loop.example/pub-tomltexts/laws.FnExactBareKeyChar", spec := "fnExactBareKeyChar", apart := false }
def FnExactBareKeyCharSaid : Prop := fnExactBareKeyCharRow.holds Try.pinned (OpenSpec.ofChange fnExactBareKeyCharSpec)

/-- ITS FALSE NEIGHBOUR: 'it returns false'. Refute it at one input. -/
def fnExactBareKeyCharWrong : ChangeSpec := { name := "fnExactBareKeyChar", fn := fun _ => fun
  | [d] => { results := [.lit (.bool false)], args := [d] }
  | _ => none }
def FnExactBareKeyCharWrongFalsely : Prop := fnExactBareKeyCharRow.holds Try.pinned (OpenSpec.ofChange fnExactBareKeyCharWrong)

/-- 'laws.FnExactLeadingZero': WHATEVER THE INPUT: true; the input reads as it did. -/
def fnExactLeadingZeroSpec : ChangeSpec := { name := "fnExactLeadingZero", fn := fun _ => fun
  | [d] => { results := [.lit (.bool true)], args := [d] }
  | _ => none }
def fnExactLeadingZeroRow : OpenClaim := { program := "ytfjdgfhfpcbcfaa", sum := "2149387f727de4b9d937f065502d8e66700ce63649b91eada7f9191d1a812653", func := "loop.example/pub-tomltexts/laws.FnExactLeadingZero", spec := "fnExactLeadingZero", apart := false }
def FnExactLeadingZeroSaid : Prop := fnExactLeadingZeroRow.holds Try.pinned (OpenSpec.ofChange fnExactLeadingZeroSpec)

/-- ITS FALSE NEIGHBOUR: 'it returns false'. Refute it at one input. -/
def fnExactLeadingZeroWrong : ChangeSpec := { name := "fnExactLeadingZero", fn := fun _ => fun
  | [d] => { results := [.lit (.bool false)], args := [d] }
  | _ => none }
def FnExactLeadingZeroWrongFalsely : Prop := fnExactLeadingZeroRow.holds Try.pinned (OpenSpec.ofChange fnExactLeadingZeroWrong)

/-- 'laws.FnStripFirst': WHATEVER THE INPUT: true; the input reads as it did. -/
def fnStripFirstSpec : ChangeSpec := { name := "fnStripFirst", fn := fun _ => fun
  | [d] => { results := [.lit (.bool true)], args := [d] }
  | _ => none }
def fnStripFirstRow : OpenClaim := { program := "ytfjdgfhfpcbcfaa", sum := "2149387f727de4b9d937f065502d8e66700ce63649b91eada7f9191d1a812653", func := "loop.example/pub-tomltexts/laws.FnStripFirst", spec := "fnStripFirst", apart := false }
def FnStripFirstSaid : Prop := fnStripFirstRow.holds Try.pinned (OpenSpec.ofChange fnStripFirstSpec)

/-- ITS FALSE NEIGHBOUR: 'it returns false'. Refute it at one input. -/
def fnStripFirstWrong : ChangeSpec := { name := "fnStripFirst", fn := fun _ => fun
  | [d] => { results := [.lit (.bool false)], args := [d] }
  | _ => none }
def FnStripFirstWrongFalsely : Prop := fnStripFirstRow.holds Try.pinned (OpenSpec.ofChange fnStripFirstWrong)

/-- 'laws.FnExactAddDecimal': WHATEVER THE INPUT: true; the input reads as it did. -/
def fnExactAddDecimalSpec : ChangeSpec := { name := "fnExactAddDecimal", fn := fun _ => fun
  | [d] => { results := [.lit (.bool true)], args := [d] }
  | _ => none }
def fnExactAddDecimalRow : OpenClaim := { program := "ytfjdgfhfpcbcfaa", sum := "2149387f727de4b9d937f065502d8e66700ce63649b91eada7f9191d1a812653", func := "loop.example/pub-tomltexts/laws.FnExactAddDecimal", spec := "fnExactAddDecimal", apart := false }
def FnExactAddDecimalSaid : Prop := fnExactAddDecimalRow.holds Try.pinned (OpenSpec.ofChange fnExactAddDecimalSpec)

/-- ITS FALSE NEIGHBOUR: 'it returns false'. Refute it at one input. -/
def fnExactAddDecimalWrong : ChangeSpec := { name := "fnExactAddDecimal", fn := fun _ => fun
  | [d] => { results := [.lit (.bool false)], args := [d] }
  | _ => none }
def FnExactAddDecimalWrongFalsely : Prop := fnExactAddDecimalRow.holds Try.pinned (OpenSpec.ofChange fnExactAddDecimalWrong)

/-- 'laws.FnExactPeriods': WHATEVER THE INPUT: true; the input reads as it did. -/
def fnExactPeriodsSpec : ChangeSpec := { name := "fnExactPeriods", fn := fun _ => fun
  | [d] => { results := [.lit (.bool true)], args := [d] }
  | _ => none }
def fnExactPeriodsRow : OpenClaim := { program := "ytfjdgfhfpcbcfaa", sum := "2149387f727de4b9d937f065502d8e66700ce63649b91eada7f9191d1a812653", func := "loop.example/pub-tomltexts/laws.FnExactPeriods", spec := "fnExactPeriods", apart := false }
def FnExactPeriodsSaid : Prop := fnExactPeriodsRow.holds Try.pinned (OpenSpec.ofChange fnExactPeriodsSpec)

/-- ITS FALSE NEIGHBOUR: 'it returns false'. Refute it at one input. -/
def fnExactPeriodsWrong : ChangeSpec := { name := "fnExactPeriods", fn := fun _ => fun
  | [d] => { results := [.lit (.bool false)], args := [d] }
  | _ => none }
def FnExactPeriodsWrongFalsely : Prop := fnExactPeriodsRow.holds Try.pinned (OpenSpec.ofChange fnExactPeriodsWrong)

/-- 'laws.FnExactRepl': WHATEVER THE INPUT: true; the input reads as it did. -/
def fnExactReplSpec : ChangeSpec := { name := "fnExactRepl", fn := fun _ => fun
  | [d] => { results := [.lit (.bool true)], args := [d] }
  | _ => none }
def fnExactReplRow : OpenClaim := { program := "ytfjdgfhfpcbcfaa", sum := "2149387f727de4b9d937f065502d8e66700ce63649b91eada7f9191d1a812653", func := "loop.example/pub-tomltexts/laws.FnExactRepl", spec := "fnExactRepl", apart := false }
def FnExactReplSaid : Prop := fnExactReplRow.holds Try.pinned (OpenSpec.ofChange fnExactReplSpec)

/-- ITS FALSE NEIGHBOUR: 'it returns false'. Refute it at one input. -/
def fnExactReplWrong : ChangeSpec := { name := "fnExactRepl", fn := fun _ => fun
  | [d] => { results := [.lit (.bool false)], args := [d] }
  | _ => none }
def FnExactReplWrongFalsely : Prop := fnExactReplRow.holds Try.pinned (OpenSpec.ofChange fnExactReplWrong)

/-- 'laws.FnExactUnderscores': WHATEVER THE INPUT: true; the input reads as it did. -/
def fnExactUnderscoresSpec : ChangeSpec := { name := "fnExactUnderscores", fn := fun _ => fun
  | [d] => { results := [.lit (.bool true)], args := [d] }
  | _ => none }
def fnExactUnderscoresRow : OpenClaim := { program := "ytfjdgfhfpcbcfaa", sum := "2149387f727de4b9d937f065502d8e66700ce63649b91eada7f9191d1a812653", func := "loop.example/pub-tomltexts/laws.FnExactUnderscores", spec := "fnExactUnderscores", apart := false }
def FnExactUnderscoresSaid : Prop := fnExactUnderscoresRow.holds Try.pinned (OpenSpec.ofChange fnExactUnderscoresSpec)

/-- ITS FALSE NEIGHBOUR: 'it returns false'. Refute it at one input. -/
def fnExactUnderscoresWrong : ChangeSpec := { name := "fnExactUnderscores", fn := fun _ => fun
  | [d] => { results := [.lit (.bool false)], args := [d] }
  | _ => none }
def FnExactUnderscoresWrongFalsely : Prop := fnExactUnderscoresRow.holds Try.pinned (OpenSpec.ofChange fnExactUnderscoresWrong)

/-- 'laws.FnKeyBare': WHATEVER THE INPUT: true; the input reads as it did. -/
def fnKeyBareSpec : ChangeSpec := { name := "fnKeyBare", fn := fun _ => fun
  | [d] => { results := [.lit (.bool true)], args := [d] }
  | _ => none }
def fnKeyBareRow : OpenClaim := { program := "ytfjdgfhfpcbcfaa", sum := "2149387f727de4b9d937f065502d8e66700ce63649b91eada7f9191d1a812653", func := "loop.example/pub-tomltexts/laws.FnKeyBare", spec := "fnKeyBare", inPlace := ["internal/abi.NoEscape", "internal/bytealg.MakeNoZero"], apart := false }
def FnKeyBareSaid : Prop := fnKeyBareRow.holds Try.pinned (OpenSpec.ofChange fnKeyBareSpec)

/-- ITS FALSE NEIGHBOUR: 'it returns false'. Refute it at one input. -/
def fnKeyBareWrong : ChangeSpec := { name := "fnKeyBare", fn := fun _ => fun
  | [d] => { results := [.lit (.bool false)], args := [d] }
  | _ => none }
def FnKeyBareWrongFalsely : Prop := fnKeyBareRow.holds Try.pinned (OpenSpec.ofChange fnKeyBareWrong)

/- THE SECOND FORM. 'bulk': how many values and letters a reading holds, each counted each time it is reached (what is shared counts as often as it is met; a slice's spare places count too). A statement '..UptoSaid' is the law's where the arguments, and the package variables that the reading takes, are together of bulk at most 1048576: NARROWER than '..Said'. Prove '..Said' where nothing that the law and all that it calls make is longer than what came in: it says more and counts as full. Else prove '..UptoSaid'. A law counts once. -/
mutual
def uptoBulk {H : Type} : DataW H → Nat
  | .lit (.string bytes) => bytes.length + 1
  | .lit _ => 1
  | .nil => 1
  | .ptr d => uptoBulk d + 1
  | .slice elems spare => uptoBulkAll elems + uptoBulkAll spare + 1
  | .agg parts => uptoBulkAll parts + 1
  | .iface _ d => uptoBulk d + 1
  | .map entries => uptoBulkEntries entries + 1
  | .held _ => 1
def uptoBulkAll {H : Type} : List (DataW H) → Nat
  | [] => 0
  | d :: r => uptoBulk d + uptoBulkAll r
def uptoBulkEntries {H : Type} : List (Lit × DataW H) → Nat
  | [] => 0
  | x :: r => uptoBulkEntry x + uptoBulkEntries r
def uptoBulkEntry {H : Type} : Lit × DataW H → Nat
  | (.string bytes, d) => bytes.length + uptoBulk d + 1
  | (_, d) => uptoBulk d + 1
 end
def uptoSmall : (H : Type) → List (DataW H) → Bool := fun _ ds => decide (uptoBulkAll ds ≤ 1048576)
def OpenSpec.upto (s : _root_.Go.ChangeSpec) : _root_.Go.OpenSpec := { _root_.Go.OpenSpec.ofChange s with cond := some uptoSmall }

/-- 'laws.FnExactHex', WHERE WHAT IT READS IS OF BULK AT MOST 1048576: true; the input reads as it did. -/
def fnExactHexUptoRow : OpenClaim := { program := "ytfjdgfhfpcbcfaa", sum := "2149387f727de4b9d937f065502d8e66700ce63649b91eada7f9191d1a812653", func := "loop.example/pub-tomltexts/laws.FnExactHex", spec := "fnExactHex", apart := false, narrowed := true }
def FnExactHexUptoSaid : Prop := fnExactHexUptoRow.holds Try.pinned (OpenSpec.upto fnExactHexSpec)

/-- 'laws.FnExactWhitespace', WHERE WHAT IT READS IS OF BULK AT MOST 1048576: true; the input reads as it did. -/
def fnExactWhitespaceUptoRow : OpenClaim := { program := "ytfjdgfhfpcbcfaa", sum := "2149387f727de4b9d937f065502d8e66700ce63649b91eada7f9191d1a812653", func := "loop.example/pub-tomltexts/laws.FnExactWhitespace", spec := "fnExactWhitespace", apart := false, narrowed := true }
def FnExactWhitespaceUptoSaid : Prop := fnExactWhitespaceUptoRow.holds Try.pinned (OpenSpec.upto fnExactWhitespaceSpec)

/-- 'laws.FnExactBareKeyChar', WHERE WHAT IT READS IS OF BULK AT MOST 1048576: true; the input reads as it did. -/
def fnExactBareKeyCharUptoRow : OpenClaim := { program := "ytfjdgfhfpcbcfaa", sum := "2149387f727de4b9d937f065502d8e66700ce63649b91eada7f9191d1a812653", func := "loop.example/pub-tomltexts/laws.FnExactBareKeyChar", spec := "fnExactBareKeyChar", apart := false, narrowed := true }
def FnExactBareKeyCharUptoSaid : Prop := fnExactBareKeyCharUptoRow.holds Try.pinned (OpenSpec.upto fnExactBareKeyCharSpec)

/-- 'laws.FnExactLeadingZero', WHERE WHAT IT READS IS OF BULK AT MOST 1048576: true; the input reads as it did. -/
def fnExactLeadingZeroUptoRow : OpenClaim := { program := "ytfjdgfhfpcbcfaa", sum := "2149387f727de4b9d937f065502d8e66700ce63649b91eada7f9191d1a812653", func := "loop.example/pub-tomltexts/laws.FnExactLeadingZero", spec := "fnExactLeadingZero", apart := false, narrowed := true }
def FnExactLeadingZeroUptoSaid : Prop := fnExactLeadingZeroUptoRow.holds Try.pinned (OpenSpec.upto fnExactLeadingZeroSpec)

/-- 'laws.FnStripFirst', WHERE WHAT IT READS IS OF BULK AT MOST 1048576: true; the input reads as it did. -/
def fnStripFirstUptoRow : OpenClaim := { program := "ytfjdgfhfpcbcfaa", sum := "2149387f727de4b9d937f065502d8e66700ce63649b91eada7f9191d1a812653", func := "loop.example/pub-tomltexts/laws.FnStripFirst", spec := "fnStripFirst", apart := false, narrowed := true }
def FnStripFirstUptoSaid : Prop := fnStripFirstUptoRow.holds Try.pinned (OpenSpec.upto fnStripFirstSpec)

/-- 'laws.FnExactAddDecimal', WHERE WHAT IT READS IS OF BULK AT MOST 1048576: true; the input reads as it did. -/
def fnExactAddDecimalUptoRow : OpenClaim := { program := "ytfjdgfhfpcbcfaa", sum := "2149387f727de4b9d937f065502d8e66700ce63649b91eada7f9191d1a812653", func := "loop.example/pub-tomltexts/laws.FnExactAddDecimal", spec := "fnExactAddDecimal", apart := false, narrowed := true }
def FnExactAddDecimalUptoSaid : Prop := fnExactAddDecimalUptoRow.holds Try.pinned (OpenSpec.upto fnExactAddDecimalSpec)

/-- 'laws.FnExactPeriods', WHERE WHAT IT READS IS OF BULK AT MOST 1048576: true; the input reads as it did. -/
def fnExactPeriodsUptoRow : OpenClaim := { program := "ytfjdgfhfpcbcfaa", sum := "2149387f727de4b9d937f065502d8e66700ce63649b91eada7f9191d1a812653", func := "loop.example/pub-tomltexts/laws.FnExactPeriods", spec := "fnExactPeriods", apart := false, narrowed := true }
def FnExactPeriodsUptoSaid : Prop := fnExactPeriodsUptoRow.holds Try.pinned (OpenSpec.upto fnExactPeriodsSpec)

/-- 'laws.FnExactRepl', WHERE WHAT IT READS IS OF BULK AT MOST 1048576: true; the input reads as it did. -/
def fnExactReplUptoRow : OpenClaim := { program := "ytfjdgfhfpcbcfaa", sum := "2149387f727de4b9d937f065502d8e66700ce63649b91eada7f9191d1a812653", func := "loop.example/pub-tomltexts/laws.FnExactRepl", spec := "fnExactRepl", apart := false, narrowed := true }
def FnExactReplUptoSaid : Prop := fnExactReplUptoRow.holds Try.pinned (OpenSpec.upto fnExactReplSpec)

/-- 'laws.FnExactUnderscores', WHERE WHAT IT READS IS OF BULK AT MOST 1048576: true; the input reads as it did. -/
def fnExactUnderscoresUptoRow : OpenClaim := { program := "ytfjdgfhfpcbcfaa", sum := "2149387f727de4b9d937f065502d8e66700ce63649b91eada7f9191d1a812653", func := "loop.example/pub-tomltexts/laws.FnExactUnderscores", spec := "fnExactUnderscores", apart := false, narrowed := true }
def FnExactUnderscoresUptoSaid : Prop := fnExactUnderscoresUptoRow.holds Try.pinned (OpenSpec.upto fnExactUnderscoresSpec)

/-- 'laws.FnKeyBare', WHERE WHAT IT READS IS OF BULK AT MOST 1048576: true; the input reads as it did. -/
def fnKeyBareUptoRow : OpenClaim := { program := "ytfjdgfhfpcbcfaa", sum := "2149387f727de4b9d937f065502d8e66700ce63649b91eada7f9191d1a812653", func := "loop.example/pub-tomltexts/laws.FnKeyBare", spec := "fnKeyBare", inPlace := ["internal/abi.NoEscape", "internal/bytealg.MakeNoZero"], apart := false, narrowed := true }
def FnKeyBareUptoSaid : Prop := fnKeyBareUptoRow.holds Try.pinned (OpenSpec.upto fnKeyBareSpec)

end Rows
end Go.Proofs.Ytfjdgfhfpcbcfaa
