/-
  No cell of these rows narrows 'for every input' (looked for: loops, veiled, ifaces, maps, wideKeys, modest, calm, conditions, laid).
  DERIVED. THE GIVEN ROWS OF THIS SEAT. 6 by the template 'for every input the law returns true; each argument reads behind the call as it read before'; 0 by the template 'total and deterministic' (their statements: Qxb6601083aModsTotals.lean).
  GIVEN WITH THE SEED: the statements are not yours to turn. If you find one false, say at which input.
  Laid BY PROGRAM, IN A SANDBOX (cutbox-rows.mjs): the forced cells as the released guide's own fill.sh prints them over the translation 0a3a861257b0f899… (all of the seat's roots in one cut). By AI agents, Wed Nov 11 2026. No macro, syntax, notation, axiom, sorry.
-/
import Derived.Test.Qxb6601083aModsChecked
import GoSem.Claim
import GoSem.ClaimJoined
import GoSem.ClaimMapViews
import Derived.JoinedTies
import Derived.KernelRfl
namespace Go.Proofs.Qxb6601083aMods
/- THE CELL 'sum', in the pinned program and in every row, IS THE sha256 OF THE DUMP (.gsa) THAT Qxb6601083aModsProg.lean LOADS. Nothing in Lean hashes anything: it is a label: what it is worth is what the hold of that sum in a sandbox is worth. -/
noncomputable def Trym.pinned : Pinned := { name := "qxb6601083amods", sum := "0a3a861257b0f899c2ad416bc69978ee1efcb29fbf0c6ee14a5bf198dfa05adb", checked := Trym.checked }
namespace Rows
def none {H : Type} : Left H := { results := [], args := [] }

/-- 'zzlaws_internal_manifest_b1.FnExpandPassesEscapedPrefix': WHATEVER THE INPUT: true; the input reads as it did. -/
def fnExpandPassesEscapedPrefixSpec : ChangeSpec := { name := "fnExpandPassesEscapedPrefix", fn := fun _ => fun
  | [d1, d2, d3, d4] => { results := [.lit (.bool true)], args := [d1, d2, d3, d4] }
  | _ => none }
def fnExpandPassesEscapedPrefixRow : OpenClaim := { program := "qxb6601083amods", sum := "0a3a861257b0f899c2ad416bc69978ee1efcb29fbf0c6ee14a5bf198dfa05adb", func := "example.com/winddown/winddown/zzlaws_internal_manifest_b1.FnExpandPassesEscapedPrefix", spec := "fnExpandPassesEscapedPrefix", inPlace := ["internal/bytealg.IndexByteString", "internal/abi.NoEscape", "internal/bytealg.IndexString"], named := ["internal/bytealg.MaxLen"], make := .lifted ["publicsums"], apart := false }
def FnExpandPassesEscapedPrefixSaid : Prop := fnExpandPassesEscapedPrefixRow.holds Trym.pinned (OpenSpec.ofChange fnExpandPassesEscapedPrefixSpec)

/-- ITS FALSE NEIGHBOUR: 'it returns false'. Refute it at one input. -/
def fnExpandPassesEscapedPrefixWrong : ChangeSpec := { name := "fnExpandPassesEscapedPrefix", fn := fun _ => fun
  | [d1, d2, d3, d4] => { results := [.lit (.bool false)], args := [d1, d2, d3, d4] }
  | _ => none }
def FnExpandPassesEscapedPrefixWrongFalsely : Prop := fnExpandPassesEscapedPrefixRow.holds Trym.pinned (OpenSpec.ofChange fnExpandPassesEscapedPrefixWrong)

/-- 'zzlaws_internal_manifest_b1.FnExpandSubstitutesOneReference': WHATEVER THE INPUT: true; the input reads as it did. -/
def fnExpandSubstitutesOneReferenceSpec : ChangeSpec := { name := "fnExpandSubstitutesOneReference", fn := fun _ => fun
  | [d1, d2, d3, d4, d5] => { results := [.lit (.bool true)], args := [d1, d2, d3, d4, d5] }
  | _ => none }
def fnExpandSubstitutesOneReferenceRow : OpenClaim := { program := "qxb6601083amods", sum := "0a3a861257b0f899c2ad416bc69978ee1efcb29fbf0c6ee14a5bf198dfa05adb", func := "example.com/winddown/winddown/zzlaws_internal_manifest_b1.FnExpandSubstitutesOneReference", spec := "fnExpandSubstitutesOneReference", inPlace := ["internal/bytealg.IndexByteString", "internal/abi.NoEscape", "internal/bytealg.IndexString"], named := ["internal/bytealg.MaxLen"], make := .lifted ["publicsums"], apart := false }
def FnExpandSubstitutesOneReferenceSaid : Prop := fnExpandSubstitutesOneReferenceRow.holds Trym.pinned (OpenSpec.ofChange fnExpandSubstitutesOneReferenceSpec)

/-- ITS FALSE NEIGHBOUR: 'it returns false'. Refute it at one input. -/
def fnExpandSubstitutesOneReferenceWrong : ChangeSpec := { name := "fnExpandSubstitutesOneReference", fn := fun _ => fun
  | [d1, d2, d3, d4, d5] => { results := [.lit (.bool false)], args := [d1, d2, d3, d4, d5] }
  | _ => none }
def FnExpandSubstitutesOneReferenceWrongFalsely : Prop := fnExpandSubstitutesOneReferenceRow.holds Trym.pinned (OpenSpec.ofChange fnExpandSubstitutesOneReferenceWrong)

/-- 'zzlaws_internal_manifest_b1.FnOneEditApartMatchesPrefixSuffixModel': WHATEVER THE INPUT: true; the input reads as it did. -/
def fnOneEditApartMatchesPrefixSuffixModelSpec : ChangeSpec := { name := "fnOneEditApartMatchesPrefixSuffixModel", fn := fun _ => fun
  | [d1, d2] => { results := [.lit (.bool true)], args := [d1, d2] }
  | _ => none }
def fnOneEditApartMatchesPrefixSuffixModelRow : OpenClaim := { program := "qxb6601083amods", sum := "0a3a861257b0f899c2ad416bc69978ee1efcb29fbf0c6ee14a5bf198dfa05adb", func := "example.com/winddown/winddown/zzlaws_internal_manifest_b1.FnOneEditApartMatchesPrefixSuffixModel", spec := "fnOneEditApartMatchesPrefixSuffixModel", make := .lifted ["publicsums"], apart := false }
def FnOneEditApartMatchesPrefixSuffixModelSaid : Prop := fnOneEditApartMatchesPrefixSuffixModelRow.holds Trym.pinned (OpenSpec.ofChange fnOneEditApartMatchesPrefixSuffixModelSpec)

/-- ITS FALSE NEIGHBOUR: 'it returns false'. Refute it at one input. -/
def fnOneEditApartMatchesPrefixSuffixModelWrong : ChangeSpec := { name := "fnOneEditApartMatchesPrefixSuffixModel", fn := fun _ => fun
  | [d1, d2] => { results := [.lit (.bool false)], args := [d1, d2] }
  | _ => none }
def FnOneEditApartMatchesPrefixSuffixModelWrongFalsely : Prop := fnOneEditApartMatchesPrefixSuffixModelRow.holds Trym.pinned (OpenSpec.ofChange fnOneEditApartMatchesPrefixSuffixModelWrong)

/-- 'zzlaws_internal_manifest_b1.FnOneEditApartIgnoresOrderAndDirection': WHATEVER THE INPUT: true; the input reads as it did. -/
def fnOneEditApartIgnoresOrderAndDirectionSpec : ChangeSpec := { name := "fnOneEditApartIgnoresOrderAndDirection", fn := fun _ => fun
  | [d1, d2] => { results := [.lit (.bool true)], args := [d1, d2] }
  | _ => none }
def fnOneEditApartIgnoresOrderAndDirectionRow : OpenClaim := { program := "qxb6601083amods", sum := "0a3a861257b0f899c2ad416bc69978ee1efcb29fbf0c6ee14a5bf198dfa05adb", func := "example.com/winddown/winddown/zzlaws_internal_manifest_b1.FnOneEditApartIgnoresOrderAndDirection", spec := "fnOneEditApartIgnoresOrderAndDirection", make := .lifted ["publicsums"], apart := false }
def FnOneEditApartIgnoresOrderAndDirectionSaid : Prop := fnOneEditApartIgnoresOrderAndDirectionRow.holds Trym.pinned (OpenSpec.ofChange fnOneEditApartIgnoresOrderAndDirectionSpec)

/-- ITS FALSE NEIGHBOUR: 'it returns false'. Refute it at one input. -/
def fnOneEditApartIgnoresOrderAndDirectionWrong : ChangeSpec := { name := "fnOneEditApartIgnoresOrderAndDirection", fn := fun _ => fun
  | [d1, d2] => { results := [.lit (.bool false)], args := [d1, d2] }
  | _ => none }
def FnOneEditApartIgnoresOrderAndDirectionWrongFalsely : Prop := fnOneEditApartIgnoresOrderAndDirectionRow.holds Trym.pinned (OpenSpec.ofChange fnOneEditApartIgnoresOrderAndDirectionWrong)

/-- 'zzlaws_internal_manifest_b1.FnOneEditApartAcceptsEverySingleEdit': WHATEVER THE INPUT: true; the input reads as it did. -/
def fnOneEditApartAcceptsEverySingleEditSpec : ChangeSpec := { name := "fnOneEditApartAcceptsEverySingleEdit", fn := fun _ => fun
  | [d1, d2, d3, d4] => { results := [.lit (.bool true)], args := [d1, d2, d3, d4] }
  | _ => none }
def fnOneEditApartAcceptsEverySingleEditRow : OpenClaim := { program := "qxb6601083amods", sum := "0a3a861257b0f899c2ad416bc69978ee1efcb29fbf0c6ee14a5bf198dfa05adb", func := "example.com/winddown/winddown/zzlaws_internal_manifest_b1.FnOneEditApartAcceptsEverySingleEdit", spec := "fnOneEditApartAcceptsEverySingleEdit", make := .lifted ["publicsums"], apart := false }
def FnOneEditApartAcceptsEverySingleEditSaid : Prop := fnOneEditApartAcceptsEverySingleEditRow.holds Trym.pinned (OpenSpec.ofChange fnOneEditApartAcceptsEverySingleEditSpec)

/-- ITS FALSE NEIGHBOUR: 'it returns false'. Refute it at one input. -/
def fnOneEditApartAcceptsEverySingleEditWrong : ChangeSpec := { name := "fnOneEditApartAcceptsEverySingleEdit", fn := fun _ => fun
  | [d1, d2, d3, d4] => { results := [.lit (.bool false)], args := [d1, d2, d3, d4] }
  | _ => none }
def FnOneEditApartAcceptsEverySingleEditWrongFalsely : Prop := fnOneEditApartAcceptsEverySingleEditRow.holds Trym.pinned (OpenSpec.ofChange fnOneEditApartAcceptsEverySingleEditWrong)

/-- 'zzlaws_internal_manifest_b1.FnExpandedReturnsEscapedWordsVerbatim': WHATEVER THE INPUT: true; the input reads as it did. -/
def fnExpandedReturnsEscapedWordsVerbatimSpec : ChangeSpec := { name := "fnExpandedReturnsEscapedWordsVerbatim", fn := fun _ => fun
  | [d1, d2, d3, d4] => { results := [.lit (.bool true)], args := [d1, d2, d3, d4] }
  | _ => none }
def fnExpandedReturnsEscapedWordsVerbatimRow : OpenClaim := { program := "qxb6601083amods", sum := "0a3a861257b0f899c2ad416bc69978ee1efcb29fbf0c6ee14a5bf198dfa05adb", func := "example.com/winddown/winddown/zzlaws_internal_manifest_b1.FnExpandedReturnsEscapedWordsVerbatim", spec := "fnExpandedReturnsEscapedWordsVerbatim", inPlace := ["internal/bytealg.IndexByteString", "internal/abi.NoEscape", "internal/bytealg.IndexString"], named := ["internal/bytealg.MaxLen"], make := .lifted ["publicsums"], apart := false }
def FnExpandedReturnsEscapedWordsVerbatimSaid : Prop := fnExpandedReturnsEscapedWordsVerbatimRow.holds Trym.pinned (OpenSpec.ofChange fnExpandedReturnsEscapedWordsVerbatimSpec)

/-- ITS FALSE NEIGHBOUR: 'it returns false'. Refute it at one input. -/
def fnExpandedReturnsEscapedWordsVerbatimWrong : ChangeSpec := { name := "fnExpandedReturnsEscapedWordsVerbatim", fn := fun _ => fun
  | [d1, d2, d3, d4] => { results := [.lit (.bool false)], args := [d1, d2, d3, d4] }
  | _ => none }
def FnExpandedReturnsEscapedWordsVerbatimWrongFalsely : Prop := fnExpandedReturnsEscapedWordsVerbatimRow.holds Trym.pinned (OpenSpec.ofChange fnExpandedReturnsEscapedWordsVerbatimWrong)

end Rows
end Go.Proofs.Qxb6601083aMods
