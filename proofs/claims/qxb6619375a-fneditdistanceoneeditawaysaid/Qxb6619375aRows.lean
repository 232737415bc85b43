/-
  No cell of these rows narrows 'for every input' (looked for: loops, veiled, ifaces, maps, wideKeys, modest, calm, conditions, laid).
  DERIVED. THE GIVEN ROWS OF THIS SEAT. 5 by the template 'for every input the law returns true; each argument reads behind the call as it read before'; 0 by the template 'total and deterministic' (their statements: Qxb6619375aTotals.lean).
  GIVEN WITH THE SEED: the statements are not yours to turn. If you find one false, say at which input.
  Laid BY PROGRAM, IN A SANDBOX (cutbox-rows.mjs): the forced cells as the released guide's own fill.sh prints them over the translation 515df82cb3b8ed94… (all of the seat's roots in one cut). By AI agents, Wed Nov 11 2026. No macro, syntax, notation, axiom, sorry.
-/
import Derived.Test.Qxb6619375aChecked
import GoSem.Claim
import GoSem.ClaimJoined
import GoSem.ClaimMapViews
import Derived.JoinedTies
import Derived.KernelRfl
namespace Go.Proofs.Qxb6619375a
/- THE CELL 'sum', in the pinned program and in every row, IS THE sha256 OF THE DUMP (.gsa) THAT Qxb6619375aProg.lean LOADS. Nothing in Lean hashes anything: it is a label: what it is worth is what the hold of that sum in a sandbox is worth. -/
noncomputable def Try.pinned : Pinned := { name := "qxb6619375a", sum := "515df82cb3b8ed9441c5bf588bc8673f7cc16ae54ba39eb94ddf28fdc2ac3dc3", checked := Try.checked }
namespace Rows
def none {H : Type} : Left H := { results := [], args := [] }

/-- 'zzlaws_root_b1.FnHex4ReadsFourHexDigits': WHATEVER THE INPUT: true; the input reads as it did. -/
def fnHex4ReadsFourHexDigitsSpec : ChangeSpec := { name := "fnHex4ReadsFourHexDigits", fn := fun _ => fun
  | [d1, d2, d3, d4, d5] => { results := [.lit (.bool true)], args := [d1, d2, d3, d4, d5] }
  | _ => none }
def fnHex4ReadsFourHexDigitsRow : OpenClaim := { program := "qxb6619375a", sum := "515df82cb3b8ed9441c5bf588bc8673f7cc16ae54ba39eb94ddf28fdc2ac3dc3", func := "example.com/gantry/gantry/zzlaws_root_b1.FnHex4ReadsFourHexDigits", spec := "fnHex4ReadsFourHexDigits", apart := false }
def FnHex4ReadsFourHexDigitsSaid : Prop := fnHex4ReadsFourHexDigitsRow.holds Try.pinned (OpenSpec.ofChange fnHex4ReadsFourHexDigitsSpec)

/-- ITS FALSE NEIGHBOUR: 'it returns false'. Refute it at one input. -/
def fnHex4ReadsFourHexDigitsWrong : ChangeSpec := { name := "fnHex4ReadsFourHexDigits", fn := fun _ => fun
  | [d1, d2, d3, d4, d5] => { results := [.lit (.bool false)], args := [d1, d2, d3, d4, d5] }
  | _ => none }
def FnHex4ReadsFourHexDigitsWrongFalsely : Prop := fnHex4ReadsFourHexDigitsRow.holds Try.pinned (OpenSpec.ofChange fnHex4ReadsFourHexDigitsWrong)

/-- 'zzlaws_root_b1.FnYamlNumberKeepsValueAndIsYAML11Readable': WHATEVER THE INPUT: true; the input reads as it did. -/
def fnYamlNumberKeepsValueAndIsYAML11ReadableSpec : ChangeSpec := { name := "fnYamlNumberKeepsValueAndIsYAML11Readable", fn := fun _ => fun
  | [d] => { results := [.lit (.bool true)], args := [d] }
  | _ => none }
def fnYamlNumberKeepsValueAndIsYAML11ReadableRow : OpenClaim := { program := "qxb6619375a", sum := "515df82cb3b8ed9441c5bf588bc8673f7cc16ae54ba39eb94ddf28fdc2ac3dc3", func := "example.com/gantry/gantry/zzlaws_root_b1.FnYamlNumberKeepsValueAndIsYAML11Readable", spec := "fnYamlNumberKeepsValueAndIsYAML11Readable", inPlace := ["internal/bytealg.IndexByteString", "internal/bytealg.IndexString"], named := ["internal/bytealg.MaxLen"], apart := false }
def FnYamlNumberKeepsValueAndIsYAML11ReadableSaid : Prop := fnYamlNumberKeepsValueAndIsYAML11ReadableRow.holds Try.pinned (OpenSpec.ofChange fnYamlNumberKeepsValueAndIsYAML11ReadableSpec)

/-- ITS FALSE NEIGHBOUR: 'it returns false'. Refute it at one input. -/
def fnYamlNumberKeepsValueAndIsYAML11ReadableWrong : ChangeSpec := { name := "fnYamlNumberKeepsValueAndIsYAML11Readable", fn := fun _ => fun
  | [d] => { results := [.lit (.bool false)], args := [d] }
  | _ => none }
def FnYamlNumberKeepsValueAndIsYAML11ReadableWrongFalsely : Prop := fnYamlNumberKeepsValueAndIsYAML11ReadableRow.holds Try.pinned (OpenSpec.ofChange fnYamlNumberKeepsValueAndIsYAML11ReadableWrong)

/-- 'zzlaws_root_b1.FnEditDistanceFirstRuneRecurrence': WHATEVER THE INPUT: true; the input reads as it did. -/
def fnEditDistanceFirstRuneRecurrenceSpec : ChangeSpec := { name := "fnEditDistanceFirstRuneRecurrence", fn := fun _ => fun
  | [d1, d2] => { results := [.lit (.bool true)], args := [d1, d2] }
  | _ => none }
def fnEditDistanceFirstRuneRecurrenceRow : OpenClaim := { program := "qxb6619375a", sum := "515df82cb3b8ed9441c5bf588bc8673f7cc16ae54ba39eb94ddf28fdc2ac3dc3", func := "example.com/gantry/gantry/zzlaws_root_b1.FnEditDistanceFirstRuneRecurrence", spec := "fnEditDistanceFirstRuneRecurrence", apart := false }
def FnEditDistanceFirstRuneRecurrenceSaid : Prop := fnEditDistanceFirstRuneRecurrenceRow.holds Try.pinned (OpenSpec.ofChange fnEditDistanceFirstRuneRecurrenceSpec)

/-- ITS FALSE NEIGHBOUR: 'it returns false'. Refute it at one input. -/
def fnEditDistanceFirstRuneRecurrenceWrong : ChangeSpec := { name := "fnEditDistanceFirstRuneRecurrence", fn := fun _ => fun
  | [d1, d2] => { results := [.lit (.bool false)], args := [d1, d2] }
  | _ => none }
def FnEditDistanceFirstRuneRecurrenceWrongFalsely : Prop := fnEditDistanceFirstRuneRecurrenceRow.holds Try.pinned (OpenSpec.ofChange fnEditDistanceFirstRuneRecurrenceWrong)

/-- 'zzlaws_root_b1.FnEditDistanceOneEditAway': WHATEVER THE INPUT: true; the input reads as it did. -/
def fnEditDistanceOneEditAwaySpec : ChangeSpec := { name := "fnEditDistanceOneEditAway", fn := fun _ => fun
  | [d1, d2, d3] => { results := [.lit (.bool true)], args := [d1, d2, d3] }
  | _ => none }
def fnEditDistanceOneEditAwayRow : OpenClaim := { program := "qxb6619375a", sum := "515df82cb3b8ed9441c5bf588bc8673f7cc16ae54ba39eb94ddf28fdc2ac3dc3", func := "example.com/gantry/gantry/zzlaws_root_b1.FnEditDistanceOneEditAway", spec := "fnEditDistanceOneEditAway", apart := false }
def FnEditDistanceOneEditAwaySaid : Prop := fnEditDistanceOneEditAwayRow.holds Try.pinned (OpenSpec.ofChange fnEditDistanceOneEditAwaySpec)

/-- ITS FALSE NEIGHBOUR: 'it returns false'. Refute it at one input. -/
def fnEditDistanceOneEditAwayWrong : ChangeSpec := { name := "fnEditDistanceOneEditAway", fn := fun _ => fun
  | [d1, d2, d3] => { results := [.lit (.bool false)], args := [d1, d2, d3] }
  | _ => none }
def FnEditDistanceOneEditAwayWrongFalsely : Prop := fnEditDistanceOneEditAwayRow.holds Try.pinned (OpenSpec.ofChange fnEditDistanceOneEditAwayWrong)

/-- 'zzlaws_root_b1.FnEditDistanceCommonAffixesAndSymmetry': WHATEVER THE INPUT: true; the input reads as it did. -/
def fnEditDistanceCommonAffixesAndSymmetrySpec : ChangeSpec := { name := "fnEditDistanceCommonAffixesAndSymmetry", fn := fun _ => fun
  | [d1, d2, d3, d4] => { results := [.lit (.bool true)], args := [d1, d2, d3, d4] }
  | _ => none }
def fnEditDistanceCommonAffixesAndSymmetryRow : OpenClaim := { program := "qxb6619375a", sum := "515df82cb3b8ed9441c5bf588bc8673f7cc16ae54ba39eb94ddf28fdc2ac3dc3", func := "example.com/gantry/gantry/zzlaws_root_b1.FnEditDistanceCommonAffixesAndSymmetry", spec := "fnEditDistanceCommonAffixesAndSymmetry", apart := false }
def FnEditDistanceCommonAffixesAndSymmetrySaid : Prop := fnEditDistanceCommonAffixesAndSymmetryRow.holds Try.pinned (OpenSpec.ofChange fnEditDistanceCommonAffixesAndSymmetrySpec)

/-- ITS FALSE NEIGHBOUR: 'it returns false'. Refute it at one input. -/
def fnEditDistanceCommonAffixesAndSymmetryWrong : ChangeSpec := { name := "fnEditDistanceCommonAffixesAndSymmetry", fn := fun _ => fun
  | [d1, d2, d3, d4] => { results := [.lit (.bool false)], args := [d1, d2, d3, d4] }
  | _ => none }
def FnEditDistanceCommonAffixesAndSymmetryWrongFalsely : Prop := fnEditDistanceCommonAffixesAndSymmetryRow.holds Try.pinned (OpenSpec.ofChange fnEditDistanceCommonAffixesAndSymmetryWrong)

end Rows
end Go.Proofs.Qxb6619375a
