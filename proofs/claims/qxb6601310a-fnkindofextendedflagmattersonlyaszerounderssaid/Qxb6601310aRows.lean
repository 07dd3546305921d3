/-
  No cell of these rows narrows 'for every input' (looked for: loops, veiled, ifaces, maps, wideKeys, modest, calm, conditions, laid).
  DERIVED. THE GIVEN ROWS OF THIS SEAT. 4 by the template 'for every input the law returns true; each argument reads behind the call as it read before'; 0 by the template 'total and deterministic' (their statements: Qxb6601310aTotals.lean).
  GIVEN WITH THE SEED: the statements are not yours to turn. If you find one false, say at which input.
  Laid BY PROGRAM, IN A SANDBOX (cutbox-rows.mjs): the forced cells as the released guide's own fill.sh prints them over the translation e3a2a7b81985b82f… (all of the seat's roots in one cut). By AI agents, Wed Nov 11 2026. No macro, syntax, notation, axiom, sorry.
-/
import Derived.Test.Qxb6601310aChecked
import GoSem.Claim
import GoSem.ClaimJoined
import GoSem.ClaimMapViews
import Derived.JoinedTies
import Derived.KernelRfl
namespace Go.Proofs.Qxb6601310a
/- THE CELL 'sum', in the pinned program and in every row, IS THE sha256 OF THE DUMP (.gsa) THAT Qxb6601310aProg.lean LOADS. Nothing in Lean hashes anything: it is a label: what it is worth is what the hold of that sum in a sandbox is worth. -/
noncomputable def Try.pinned : Pinned := { name := "qxb6601310a", sum := "e3a2a7b81985b82f5b1ac294942645014e1e94b3ef89bc743c44d2902897a2a1", checked := Try.checked }
namespace Rows
def none {H : Type} : Left H := { results := [], args := [] }

/-- 'zzlaws_internal_tarscan_b1.FnKindOfReadsOnlyTypeflagAndExtendedFlag': WHATEVER THE INPUT: true; the input reads as it did. -/
def fnKindOfReadsOnlyTypeflagAndExtendedFlagSpec : ChangeSpec := { name := "fnKindOfReadsOnlyTypeflagAndExtendedFlag", fn := fun _ => fun
  | [d1, d2] => { results := [.lit (.bool true)], args := [d1, d2] }
  | _ => none }
def fnKindOfReadsOnlyTypeflagAndExtendedFlagRow : OpenClaim := { program := "qxb6601310a", sum := "e3a2a7b81985b82f5b1ac294942645014e1e94b3ef89bc743c44d2902897a2a1", func := "example.com/seamline/seamline/zzlaws_internal_tarscan_b1.FnKindOfReadsOnlyTypeflagAndExtendedFlag", spec := "fnKindOfReadsOnlyTypeflagAndExtendedFlag", apart := false }
def FnKindOfReadsOnlyTypeflagAndExtendedFlagSaid : Prop := fnKindOfReadsOnlyTypeflagAndExtendedFlagRow.holds Try.pinned (OpenSpec.ofChange fnKindOfReadsOnlyTypeflagAndExtendedFlagSpec)

/-- ITS FALSE NEIGHBOUR: 'it returns false'. Refute it at one input. -/
def fnKindOfReadsOnlyTypeflagAndExtendedFlagWrong : ChangeSpec := { name := "fnKindOfReadsOnlyTypeflagAndExtendedFlag", fn := fun _ => fun
  | [d1, d2] => { results := [.lit (.bool false)], args := [d1, d2] }
  | _ => none }
def FnKindOfReadsOnlyTypeflagAndExtendedFlagWrongFalsely : Prop := fnKindOfReadsOnlyTypeflagAndExtendedFlagRow.holds Try.pinned (OpenSpec.ofChange fnKindOfReadsOnlyTypeflagAndExtendedFlagWrong)

/-- 'zzlaws_internal_tarscan_b1.FnKindOfExtendedFlagMattersOnlyAsZeroUnderS': WHATEVER THE INPUT: true; the input reads as it did. -/
def fnKindOfExtendedFlagMattersOnlyAsZeroUnderSSpec : ChangeSpec := { name := "fnKindOfExtendedFlagMattersOnlyAsZeroUnderS", fn := fun _ => fun
  | [d1, d2] => { results := [.lit (.bool true)], args := [d1, d2] }
  | _ => none }
def fnKindOfExtendedFlagMattersOnlyAsZeroUnderSRow : OpenClaim := { program := "qxb6601310a", sum := "e3a2a7b81985b82f5b1ac294942645014e1e94b3ef89bc743c44d2902897a2a1", func := "example.com/seamline/seamline/zzlaws_internal_tarscan_b1.FnKindOfExtendedFlagMattersOnlyAsZeroUnderS", spec := "fnKindOfExtendedFlagMattersOnlyAsZeroUnderS", apart := false }
def FnKindOfExtendedFlagMattersOnlyAsZeroUnderSSaid : Prop := fnKindOfExtendedFlagMattersOnlyAsZeroUnderSRow.holds Try.pinned (OpenSpec.ofChange fnKindOfExtendedFlagMattersOnlyAsZeroUnderSSpec)

/-- ITS FALSE NEIGHBOUR: 'it returns false'. Refute it at one input. -/
def fnKindOfExtendedFlagMattersOnlyAsZeroUnderSWrong : ChangeSpec := { name := "fnKindOfExtendedFlagMattersOnlyAsZeroUnderS", fn := fun _ => fun
  | [d1, d2] => { results := [.lit (.bool false)], args := [d1, d2] }
  | _ => none }
def FnKindOfExtendedFlagMattersOnlyAsZeroUnderSWrongFalsely : Prop := fnKindOfExtendedFlagMattersOnlyAsZeroUnderSRow.holds Try.pinned (OpenSpec.ofChange fnKindOfExtendedFlagMattersOnlyAsZeroUnderSWrong)

/-- 'zzlaws_internal_tarscan_b1.FnHeaderNameReadsOnlyNameMagicPrefix': WHATEVER THE INPUT: true; the input reads as it did. -/
def fnHeaderNameReadsOnlyNameMagicPrefixSpec : ChangeSpec := { name := "fnHeaderNameReadsOnlyNameMagicPrefix", fn := fun _ => fun
  | [d1, d2] => { results := [.lit (.bool true)], args := [d1, d2] }
  | _ => none }
def fnHeaderNameReadsOnlyNameMagicPrefixRow : OpenClaim := { program := "qxb6601310a", sum := "e3a2a7b81985b82f5b1ac294942645014e1e94b3ef89bc743c44d2902897a2a1", func := "example.com/seamline/seamline/zzlaws_internal_tarscan_b1.FnHeaderNameReadsOnlyNameMagicPrefix", spec := "fnHeaderNameReadsOnlyNameMagicPrefix", inPlace := ["internal/bytealg.IndexByte"], apart := false }
def FnHeaderNameReadsOnlyNameMagicPrefixSaid : Prop := fnHeaderNameReadsOnlyNameMagicPrefixRow.holds Try.pinned (OpenSpec.ofChange fnHeaderNameReadsOnlyNameMagicPrefixSpec)

/-- ITS FALSE NEIGHBOUR: 'it returns false'. Refute it at one input. -/
def fnHeaderNameReadsOnlyNameMagicPrefixWrong : ChangeSpec := { name := "fnHeaderNameReadsOnlyNameMagicPrefix", fn := fun _ => fun
  | [d1, d2] => { results := [.lit (.bool false)], args := [d1, d2] }
  | _ => none }
def FnHeaderNameReadsOnlyNameMagicPrefixWrongFalsely : Prop := fnHeaderNameReadsOnlyNameMagicPrefixRow.holds Try.pinned (OpenSpec.ofChange fnHeaderNameReadsOnlyNameMagicPrefixWrong)

/-- 'zzlaws_internal_tarscan_b1.FnHeaderNameHasNoNULAndFits': WHATEVER THE INPUT: true; the input reads as it did. -/
def fnHeaderNameHasNoNULAndFitsSpec : ChangeSpec := { name := "fnHeaderNameHasNoNULAndFits", fn := fun _ => fun
  | [d] => { results := [.lit (.bool true)], args := [d] }
  | _ => none }
def fnHeaderNameHasNoNULAndFitsRow : OpenClaim := { program := "qxb6601310a", sum := "e3a2a7b81985b82f5b1ac294942645014e1e94b3ef89bc743c44d2902897a2a1", func := "example.com/seamline/seamline/zzlaws_internal_tarscan_b1.FnHeaderNameHasNoNULAndFits", spec := "fnHeaderNameHasNoNULAndFits", inPlace := ["internal/bytealg.IndexByte"], apart := false }
def FnHeaderNameHasNoNULAndFitsSaid : Prop := fnHeaderNameHasNoNULAndFitsRow.holds Try.pinned (OpenSpec.ofChange fnHeaderNameHasNoNULAndFitsSpec)

/-- ITS FALSE NEIGHBOUR: 'it returns false'. Refute it at one input. -/
def fnHeaderNameHasNoNULAndFitsWrong : ChangeSpec := { name := "fnHeaderNameHasNoNULAndFits", fn := fun _ => fun
  | [d] => { results := [.lit (.bool false)], args := [d] }
  | _ => none }
def FnHeaderNameHasNoNULAndFitsWrongFalsely : Prop := fnHeaderNameHasNoNULAndFitsRow.holds Try.pinned (OpenSpec.ofChange fnHeaderNameHasNoNULAndFitsWrong)

end Rows
end Go.Proofs.Qxb6601310a
