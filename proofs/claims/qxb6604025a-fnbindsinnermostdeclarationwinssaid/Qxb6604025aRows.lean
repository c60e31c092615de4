/-
  No cell of these rows narrows 'for every input' (looked for: loops, veiled, ifaces, maps, wideKeys, modest, calm, conditions, laid).
  DERIVED. THE GIVEN ROWS OF THIS SEAT. 6 by the template 'for every input the law returns true; each argument reads behind the call as it read before'; 0 by the template 'total and deterministic' (their statements: Qxb6604025aTotals.lean).
  GIVEN WITH THE SEED: the statements are not yours to turn. If you find one false, say at which input.
  Laid BY PROGRAM, IN A SANDBOX (cutbox-rows.mjs): the forced cells as the released guide's own fill.sh prints them over the translation f0779c4dfd0e2828… (all of the seat's roots in one cut). By AI agents, Wed Nov 11 2026. No macro, syntax, notation, axiom, sorry.
-/
import Derived.Test.Qxb6604025aChecked
import GoSem.Claim
import GoSem.ClaimJoined
import GoSem.ClaimMapViews
import Derived.JoinedTies
import Derived.KernelRfl
namespace Go.Proofs.Qxb6604025a
/- THE CELL 'sum', in the pinned program and in every row, IS THE sha256 OF THE DUMP (.gsa) THAT Qxb6604025aProg.lean LOADS. Nothing in Lean hashes anything: it is a label: what it is worth is what the hold of that sum in a sandbox is worth. -/
noncomputable def Try.pinned : Pinned := { name := "qxb6604025a", sum := "f0779c4dfd0e28283cac8b138c721fbcedf315f604c12662c33489ecb324ce01", checked := Try.checked }
namespace Rows
def none {H : Type} : Left H := { results := [], args := [] }

/-- 'zzlaws_pkg_ltfs_b1.FnDigitsExact': WHATEVER THE INPUT: true; the input reads as it did. -/
def fnDigitsExactSpec : ChangeSpec := { name := "fnDigitsExact", fn := fun _ => fun
  | [d] => { results := [.lit (.bool true)], args := [d] }
  | _ => none }
def fnDigitsExactRow : OpenClaim := { program := "qxb6604025a", sum := "f0779c4dfd0e28283cac8b138c721fbcedf315f604c12662c33489ecb324ce01", func := "example.com/reelwright/reelwright/zzlaws_pkg_ltfs_b1.FnDigitsExact", spec := "fnDigitsExact", apart := false }
def FnDigitsExactSaid : Prop := fnDigitsExactRow.holds Try.pinned (OpenSpec.ofChange fnDigitsExactSpec)

/-- ITS FALSE NEIGHBOUR: 'it returns false'. Refute it at one input. -/
def fnDigitsExactWrong : ChangeSpec := { name := "fnDigitsExact", fn := fun _ => fun
  | [d] => { results := [.lit (.bool false)], args := [d] }
  | _ => none }
def FnDigitsExactWrongFalsely : Prop := fnDigitsExactRow.holds Try.pinned (OpenSpec.ofChange fnDigitsExactWrong)

/-- 'zzlaws_pkg_ltfs_b1.FnDigitsReadsBackPaddedDecimal': WHATEVER THE INPUT: true; the input reads as it did. -/
def fnDigitsReadsBackPaddedDecimalSpec : ChangeSpec := { name := "fnDigitsReadsBackPaddedDecimal", fn := fun _ => fun
  | [d1, d2] => { results := [.lit (.bool true)], args := [d1, d2] }
  | _ => none }
def fnDigitsReadsBackPaddedDecimalRow : OpenClaim := { program := "qxb6604025a", sum := "f0779c4dfd0e28283cac8b138c721fbcedf315f604c12662c33489ecb324ce01", func := "example.com/reelwright/reelwright/zzlaws_pkg_ltfs_b1.FnDigitsReadsBackPaddedDecimal", spec := "fnDigitsReadsBackPaddedDecimal", apart := false }
def FnDigitsReadsBackPaddedDecimalSaid : Prop := fnDigitsReadsBackPaddedDecimalRow.holds Try.pinned (OpenSpec.ofChange fnDigitsReadsBackPaddedDecimalSpec)

/-- ITS FALSE NEIGHBOUR: 'it returns false'. Refute it at one input. -/
def fnDigitsReadsBackPaddedDecimalWrong : ChangeSpec := { name := "fnDigitsReadsBackPaddedDecimal", fn := fun _ => fun
  | [d1, d2] => { results := [.lit (.bool false)], args := [d1, d2] }
  | _ => none }
def FnDigitsReadsBackPaddedDecimalWrongFalsely : Prop := fnDigitsReadsBackPaddedDecimalRow.holds Try.pinned (OpenSpec.ofChange fnDigitsReadsBackPaddedDecimalWrong)

/-- 'zzlaws_pkg_ltfs_b1.FnBindsInnermostDeclarationWins': WHATEVER THE INPUT: true; the input reads as it did. -/
def fnBindsInnermostDeclarationWinsSpec : ChangeSpec := { name := "fnBindsInnermostDeclarationWins", fn := fun _ => fun
  | [d1, d2, d3] => { results := [.lit (.bool true)], args := [d1, d2, d3] }
  | _ => none }
def fnBindsInnermostDeclarationWinsRow : OpenClaim := { program := "qxb6604025a", sum := "f0779c4dfd0e28283cac8b138c721fbcedf315f604c12662c33489ecb324ce01", func := "example.com/reelwright/reelwright/zzlaws_pkg_ltfs_b1.FnBindsInnermostDeclarationWins", spec := "fnBindsInnermostDeclarationWins", apart := false }
def FnBindsInnermostDeclarationWinsSaid : Prop := fnBindsInnermostDeclarationWinsRow.holds Try.pinned (OpenSpec.ofChange fnBindsInnermostDeclarationWinsSpec)

/-- ITS FALSE NEIGHBOUR: 'it returns false'. Refute it at one input. -/
def fnBindsInnermostDeclarationWinsWrong : ChangeSpec := { name := "fnBindsInnermostDeclarationWins", fn := fun _ => fun
  | [d1, d2, d3] => { results := [.lit (.bool false)], args := [d1, d2, d3] }
  | _ => none }
def FnBindsInnermostDeclarationWinsWrongFalsely : Prop := fnBindsInnermostDeclarationWinsRow.holds Try.pinned (OpenSpec.ofChange fnBindsInnermostDeclarationWinsWrong)

/-- 'zzlaws_pkg_ltfs_b1.FnBindsPushedDeclarationShadows': WHATEVER THE INPUT: true; the input reads as it did. -/
def fnBindsPushedDeclarationShadowsSpec : ChangeSpec := { name := "fnBindsPushedDeclarationShadows", fn := fun _ => fun
  | [d1, d2, d3, d4, d5] => { results := [.lit (.bool true)], args := [d1, d2, d3, d4, d5] }
  | _ => none }
def fnBindsPushedDeclarationShadowsRow : OpenClaim := { program := "qxb6604025a", sum := "f0779c4dfd0e28283cac8b138c721fbcedf315f604c12662c33489ecb324ce01", func := "example.com/reelwright/reelwright/zzlaws_pkg_ltfs_b1.FnBindsPushedDeclarationShadows", spec := "fnBindsPushedDeclarationShadows", apart := false }
def FnBindsPushedDeclarationShadowsSaid : Prop := fnBindsPushedDeclarationShadowsRow.holds Try.pinned (OpenSpec.ofChange fnBindsPushedDeclarationShadowsSpec)

/-- ITS FALSE NEIGHBOUR: 'it returns false'. Refute it at one input. -/
def fnBindsPushedDeclarationShadowsWrong : ChangeSpec := { name := "fnBindsPushedDeclarationShadows", fn := fun _ => fun
  | [d1, d2, d3, d4, d5] => { results := [.lit (.bool false)], args := [d1, d2, d3, d4, d5] }
  | _ => none }
def FnBindsPushedDeclarationShadowsWrongFalsely : Prop := fnBindsPushedDeclarationShadowsRow.holds Try.pinned (OpenSpec.ofChange fnBindsPushedDeclarationShadowsWrong)

/-- 'zzlaws_pkg_ltfs_b1.FnPseudoAttrCaseTable': WHATEVER THE INPUT: true; the input reads as it did. -/
def fnPseudoAttrCaseTableSpec : ChangeSpec := { name := "fnPseudoAttrCaseTable", fn := fun _ => fun
  | [d1, d2] => { results := [.lit (.bool true)], args := [d1, d2] }
  | _ => none }
def fnPseudoAttrCaseTableRow : OpenClaim := { program := "qxb6604025a", sum := "f0779c4dfd0e28283cac8b138c721fbcedf315f604c12662c33489ecb324ce01", func := "example.com/reelwright/reelwright/zzlaws_pkg_ltfs_b1.FnPseudoAttrCaseTable", spec := "fnPseudoAttrCaseTable", inPlace := ["internal/bytealg.IndexByteString", "internal/bytealg.IndexString"], named := ["internal/bytealg.MaxLen"], apart := false }
def FnPseudoAttrCaseTableSaid : Prop := fnPseudoAttrCaseTableRow.holds Try.pinned (OpenSpec.ofChange fnPseudoAttrCaseTableSpec)

/-- ITS FALSE NEIGHBOUR: 'it returns false'. Refute it at one input. -/
def fnPseudoAttrCaseTableWrong : ChangeSpec := { name := "fnPseudoAttrCaseTable", fn := fun _ => fun
  | [d1, d2] => { results := [.lit (.bool false)], args := [d1, d2] }
  | _ => none }
def FnPseudoAttrCaseTableWrongFalsely : Prop := fnPseudoAttrCaseTableRow.holds Try.pinned (OpenSpec.ofChange fnPseudoAttrCaseTableWrong)

/-- 'zzlaws_pkg_ltfs_b1.FnPseudoAttrReadsBackWrittenValue': WHATEVER THE INPUT: true; the input reads as it did. -/
def fnPseudoAttrReadsBackWrittenValueSpec : ChangeSpec := { name := "fnPseudoAttrReadsBackWrittenValue", fn := fun _ => fun
  | [d1, d2, d3, d4] => { results := [.lit (.bool true)], args := [d1, d2, d3, d4] }
  | _ => none }
def fnPseudoAttrReadsBackWrittenValueRow : OpenClaim := { program := "qxb6604025a", sum := "f0779c4dfd0e28283cac8b138c721fbcedf315f604c12662c33489ecb324ce01", func := "example.com/reelwright/reelwright/zzlaws_pkg_ltfs_b1.FnPseudoAttrReadsBackWrittenValue", spec := "fnPseudoAttrReadsBackWrittenValue", inPlace := ["internal/bytealg.IndexByteString", "internal/bytealg.IndexString"], named := ["internal/bytealg.MaxLen"], apart := false }
def FnPseudoAttrReadsBackWrittenValueSaid : Prop := fnPseudoAttrReadsBackWrittenValueRow.holds Try.pinned (OpenSpec.ofChange fnPseudoAttrReadsBackWrittenValueSpec)

/-- ITS FALSE NEIGHBOUR: 'it returns false'. Refute it at one input. -/
def fnPseudoAttrReadsBackWrittenValueWrong : ChangeSpec := { name := "fnPseudoAttrReadsBackWrittenValue", fn := fun _ => fun
  | [d1, d2, d3, d4] => { results := [.lit (.bool false)], args := [d1, d2, d3, d4] }
  | _ => none }
def FnPseudoAttrReadsBackWrittenValueWrongFalsely : Prop := fnPseudoAttrReadsBackWrittenValueRow.holds Try.pinned (OpenSpec.ofChange fnPseudoAttrReadsBackWrittenValueWrong)

end Rows
end Go.Proofs.Qxb6604025a
