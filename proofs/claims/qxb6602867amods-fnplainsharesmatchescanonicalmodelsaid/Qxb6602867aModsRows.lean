/-
  No cell of these rows narrows 'for every input' (looked for: loops, veiled, ifaces, maps, wideKeys, modest, calm, conditions, laid).
  DERIVED. THE GIVEN ROWS OF THIS SEAT. 5 by the template 'for every input the law returns true; each argument reads behind the call as it read before'; 0 by the template 'total and deterministic' (their statements: Qxb6602867aModsTotals.lean).
  GIVEN WITH THE SEED: the statements are not yours to turn. If you find one false, say at which input.
  Laid BY PROGRAM, IN A SANDBOX (cutbox-rows.mjs): the forced cells as the released guide's own fill.sh prints them over the translation a4018ff5e036f6c4… (all of the seat's roots in one cut). By AI agents, Wed Nov 11 2026. No macro, syntax, notation, axiom, sorry.
-/
import Derived.Test.Qxb6602867aModsChecked
import GoSem.Claim
import GoSem.ClaimJoined
import GoSem.ClaimMapViews
import Derived.JoinedTies
import Derived.KernelRfl
namespace Go.Proofs.Qxb6602867aMods
/- THE CELL 'sum', in the pinned program and in every row, IS THE sha256 OF THE DUMP (.gsa) THAT Qxb6602867aModsProg.lean LOADS. Nothing in Lean hashes anything: it is a label: what it is worth is what the hold of that sum in a sandbox is worth. -/
noncomputable def Trym.pinned : Pinned := { name := "qxb6602867amods", sum := "a4018ff5e036f6c4a2287a4f69e35cf295f9b1d18283c5bcda1220caa7d987a8", checked := Trym.checked }
namespace Rows
def none {H : Type} : Left H := { results := [], args := [] }

/-- 'zzlaws_pkg_valuation_b1.FnPlainSharesMatchesCanonicalModel': WHATEVER THE INPUT: true; the input reads as it did. -/
def fnPlainSharesMatchesCanonicalModelSpec : ChangeSpec := { name := "fnPlainSharesMatchesCanonicalModel", fn := fun _ => fun
  | [d] => { results := [.lit (.bool true)], args := [d] }
  | _ => none }
def fnPlainSharesMatchesCanonicalModelRow : OpenClaim := { program := "qxb6602867amods", sum := "a4018ff5e036f6c4a2287a4f69e35cf295f9b1d18283c5bcda1220caa7d987a8", func := "example.com/fundwarden/fundwarden/zzlaws_pkg_valuation_b1.FnPlainSharesMatchesCanonicalModel", spec := "fnPlainSharesMatchesCanonicalModel", make := .lifted ["publicsums"], apart := false }
def FnPlainSharesMatchesCanonicalModelSaid : Prop := fnPlainSharesMatchesCanonicalModelRow.holds Trym.pinned (OpenSpec.ofChange fnPlainSharesMatchesCanonicalModelSpec)

/-- ITS FALSE NEIGHBOUR: 'it returns false'. Refute it at one input. -/
def fnPlainSharesMatchesCanonicalModelWrong : ChangeSpec := { name := "fnPlainSharesMatchesCanonicalModel", fn := fun _ => fun
  | [d] => { results := [.lit (.bool false)], args := [d] }
  | _ => none }
def FnPlainSharesMatchesCanonicalModelWrongFalsely : Prop := fnPlainSharesMatchesCanonicalModelRow.holds Trym.pinned (OpenSpec.ofChange fnPlainSharesMatchesCanonicalModelWrong)

/-- 'zzlaws_pkg_valuation_b1.FnPlainSharesReadsBackItsText': WHATEVER THE INPUT: true; the input reads as it did. -/
def fnPlainSharesReadsBackItsTextSpec : ChangeSpec := { name := "fnPlainSharesReadsBackItsText", fn := fun _ => fun
  | [d] => { results := [.lit (.bool true)], args := [d] }
  | _ => none }
def fnPlainSharesReadsBackItsTextRow : OpenClaim := { program := "qxb6602867amods", sum := "a4018ff5e036f6c4a2287a4f69e35cf295f9b1d18283c5bcda1220caa7d987a8", func := "example.com/fundwarden/fundwarden/zzlaws_pkg_valuation_b1.FnPlainSharesReadsBackItsText", spec := "fnPlainSharesReadsBackItsText", make := .lifted ["publicsums"], apart := false }
def FnPlainSharesReadsBackItsTextSaid : Prop := fnPlainSharesReadsBackItsTextRow.holds Trym.pinned (OpenSpec.ofChange fnPlainSharesReadsBackItsTextSpec)

/-- ITS FALSE NEIGHBOUR: 'it returns false'. Refute it at one input. -/
def fnPlainSharesReadsBackItsTextWrong : ChangeSpec := { name := "fnPlainSharesReadsBackItsText", fn := fun _ => fun
  | [d] => { results := [.lit (.bool false)], args := [d] }
  | _ => none }
def FnPlainSharesReadsBackItsTextWrongFalsely : Prop := fnPlainSharesReadsBackItsTextRow.holds Trym.pinned (OpenSpec.ofChange fnPlainSharesReadsBackItsTextWrong)

/-- 'zzlaws_pkg_valuation_b1.FnPlainSharesOrderFollowsText': WHATEVER THE INPUT: true; the input reads as it did. -/
def fnPlainSharesOrderFollowsTextSpec : ChangeSpec := { name := "fnPlainSharesOrderFollowsText", fn := fun _ => fun
  | [d1, d2] => { results := [.lit (.bool true)], args := [d1, d2] }
  | _ => none }
def fnPlainSharesOrderFollowsTextRow : OpenClaim := { program := "qxb6602867amods", sum := "a4018ff5e036f6c4a2287a4f69e35cf295f9b1d18283c5bcda1220caa7d987a8", func := "example.com/fundwarden/fundwarden/zzlaws_pkg_valuation_b1.FnPlainSharesOrderFollowsText", spec := "fnPlainSharesOrderFollowsText", make := .lifted ["publicsums"], apart := false }
def FnPlainSharesOrderFollowsTextSaid : Prop := fnPlainSharesOrderFollowsTextRow.holds Trym.pinned (OpenSpec.ofChange fnPlainSharesOrderFollowsTextSpec)

/-- ITS FALSE NEIGHBOUR: 'it returns false'. Refute it at one input. -/
def fnPlainSharesOrderFollowsTextWrong : ChangeSpec := { name := "fnPlainSharesOrderFollowsText", fn := fun _ => fun
  | [d1, d2] => { results := [.lit (.bool false)], args := [d1, d2] }
  | _ => none }
def FnPlainSharesOrderFollowsTextWrongFalsely : Prop := fnPlainSharesOrderFollowsTextRow.holds Trym.pinned (OpenSpec.ofChange fnPlainSharesOrderFollowsTextWrong)

/-- 'zzlaws_pkg_valuation_b1.FnDaysInMatchesCalendarModel': WHATEVER THE INPUT: true; the input reads as it did. -/
def fnDaysInMatchesCalendarModelSpec : ChangeSpec := { name := "fnDaysInMatchesCalendarModel", fn := fun _ => fun
  | [d1, d2] => { results := [.lit (.bool true)], args := [d1, d2] }
  | _ => none }
def fnDaysInMatchesCalendarModelRow : OpenClaim := { program := "qxb6602867amods", sum := "a4018ff5e036f6c4a2287a4f69e35cf295f9b1d18283c5bcda1220caa7d987a8", func := "example.com/fundwarden/fundwarden/zzlaws_pkg_valuation_b1.FnDaysInMatchesCalendarModel", spec := "fnDaysInMatchesCalendarModel", make := .lifted ["publicsums"], apart := false }
def FnDaysInMatchesCalendarModelSaid : Prop := fnDaysInMatchesCalendarModelRow.holds Trym.pinned (OpenSpec.ofChange fnDaysInMatchesCalendarModelSpec)

/-- ITS FALSE NEIGHBOUR: 'it returns false'. Refute it at one input. -/
def fnDaysInMatchesCalendarModelWrong : ChangeSpec := { name := "fnDaysInMatchesCalendarModel", fn := fun _ => fun
  | [d1, d2] => { results := [.lit (.bool false)], args := [d1, d2] }
  | _ => none }
def FnDaysInMatchesCalendarModelWrongFalsely : Prop := fnDaysInMatchesCalendarModelRow.holds Trym.pinned (OpenSpec.ofChange fnDaysInMatchesCalendarModelWrong)

/-- 'zzlaws_pkg_valuation_b1.FnDaysInYearLengthByLeapCount': WHATEVER THE INPUT: true; the input reads as it did. -/
def fnDaysInYearLengthByLeapCountSpec : ChangeSpec := { name := "fnDaysInYearLengthByLeapCount", fn := fun _ => fun
  | [d] => { results := [.lit (.bool true)], args := [d] }
  | _ => none }
def fnDaysInYearLengthByLeapCountRow : OpenClaim := { program := "qxb6602867amods", sum := "a4018ff5e036f6c4a2287a4f69e35cf295f9b1d18283c5bcda1220caa7d987a8", func := "example.com/fundwarden/fundwarden/zzlaws_pkg_valuation_b1.FnDaysInYearLengthByLeapCount", spec := "fnDaysInYearLengthByLeapCount", make := .lifted ["publicsums"], apart := false }
def FnDaysInYearLengthByLeapCountSaid : Prop := fnDaysInYearLengthByLeapCountRow.holds Trym.pinned (OpenSpec.ofChange fnDaysInYearLengthByLeapCountSpec)

/-- ITS FALSE NEIGHBOUR: 'it returns false'. Refute it at one input. -/
def fnDaysInYearLengthByLeapCountWrong : ChangeSpec := { name := "fnDaysInYearLengthByLeapCount", fn := fun _ => fun
  | [d] => { results := [.lit (.bool false)], args := [d] }
  | _ => none }
def FnDaysInYearLengthByLeapCountWrongFalsely : Prop := fnDaysInYearLengthByLeapCountRow.holds Trym.pinned (OpenSpec.ofChange fnDaysInYearLengthByLeapCountWrong)

end Rows
end Go.Proofs.Qxb6602867aMods
