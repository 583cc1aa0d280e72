/-
  No cell of these rows narrows 'for every input' (looked for: loops, veiled, ifaces, maps, wideKeys, modest, calm, conditions, laid).
  DERIVED. THE GIVEN ROWS OF THIS SEAT. 4 by the template 'for every input the law returns true; each argument reads behind the call as it read before'; 0 by the template 'total and deterministic' (their statements: Qxb6604119aModsTotals.lean).
  GIVEN WITH THE SEED: the statements are not yours to turn. If you find one false, say at which input.
  Laid BY PROGRAM, IN A SANDBOX (cutbox-rows.mjs): the forced cells as the released guide's own fill.sh prints them over the translation 03fd4abfb7851f63… (all of the seat's roots in one cut). By AI agents, Wed Nov 11 2026. No macro, syntax, notation, axiom, sorry.
-/
import Derived.Test.Qxb6604119aModsChecked
import GoSem.Claim
import GoSem.ClaimJoined
import GoSem.ClaimMapViews
import Derived.JoinedTies
import Derived.KernelRfl
namespace Go.Proofs.Qxb6604119aMods
/- THE CELL 'sum', in the pinned program and in every row, IS THE sha256 OF THE DUMP (.gsa) THAT Qxb6604119aModsProg.lean LOADS. Nothing in Lean hashes anything: it is a label: what it is worth is what the hold of that sum in a sandbox is worth. -/
noncomputable def Trym.pinned : Pinned := { name := "qxb6604119amods", sum := "03fd4abfb7851f63ec53b9ec861ff8fb5a6624991cf9d52b87a774fa038fd13e", checked := Trym.checked }
namespace Rows
def none {H : Type} : Left H := { results := [], args := [] }

/-- 'zzlaws_internal_sim_b1.FnResultTotalExact': WHATEVER THE INPUT: true; the input reads as it did. -/
def fnResultTotalExactSpec : ChangeSpec := { name := "fnResultTotalExact", fn := fun _ => fun
  | [d1, d2] => { results := [.lit (.bool true)], args := [d1, d2] }
  | _ => none }
def fnResultTotalExactRow : OpenClaim := { program := "qxb6604119amods", sum := "03fd4abfb7851f63ec53b9ec861ff8fb5a6624991cf9d52b87a774fa038fd13e", func := "example.com/driftbound/driftbound/zzlaws_internal_sim_b1.FnResultTotalExact", spec := "fnResultTotalExact", make := .lifted ["publicsums"], apart := false }
def FnResultTotalExactSaid : Prop := fnResultTotalExactRow.holds Trym.pinned (OpenSpec.ofChange fnResultTotalExactSpec)

/-- ITS FALSE NEIGHBOUR: 'it returns false'. Refute it at one input. -/
def fnResultTotalExactWrong : ChangeSpec := { name := "fnResultTotalExact", fn := fun _ => fun
  | [d1, d2] => { results := [.lit (.bool false)], args := [d1, d2] }
  | _ => none }
def FnResultTotalExactWrongFalsely : Prop := fnResultTotalExactRow.holds Trym.pinned (OpenSpec.ofChange fnResultTotalExactWrong)

/-- 'zzlaws_internal_sim_b1.FnFlightNthExact': WHATEVER THE INPUT: true; the input reads as it did. -/
def fnFlightNthExactSpec : ChangeSpec := { name := "fnFlightNthExact", fn := fun _ => fun
  | [d1, d2] => { results := [.lit (.bool true)], args := [d1, d2] }
  | _ => none }
def fnFlightNthExactRow : OpenClaim := { program := "qxb6604119amods", sum := "03fd4abfb7851f63ec53b9ec861ff8fb5a6624991cf9d52b87a774fa038fd13e", func := "example.com/driftbound/driftbound/zzlaws_internal_sim_b1.FnFlightNthExact", spec := "fnFlightNthExact", make := .lifted ["publicsums"], apart := false }
def FnFlightNthExactSaid : Prop := fnFlightNthExactRow.holds Trym.pinned (OpenSpec.ofChange fnFlightNthExactSpec)

/-- ITS FALSE NEIGHBOUR: 'it returns false'. Refute it at one input. -/
def fnFlightNthExactWrong : ChangeSpec := { name := "fnFlightNthExact", fn := fun _ => fun
  | [d1, d2] => { results := [.lit (.bool false)], args := [d1, d2] }
  | _ => none }
def FnFlightNthExactWrongFalsely : Prop := fnFlightNthExactRow.holds Trym.pinned (OpenSpec.ofChange fnFlightNthExactWrong)

/-- 'zzlaws_internal_sim_b1.FnFlightFreeCountsNth': WHATEVER THE INPUT: true; the input reads as it did. -/
def fnFlightFreeCountsNthSpec : ChangeSpec := { name := "fnFlightFreeCountsNth", fn := fun _ => fun
  | [d1, d2] => { results := [.lit (.bool true)], args := [d1, d2] }
  | _ => none }
def fnFlightFreeCountsNthRow : OpenClaim := { program := "qxb6604119amods", sum := "03fd4abfb7851f63ec53b9ec861ff8fb5a6624991cf9d52b87a774fa038fd13e", func := "example.com/driftbound/driftbound/zzlaws_internal_sim_b1.FnFlightFreeCountsNth", spec := "fnFlightFreeCountsNth", make := .lifted ["publicsums"], apart := false }
def FnFlightFreeCountsNthSaid : Prop := fnFlightFreeCountsNthRow.holds Trym.pinned (OpenSpec.ofChange fnFlightFreeCountsNthSpec)

/-- ITS FALSE NEIGHBOUR: 'it returns false'. Refute it at one input. -/
def fnFlightFreeCountsNthWrong : ChangeSpec := { name := "fnFlightFreeCountsNth", fn := fun _ => fun
  | [d1, d2] => { results := [.lit (.bool false)], args := [d1, d2] }
  | _ => none }
def FnFlightFreeCountsNthWrongFalsely : Prop := fnFlightFreeCountsNthRow.holds Trym.pinned (OpenSpec.ofChange fnFlightFreeCountsNthWrong)

/-- 'zzlaws_internal_sim_b1.FnFlightFreeAdditive': WHATEVER THE INPUT: true; the input reads as it did. -/
def fnFlightFreeAdditiveSpec : ChangeSpec := { name := "fnFlightFreeAdditive", fn := fun _ => fun
  | [d1, d2] => { results := [.lit (.bool true)], args := [d1, d2] }
  | _ => none }
def fnFlightFreeAdditiveRow : OpenClaim := { program := "qxb6604119amods", sum := "03fd4abfb7851f63ec53b9ec861ff8fb5a6624991cf9d52b87a774fa038fd13e", func := "example.com/driftbound/driftbound/zzlaws_internal_sim_b1.FnFlightFreeAdditive", spec := "fnFlightFreeAdditive", make := .lifted ["publicsums"], apart := false }
def FnFlightFreeAdditiveSaid : Prop := fnFlightFreeAdditiveRow.holds Trym.pinned (OpenSpec.ofChange fnFlightFreeAdditiveSpec)

/-- ITS FALSE NEIGHBOUR: 'it returns false'. Refute it at one input. -/
def fnFlightFreeAdditiveWrong : ChangeSpec := { name := "fnFlightFreeAdditive", fn := fun _ => fun
  | [d1, d2] => { results := [.lit (.bool false)], args := [d1, d2] }
  | _ => none }
def FnFlightFreeAdditiveWrongFalsely : Prop := fnFlightFreeAdditiveRow.holds Trym.pinned (OpenSpec.ofChange fnFlightFreeAdditiveWrong)

end Rows
end Go.Proofs.Qxb6604119aMods
