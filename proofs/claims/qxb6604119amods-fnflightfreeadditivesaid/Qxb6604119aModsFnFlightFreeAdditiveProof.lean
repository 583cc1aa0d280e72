/- The row's step for 'Rows.FnFlightFreeAdditiveSaid': the guide's frame at this function (a slice of bools, an int), its walk taken from this seat's own contracts. -/
import Derived.Test.Qxb6604119aModsRows
import Derived.Test.Qxb6604119aModsFree
import Derived.WalkKit
import Derived.ProofKit
import Derived.OpenShut
import Derived.ChangeOld
import Derived.Below
import Derived.Deep.Grids
namespace Go.Proofs.Qxb6604119aMods.fnFlightFreeAdditive
open Go.ChangeShapes Go.WideShapes Go.ChangeAt Go.RowKit
set_option linter.unusedVariables false

theorem own : ownKnob Trym.prog.godebug = none := by kernel_rfl
theorem laidOut : laidOutB Trym.prog = true := by kernel_rfl

/-! ### The walk -/
theorem walk (a0 : Option Addr) (len0 cap0 : Nat) (B : Nat → Bool) (a1 : Int) (w : World) (hv : Vi w a0 len0 B) (hc : a0 = none → cap0 = 0) (hl : len0 ≤ 9223372036854775807) (w1 : (Lit.int .i64 a1).wf = true) :
    Calls Trym.prog 6 #[.slice a0 len0 cap0, .int .i64 a1] w fun e w' => e = .returned (.bool true) ∧ Below w.heap.size w w' := by
  have hb := bounds_i64 w1
  by_cases hn : len0 ≤ 1048576
  · by_cases ho : a1 < 0 ∨ (len0 : Int) < a1
    · exact additive_out a0 len0 cap0 a1 hn ho w
    · obtain ⟨k, rfl⟩ : ∃ k : Nat, a1 = k := ⟨a1.toNat, by omega⟩
      exact additive_top a0 len0 cap0 k B (by omega) hn hc w hv
  · exact additive_big a0 len0 cap0 a1 hl hn w

/-! ### The row's step -/
set_option maxRecDepth 100000 in
theorem lifted (os : Os) (started : os.Started) (H : Type) (enc : TypeId × Value → H) :
    ReturnsInHanded {} Trym.checked os 6 .any (Rows.fnFlightFreeAdditiveSpec.pre6 enc Trym.prog Trym.f6 Rows.fnFlightFreeAdditiveRow.domain false) (Rows.fnFlightFreeAdditiveSpec.post enc Trym.prog Trym.f6 false true false false) := by
  refine returnsInHanded_of_change (C := Trym.checked) own started (by kernel_rfl) Trym.func6
    (ChangeSpec.witness6 (enc := enc) (C := Trym.checked) false ⟨#[], #[.slice none 0 0, .int .i64 0], []⟩ 8 (by kernel_rfl) (by kernel_rfl) (by kernel_rfl) (by kernel_rfl)) ?_
  intro W base args ds gs before hval0 hW hcnd _
  have hval : ∀ (j : Nat) t v, Trym.f6.params[j]? = some t → args[j]? = some v → Value.okWide Trym.prog W .any base t v := hval0
  have hW' := hW
  obtain ⟨p, q, hA0, hV, rfl, hfz, hnd⟩ := hW
  have hA : DataW.TrodAll enc Trym.prog W 0 (fun _ => true) true Trym.f6.params.toList args.toList ds p := hA0
  rw [Trym.params6] at hA hval
  obtain ⟨v0, vs0, d0, ds0, p0, q0, hargs, rfl, rfl, h0, r0⟩ := trodAll_cons hA
  obtain ⟨v1, vs1, d1, ds1, p1, q1, rfl, rfl, rfl, h1, r1⟩ := trodAll_cons r0
  obtain ⟨rfl, rfl, rfl⟩ := trodAll_nil r1
  obtain rfl : args = #[v0, v1] := by cases args; simp_all
  obtain ⟨rfl, rfl⟩ := trodVars_none hV
  obtain ⟨a0, len0, cap0, rfl⟩ := okWide_slice Trym.underlying39 (hval 0 39 v0 rfl rfl)
  obtain ⟨a1, rfl, rfl, rfl, w1⟩ := open_int Trym.underlying3 (hval 1 3 v1 rfl rfl) h1
  have k0 := h0
  have lt0 : ∀ x ∈ p0, x.block < W.heap.size := by obtain ⟨m, hm⟩ := k0; exact DataW.trod_lt m _ _ _ hm
  obtain ⟨B, hv, hc, hl⟩ : ∃ B, Vi W a0 len0 B ∧ (a0 = none → cap0 = 0) ∧ len0 ≤ 9223372036854775807 := by
    obtain ⟨fuel, hf⟩ := h0
    rcases Go.Deep.open_bools Trym.underlying39 Trym.underlying4 (by kernel_rfl) hf with ⟨hcs, _⟩ | ⟨x, l, c, B, hcs, _, hl, hm, _, hcell⟩
    · simp [Value.cells] at hcs
      obtain ⟨rfl, rfl, rfl⟩ := hcs
      exact ⟨fun _ => false, .inl ⟨rfl, rfl⟩, fun _ => rfl, by omega⟩
    · simp [Value.cells] at hcs
      obtain ⟨rfl, rfl, rfl⟩ := hcs
      unfold maxLen at hm
      exact ⟨B, .inr ⟨_, rfl, fun i hi => hcell i (by omega)⟩, fun h => by simp at h, by omega⟩
  clear hA0 hval0
  refine (walk a0 len0 cap0 B a1 W hv hc hl w1).mono fun e W' ⟨he, bel⟩ => ?_
  subst he
  exact ⟨_, rfl, _, _, _, [], _, [], hW', trodAll_mk1 (shut_bool Trym.underlying4 _), (trodAll_cons_mk (Below.trod laidOut (by kernel_rfl) (of_decide_eq_true (by kernel_rfl)) k0 bel lt0) (trodAll_cons_mk (shut_int Trym.underlying3 w1) trodAll_mk0)), rfl, bel.frame _, fun h => by cases h⟩

theorem over : Rows.fnFlightFreeAdditiveRow.holds Trym.pinned (OpenSpec.ofChange Rows.fnFlightFreeAdditiveSpec) :=
  OpenClaim.holds_of_wide 6 Trym.f6 rfl rfl rfl rfl rfl rfl rfl ⟨rfl, rfl, rfl, rfl, rfl⟩ rfl rfl rfl rfl rfl (by kernel_rfl) Trym.func6 (by kernel_rfl)
    (of_decide_eq_true (by kernel_rfl)) (by unfold Func.isWrapper; first | (rw [if_pos (by decide +kernel)]; kernel_rfl) | (rw [if_neg (by decide +kernel)]; exact ⟨rfl, rfl⟩))
    (fun os started H enc _ => lifted os started H enc)
end Go.Proofs.Qxb6604119aMods.fnFlightFreeAdditive

namespace Go.Proofs.Qxb6604119aMods
/-- The statement. -/
theorem fnFlightFreeAdditive_proved : Rows.FnFlightFreeAdditiveSaid := fnFlightFreeAdditive.over
end Go.Proofs.Qxb6604119aMods
