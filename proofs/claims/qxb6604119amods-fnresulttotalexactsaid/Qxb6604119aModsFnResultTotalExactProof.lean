/- The row's step for 'Rows.FnResultTotalExactSaid': the guide's frame at this function (a string, a slice of records), its walk taken from this seat's own contracts. -/
import Derived.Test.Qxb6604119aModsRows
import Derived.Test.Qxb6604119aModsTop
import Derived.Test.Qxb6604119aModsOpen
import Derived.WalkKit
import Derived.ProofKit
import Derived.OpenShut
import Derived.ShutString
import Derived.ChangeOld
import Derived.Below
namespace Go.Proofs.Qxb6604119aMods.fnResultTotalExact
open Go.ChangeShapes Go.WideShapes Go.ChangeAt Go.RowKit
open Go.ChangeMaps (open_string shut_string)
set_option linter.unusedVariables false

theorem own : ownKnob Trym.prog.godebug = none := by kernel_rfl
theorem laidOut : laidOutB Trym.prog = true := by kernel_rfl

/-! ### The walk -/
theorem walk (s : ByteArray) (a : Option Addr) (n c : Nat) (R : Nat → Rp) (w : World) (hs : s.size ≤ maxLen) (hv : Vg w a n R) (hnm : ∀ i, i < n → (R i).nm.size ≤ 9223372036854775807) (hc : a = none → n = 0 ∧ c = 0) (hl : n ≤ 9223372036854775807) :
    Calls Trym.prog 3 #[.string s, .slice a n c] w fun e w' => e = .returned (.bool true) ∧ Below w.heap.size w w' := by
  unfold maxLen at hs
  by_cases hb : 65536 < s.size ∨ 4096 < n
  · exact top_bad s a n c R hs hl hnm hb w hv
  · exact top_any s a n c R (by omega) (by omega) hnm hc w hv

/-! ### The row's step -/
set_option maxRecDepth 100000 in
theorem lifted (os : Os) (started : os.Started) (H : Type) (enc : TypeId × Value → H) :
    ReturnsInHanded {} Trym.checked os 3 .any (Rows.fnResultTotalExactSpec.pre6 enc Trym.prog Trym.f3 Rows.fnResultTotalExactRow.domain false) (Rows.fnResultTotalExactSpec.post enc Trym.prog Trym.f3 false true false false) := by
  refine returnsInHanded_of_change (C := Trym.checked) own started (by kernel_rfl) Trym.func3
    (ChangeSpec.witness6 (enc := enc) (C := Trym.checked) false ⟨#[], #[.string ByteArray.empty, .slice none 0 0], []⟩ 8 (by kernel_rfl) (by kernel_rfl) (by kernel_rfl) (by kernel_rfl)) ?_
  intro W base args ds gs before hval0 hW hcnd _
  have hval : ∀ (j : Nat) t v, Trym.f3.params[j]? = some t → args[j]? = some v → Value.okWide Trym.prog W .any base t v := hval0
  have hW' := hW
  obtain ⟨p, q, hA0, hV, rfl, hfz, hnd⟩ := hW
  have hA : DataW.TrodAll enc Trym.prog W 0 (fun _ => true) true Trym.f3.params.toList args.toList ds p := hA0
  rw [Trym.params3] at hA hval
  obtain ⟨v0, vs0, d0, ds0, p0, q0, hargs, rfl, rfl, h0, r0⟩ := trodAll_cons hA
  obtain ⟨v1, vs1, d1, ds1, p1, q1, rfl, rfl, rfl, h1, r1⟩ := trodAll_cons r0
  obtain ⟨rfl, rfl, rfl⟩ := trodAll_nil r1
  obtain rfl : args = #[v0, v1] := by cases args; simp_all
  obtain ⟨rfl, rfl⟩ := trodVars_none hV
  obtain ⟨s, rfl, rfl, rfl, hs⟩ := open_string Trym.underlying9 (hval 0 9 v0 rfl rfl) h0
  obtain ⟨a, n, c, rfl⟩ := okWide_slice Trym.underlying22 (hval 1 22 v1 rfl rfl)
  have k1 := h1
  have lt1 : ∀ x ∈ p1, x.block < W.heap.size := by obtain ⟨m, hm⟩ := k1; exact DataW.trod_lt m _ _ _ hm
  obtain ⟨R, hv, hnm, hc, hl⟩ : ∃ R, Vg W a n R ∧ (∀ i, i < n → (R i).nm.size ≤ 9223372036854775807) ∧ (a = none → n = 0 ∧ c = 0) ∧ n ≤ 9223372036854775807 := by
    obtain ⟨fuel, hf⟩ := h1
    exact open_reps hf
  clear hA0 hval0
  refine (walk s a n c R W hs hv hnm hc hl).mono fun e W' ⟨he, bel⟩ => ?_
  subst he
  exact ⟨_, rfl, _, _, _, [], _, [], hW', trodAll_mk1 (shut_bool Trym.underlying4 _), (trodAll_cons_mk (shut_string Trym.underlying9 hs) (trodAll_cons_mk (Below.trod laidOut (by kernel_rfl) (of_decide_eq_true (by kernel_rfl)) k1 bel lt1) trodAll_mk0)), rfl, bel.frame _, fun h => by cases h⟩

theorem over : Rows.fnResultTotalExactRow.holds Trym.pinned (OpenSpec.ofChange Rows.fnResultTotalExactSpec) :=
  OpenClaim.holds_of_wide 3 Trym.f3 rfl rfl rfl rfl rfl rfl rfl ⟨rfl, rfl, rfl, rfl, rfl⟩ rfl rfl rfl rfl rfl (by kernel_rfl) Trym.func3 (by kernel_rfl)
    (of_decide_eq_true (by kernel_rfl)) (by unfold Func.isWrapper; first | (rw [if_pos (by decide +kernel)]; kernel_rfl) | (rw [if_neg (by decide +kernel)]; exact ⟨rfl, rfl⟩))
    (fun os started H enc _ => lifted os started H enc)
end Go.Proofs.Qxb6604119aMods.fnResultTotalExact

namespace Go.Proofs.Qxb6604119aMods
/-- The statement. -/
theorem fnResultTotalExact_proved : Rows.FnResultTotalExactSaid := fnResultTotalExact.over
end Go.Proofs.Qxb6604119aMods
