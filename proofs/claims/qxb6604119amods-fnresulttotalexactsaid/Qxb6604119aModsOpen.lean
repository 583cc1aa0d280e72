/- The records that came in, opened. -/
import Derived.Test.Qxb6604119aModsReps
import Derived.ProofKit
import Derived.OpenShut
import Derived.Deep.Slices
namespace Go.Proofs.Qxb6604119aMods
open Go.ChangeShapes Go.WideShapes Go.ChangeAt Go.RowKit
set_option linter.unusedVariables false

theorem cells9 : Trym.prog.cellsOf 9 = 1 := by kernel_rfl
theorem cells3 : Trym.prog.cellsOf 3 = 1 := by kernel_rfl
theorem cells2 : Trym.prog.cellsOf 2 = 1 := by kernel_rfl
theorem cells24 : Trym.prog.cellsOf 24 = 1 := by kernel_rfl
theorem cells26 : Trym.prog.cellsOf 26 = 15 := by kernel_rfl

section
variable {H : Type} {enc : TypeId × Value → H} {W : World} {base : Nat} {spare : Nat → Bool} {held : Bool}

theorem trod_float {t : TypeId} {k : FloatKind} {fuel : Nat} {cs : List Value} {x : DataW H × List MemPlace} (ht : Trym.prog.underlying t = some (.float k)) (h : DataW.trod enc Trym.prog W base spare held fuel t cs = some x) : ∃ b, cs = [.float k b] := by
  cases fuel with
  | zero => simp [DataW.trod] at h
  | succ n =>
    unfold DataW.trod at h
    rw [ht] at h
    split at h <;> simp_all

theorem open_rep {fuel : Nat} {cs : List Value} {x : DataW H × List MemPlace} (h : DataW.trod enc Trym.prog W base spare held fuel 26 cs = some x) : ∃ r : Rp, cs = r.cs ∧ r.nm.size ≤ maxLen := by
  obtain ⟨xs, m, rfl, hxy, hlen, hxl, hf⟩ := DataW.trod_struct Trym.underlying26 h
  rw [cells26] at hlen
  have hx15 : xs.length = 15 := hxl
  clear hxy h
  match cs, hlen with
  | [v0, v1, v2, v3, v4, v5, v6, v7, v8, v9, v10, v11, v12, v13, v14], _ =>
    have e0 : ∃ y, DataW.trod enc Trym.prog W base spare held m 9 [v0] = some y := by
      have hj : DataW.trod enc Trym.prog W base spare held m 9 ((([v0, v1, v2, v3, v4, v5, v6, v7, v8, v9, v10, v11, v12, v13, v14] : List Value).drop 0).take (Trym.prog.cellsOf 9)) = xs[0]? := hf 0 _ rfl
      rw [cells9] at hj
      exact ⟨_, (show DataW.trod enc Trym.prog W base spare held m 9 [v0] = _ from hj).trans (List.getElem?_eq_getElem (show 0 < xs.length by omega))⟩
    obtain ⟨y0, g0⟩ := e0
    obtain ⟨z0, q0, -, hz⟩ := DataW.trod_string Trym.underlying9 g0
    have e1 : ∃ y, DataW.trod enc Trym.prog W base spare held m 3 [v1] = some y := by
      have hj : DataW.trod enc Trym.prog W base spare held m 3 ((([v0, v1, v2, v3, v4, v5, v6, v7, v8, v9, v10, v11, v12, v13, v14] : List Value).drop 1).take (Trym.prog.cellsOf 3)) = xs[1]? := hf 1 _ rfl
      rw [cells3] at hj
      exact ⟨_, (show DataW.trod enc Trym.prog W base spare held m 3 [v1] = _ from hj).trans (List.getElem?_eq_getElem (show 1 < xs.length by omega))⟩
    obtain ⟨y1, g1⟩ := e1
    obtain ⟨z1, q1, -, -⟩ := DataW.trod_int Trym.underlying3 g1
    have e2 : ∃ y, DataW.trod enc Trym.prog W base spare held m 3 [v2] = some y := by
      have hj : DataW.trod enc Trym.prog W base spare held m 3 ((([v0, v1, v2, v3, v4, v5, v6, v7, v8, v9, v10, v11, v12, v13, v14] : List Value).drop 2).take (Trym.prog.cellsOf 3)) = xs[2]? := hf 2 _ rfl
      rw [cells3] at hj
      exact ⟨_, (show DataW.trod enc Trym.prog W base spare held m 3 [v2] = _ from hj).trans (List.getElem?_eq_getElem (show 2 < xs.length by omega))⟩
    obtain ⟨y2, g2⟩ := e2
    obtain ⟨z2, q2, -, -⟩ := DataW.trod_int Trym.underlying3 g2
    have e3 : ∃ y, DataW.trod enc Trym.prog W base spare held m 3 [v3] = some y := by
      have hj : DataW.trod enc Trym.prog W base spare held m 3 ((([v0, v1, v2, v3, v4, v5, v6, v7, v8, v9, v10, v11, v12, v13, v14] : List Value).drop 3).take (Trym.prog.cellsOf 3)) = xs[3]? := hf 3 _ rfl
      rw [cells3] at hj
      exact ⟨_, (show DataW.trod enc Trym.prog W base spare held m 3 [v3] = _ from hj).trans (List.getElem?_eq_getElem (show 3 < xs.length by omega))⟩
    obtain ⟨y3, g3⟩ := e3
    obtain ⟨z3, q3, -, -⟩ := DataW.trod_int Trym.underlying3 g3
    have e4 : ∃ y, DataW.trod enc Trym.prog W base spare held m 2 [v4] = some y := by
      have hj : DataW.trod enc Trym.prog W base spare held m 2 ((([v0, v1, v2, v3, v4, v5, v6, v7, v8, v9, v10, v11, v12, v13, v14] : List Value).drop 4).take (Trym.prog.cellsOf 2)) = xs[4]? := hf 4 _ rfl
      rw [cells2] at hj
      exact ⟨_, (show DataW.trod enc Trym.prog W base spare held m 2 [v4] = _ from hj).trans (List.getElem?_eq_getElem (show 4 < xs.length by omega))⟩
    obtain ⟨y4, g4⟩ := e4
    obtain ⟨z4, q4, -, -⟩ := DataW.trod_int Trym.underlying2 g4
    have e5 : ∃ y, DataW.trod enc Trym.prog W base spare held m 3 [v5] = some y := by
      have hj : DataW.trod enc Trym.prog W base spare held m 3 ((([v0, v1, v2, v3, v4, v5, v6, v7, v8, v9, v10, v11, v12, v13, v14] : List Value).drop 5).take (Trym.prog.cellsOf 3)) = xs[5]? := hf 5 _ rfl
      rw [cells3] at hj
      exact ⟨_, (show DataW.trod enc Trym.prog W base spare held m 3 [v5] = _ from hj).trans (List.getElem?_eq_getElem (show 5 < xs.length by omega))⟩
    obtain ⟨y5, g5⟩ := e5
    obtain ⟨z5, q5, -, -⟩ := DataW.trod_int Trym.underlying3 g5
    have e6 : ∃ y, DataW.trod enc Trym.prog W base spare held m 24 [v6] = some y := by
      have hj : DataW.trod enc Trym.prog W base spare held m 24 ((([v0, v1, v2, v3, v4, v5, v6, v7, v8, v9, v10, v11, v12, v13, v14] : List Value).drop 6).take (Trym.prog.cellsOf 24)) = xs[6]? := hf 6 _ rfl
      rw [cells24] at hj
      exact ⟨_, (show DataW.trod enc Trym.prog W base spare held m 24 [v6] = _ from hj).trans (List.getElem?_eq_getElem (show 6 < xs.length by omega))⟩
    obtain ⟨y6, g6⟩ := e6
    obtain ⟨z6, q6⟩ := trod_float Trym.underlying24 g6
    have e7 : ∃ y, DataW.trod enc Trym.prog W base spare held m 3 [v7] = some y := by
      have hj : DataW.trod enc Trym.prog W base spare held m 3 ((([v0, v1, v2, v3, v4, v5, v6, v7, v8, v9, v10, v11, v12, v13, v14] : List Value).drop 7).take (Trym.prog.cellsOf 3)) = xs[7]? := hf 7 _ rfl
      rw [cells3] at hj
      exact ⟨_, (show DataW.trod enc Trym.prog W base spare held m 3 [v7] = _ from hj).trans (List.getElem?_eq_getElem (show 7 < xs.length by omega))⟩
    obtain ⟨y7, g7⟩ := e7
    obtain ⟨z7, q7, -, -⟩ := DataW.trod_int Trym.underlying3 g7
    have e8 : ∃ y, DataW.trod enc Trym.prog W base spare held m 3 [v8] = some y := by
      have hj : DataW.trod enc Trym.prog W base spare held m 3 ((([v0, v1, v2, v3, v4, v5, v6, v7, v8, v9, v10, v11, v12, v13, v14] : List Value).drop 8).take (Trym.prog.cellsOf 3)) = xs[8]? := hf 8 _ rfl
      rw [cells3] at hj
      exact ⟨_, (show DataW.trod enc Trym.prog W base spare held m 3 [v8] = _ from hj).trans (List.getElem?_eq_getElem (show 8 < xs.length by omega))⟩
    obtain ⟨y8, g8⟩ := e8
    obtain ⟨z8, q8, -, -⟩ := DataW.trod_int Trym.underlying3 g8
    have e9 : ∃ y, DataW.trod enc Trym.prog W base spare held m 3 [v9] = some y := by
      have hj : DataW.trod enc Trym.prog W base spare held m 3 ((([v0, v1, v2, v3, v4, v5, v6, v7, v8, v9, v10, v11, v12, v13, v14] : List Value).drop 9).take (Trym.prog.cellsOf 3)) = xs[9]? := hf 9 _ rfl
      rw [cells3] at hj
      exact ⟨_, (show DataW.trod enc Trym.prog W base spare held m 3 [v9] = _ from hj).trans (List.getElem?_eq_getElem (show 9 < xs.length by omega))⟩
    obtain ⟨y9, g9⟩ := e9
    obtain ⟨z9, q9, -, -⟩ := DataW.trod_int Trym.underlying3 g9
    have e10 : ∃ y, DataW.trod enc Trym.prog W base spare held m 3 [v10] = some y := by
      have hj : DataW.trod enc Trym.prog W base spare held m 3 ((([v0, v1, v2, v3, v4, v5, v6, v7, v8, v9, v10, v11, v12, v13, v14] : List Value).drop 10).take (Trym.prog.cellsOf 3)) = xs[10]? := hf 10 _ rfl
      rw [cells3] at hj
      exact ⟨_, (show DataW.trod enc Trym.prog W base spare held m 3 [v10] = _ from hj).trans (List.getElem?_eq_getElem (show 10 < xs.length by omega))⟩
    obtain ⟨y10, g10⟩ := e10
    obtain ⟨z10, q10, -, -⟩ := DataW.trod_int Trym.underlying3 g10
    have e11 : ∃ y, DataW.trod enc Trym.prog W base spare held m 24 [v11] = some y := by
      have hj : DataW.trod enc Trym.prog W base spare held m 24 ((([v0, v1, v2, v3, v4, v5, v6, v7, v8, v9, v10, v11, v12, v13, v14] : List Value).drop 11).take (Trym.prog.cellsOf 24)) = xs[11]? := hf 11 _ rfl
      rw [cells24] at hj
      exact ⟨_, (show DataW.trod enc Trym.prog W base spare held m 24 [v11] = _ from hj).trans (List.getElem?_eq_getElem (show 11 < xs.length by omega))⟩
    obtain ⟨y11, g11⟩ := e11
    obtain ⟨z11, q11⟩ := trod_float Trym.underlying24 g11
    have e12 : ∃ y, DataW.trod enc Trym.prog W base spare held m 3 [v12] = some y := by
      have hj : DataW.trod enc Trym.prog W base spare held m 3 ((([v0, v1, v2, v3, v4, v5, v6, v7, v8, v9, v10, v11, v12, v13, v14] : List Value).drop 12).take (Trym.prog.cellsOf 3)) = xs[12]? := hf 12 _ rfl
      rw [cells3] at hj
      exact ⟨_, (show DataW.trod enc Trym.prog W base spare held m 3 [v12] = _ from hj).trans (List.getElem?_eq_getElem (show 12 < xs.length by omega))⟩
    obtain ⟨y12, g12⟩ := e12
    obtain ⟨z12, q12, -, -⟩ := DataW.trod_int Trym.underlying3 g12
    have e13 : ∃ y, DataW.trod enc Trym.prog W base spare held m 3 [v13] = some y := by
      have hj : DataW.trod enc Trym.prog W base spare held m 3 ((([v0, v1, v2, v3, v4, v5, v6, v7, v8, v9, v10, v11, v12, v13, v14] : List Value).drop 13).take (Trym.prog.cellsOf 3)) = xs[13]? := hf 13 _ rfl
      rw [cells3] at hj
      exact ⟨_, (show DataW.trod enc Trym.prog W base spare held m 3 [v13] = _ from hj).trans (List.getElem?_eq_getElem (show 13 < xs.length by omega))⟩
    obtain ⟨y13, g13⟩ := e13
    obtain ⟨z13, q13, -, -⟩ := DataW.trod_int Trym.underlying3 g13
    have e14 : ∃ y, DataW.trod enc Trym.prog W base spare held m 3 [v14] = some y := by
      have hj : DataW.trod enc Trym.prog W base spare held m 3 ((([v0, v1, v2, v3, v4, v5, v6, v7, v8, v9, v10, v11, v12, v13, v14] : List Value).drop 14).take (Trym.prog.cellsOf 3)) = xs[14]? := hf 14 _ rfl
      rw [cells3] at hj
      exact ⟨_, (show DataW.trod enc Trym.prog W base spare held m 3 [v14] = _ from hj).trans (List.getElem?_eq_getElem (show 14 < xs.length by omega))⟩
    obtain ⟨y14, g14⟩ := e14
    obtain ⟨z14, q14, -, -⟩ := DataW.trod_int Trym.underlying3 g14
    obtain rfl : v0 = _ := by simpa using q0
    obtain rfl : v1 = _ := by simpa using q1
    obtain rfl : v2 = _ := by simpa using q2
    obtain rfl : v3 = _ := by simpa using q3
    obtain rfl : v4 = _ := by simpa using q4
    obtain rfl : v5 = _ := by simpa using q5
    obtain rfl : v6 = _ := by simpa using q6
    obtain rfl : v7 = _ := by simpa using q7
    obtain rfl : v8 = _ := by simpa using q8
    obtain rfl : v9 = _ := by simpa using q9
    obtain rfl : v10 = _ := by simpa using q10
    obtain rfl : v11 = _ := by simpa using q11
    obtain rfl : v12 = _ := by simpa using q12
    obtain rfl : v13 = _ := by simpa using q13
    obtain rfl : v14 = _ := by simpa using q14
    exact ⟨⟨z0, z1, z2, z3, z4, z5, z6, z7, z8, z9, z10, z11, z12, z13, z14⟩, rfl, hz⟩

/-- A slice of records that came in. -/
theorem open_reps {fuel : Nat} {a : Option Addr} {n c : Nat} {x : DataW H × List MemPlace} (h : DataW.trod enc Trym.prog W 0 (fun _ => true) true fuel 22 (Value.slice a n c).cells.toList = some x) :
    ∃ R : Nat → Rp, Vg W a n R ∧ (∀ i, i < n → (R i).nm.size ≤ 9223372036854775807) ∧ (a = none → n = 0 ∧ c = 0) ∧ n ≤ 9223372036854775807 := by
  rcases Go.Deep.open_slice Trym.underlying22 h with ⟨hcs, _⟩ | ⟨y, l, cp, m, f, D, Pl, hcs, _, hl, hm, hmm, _, hx⟩
  · simp [Value.cells] at hcs
    obtain ⟨rfl, rfl, rfl⟩ := hcs
    exact ⟨fun _ => ⟨ByteArray.empty, 0, 0, 0, 0, 0, 0, 0, 0, 0, 0, 0, 0, 0, 0⟩, .inl rfl, fun i hi => by omega, fun _ => ⟨rfl, rfl⟩, by omega⟩
  · simp [Value.cells] at hcs
    obtain ⟨rfl, rfl, rfl⟩ := hcs
    simp only [if_true] at hmm
    subst hmm
    unfold maxLen at hm
    have each : ∀ i, i < n → ∃ r : Rp, (∀ j v, r.cs[j]? = some v → W.cell? ((y.add (i * 15)).add j) = some v) ∧ r.nm.size ≤ maxLen := by
      intro i hi
      obtain ⟨cs', h1, h2⟩ := hx i (by omega)
      rw [cells26] at h1
      obtain ⟨_, hlen, hcell⟩ := World.cells?_some h1
      obtain ⟨r, rfl, hr⟩ := open_rep h2
      refine ⟨r, fun j v hj => ?_, hr⟩
      have hj' : j < 15 := (List.getElem?_eq_some_iff.1 hj).1
      rw [hcell j hj', hj]
    by_cases hn0 : n = 0
    · subst hn0
      exact ⟨fun _ => ⟨ByteArray.empty, 0, 0, 0, 0, 0, 0, 0, 0, 0, 0, 0, 0, 0, 0⟩, .inl rfl, fun i hi => by omega, fun h => by simp at h, by omega⟩
    · obtain ⟨r0, hr0, _⟩ := each 0 (by omega)
      obtain ⟨b, off, spot⟩ := y
      have hc0 := hr0 0 _ rfl
      have hspot : spot = none := by simpa [Addr.add] using World.cell?_spot hc0
      subst hspot
      have key : ∃ R : Nat → Rp, ∀ i, i < n → (∀ j v, (R i).cs[j]? = some v → W.cell? (((⟨b, off, none⟩ : Addr).add (i * 15)).add j) = some v) ∧ (R i).nm.size ≤ maxLen := by
        refine ⟨fun i => if hi : i < n then Classical.choose (each i hi) else r0, fun i hi => ?_⟩
        simp only [dif_pos hi]
        exact Classical.choose_spec (each i hi)
      obtain ⟨R, hR⟩ := key
      refine ⟨R, .inr ⟨b, off, rfl, World.block_lt_of_cell? _ _ (by have := (hR 0 (by omega)).1 0 _ rfl; exact this), fun i hi j v hj => ?_⟩, fun i hi => ?_, fun h => by simp at h, by omega⟩
      · have := (hR i hi).1 j v hj
        rw [Addr.add_mid, Addr.add_mid] at this
        exact this
      · have := (hR i hi).2
        unfold maxLen at this
        exact this
end
end Go.Proofs.Qxb6604119aMods
