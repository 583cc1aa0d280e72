import Derived.Test.Qxb6602867aModsRows
import Derived.Test.Qxb6602867aModsPlain
import Derived.WalkKit
import Derived.Deep.OwnRows
namespace Go.Proofs.Qxb6602867aMods
open Go.RowKit Go.Deep
set_option linter.unusedVariables false

theorem Trym.info5 : (Trym.prog.info? 5).map (fun i => (i.zero, i.size, i.bytes)) = some (some (.int .u8 0), 1, 1) := by kernel_rfl

/-! ### The first loop's relation, outside the walk -/
def Tl (h : Int) (acc : List Int) (f : Nat) (W : Int) : Prop := acc ++ Sh.rdig f W = Sh.rtext h ∧ W < 10 ^ f ∧ acc.length + f ≤ 21
theorem tl_zero {h : Int} (h0 : 0 ≤ h) (e : h / 100 = 0) : Tl h [48 + h % 10, 48 + h % 100 / 10, 46, 48] 17 (h / 100) := by
  refine ⟨?_, by omega, by simp⟩
  rw [e]
  unfold Sh.rtext
  rw [if_pos e, show h % 100 % 10 = h % 10 by omega]
  simp [Sh.rdig]
theorem tl_some {h : Int} (h0 : 0 ≤ h) (h1 : h ≤ 9223372036854775807) (e : ¬ h / 100 = 0) : Tl h [48 + h % 10, 48 + h % 100 / 10, 46] 17 (h / 100) := by
  refine ⟨?_, by omega, by simp⟩
  unfold Sh.rtext
  rw [if_neg e, show h % 100 % 10 = h % 10 by omega]
theorem tl_step {h : Int} {acc : List Int} {f : Nat} {W : Int} (t : Tl h acc f W) (hW : 0 < W) : Tl h (acc ++ [48 + W % 10]) (f - 1) (W / 10) ∧ acc.length < 21 := by
  obtain ⟨a, b, c⟩ := t
  cases f with
  | zero => simp at b; omega
  | succ f =>
    refine ⟨⟨?_, by rw [Int.pow_succ] at b; simp; omega, by simp; omega⟩, by omega⟩
    rw [← a, Sh.rdig, if_neg (by omega)]
    simp
theorem tl_end {h : Int} {acc : List Int} {f : Nat} {W : Int} (t : Tl h acc f W) (hW : ¬ 0 < W) : acc = Sh.rtext h := by
  obtain ⟨a, b, c⟩ := t
  rw [← a]
  have : Sh.rdig f W = [] := by
    cases f with
    | zero => rfl
    | succ f => rw [Sh.rdig, if_pos (by omega)]
  rw [this, List.append_nil]
theorem rev_snoc {w : World} {B : Nat} {acc : List Int} {q : Nat} {d : Int} (hq : q = acc.length) (hr : w.rowIs B 34 24 (fun i => .int .u8 (acc.getD i 0))) :
    (w.setCell ⟨B, q, none⟩ (.int .u8 d)).rowIs B 34 24 (fun i => .int .u8 ((acc ++ [d]).getD i 0)) := by
  subst hq
  refine (hr.set acc.length (.int .u8 d)).congr fun i hi => ?_
  by_cases h : i = acc.length
  · subst h; simp [List.getD]
  · rw [if_neg h]
    by_cases h2 : i < acc.length
    · simp [List.getD, List.getElem?_append_left h2]
    · have e1 : acc[i]? = none := by rw [List.getElem?_eq_none_iff]; omega
      have e2 : (acc ++ [d])[i]? = none := by rw [List.getElem?_eq_none_iff]; simp; omega
      simp [List.getD, e1, e2]
theorem rev_three (w : World) (a b c : Int) : (w.alloc (.cells #[.int .u8 a, .int .u8 b, .int .u8 c, .int .u8 0, .int .u8 0, .int .u8 0, .int .u8 0, .int .u8 0, .int .u8 0, .int .u8 0, .int .u8 0, .int .u8 0,
      .int .u8 0, .int .u8 0, .int .u8 0, .int .u8 0, .int .u8 0, .int .u8 0, .int .u8 0, .int .u8 0, .int .u8 0, .int .u8 0, .int .u8 0, .int .u8 0] 34)).rowIs w.heap.size 34 24 (fun i => .int .u8 ([a, b, c].getD i 0)) := by
  refine World.rowIs_alloc w _ 34 _ fun i hi => ?_
  have hi' : i < 24 := hi
  have : i = 0 ∨ i = 1 ∨ i = 2 ∨ i = 3 ∨ i = 4 ∨ i = 5 ∨ i = 6 ∨ i = 7 ∨ i = 8 ∨ i = 9 ∨ i = 10 ∨ i = 11 ∨ i = 12 ∨ i = 13 ∨ i = 14 ∨ i = 15 ∨ i = 16 ∨ i = 17 ∨ i = 18 ∨ i = 19 ∨ i = 20 ∨ i = 21 ∨ i = 22 ∨ i = 23 := by omega
  rcases this with rfl | rfl | rfl | rfl | rfl | rfl | rfl | rfl | rfl | rfl | rfl | rfl | rfl | rfl | rfl | rfl | rfl | rfl | rfl | rfl | rfl | rfl | rfl | rfl <;> rfl
theorem rev_four (w : World) (a b c d : Int) : (w.alloc (.cells #[.int .u8 a, .int .u8 b, .int .u8 c, .int .u8 d, .int .u8 0, .int .u8 0, .int .u8 0, .int .u8 0, .int .u8 0, .int .u8 0, .int .u8 0, .int .u8 0,
      .int .u8 0, .int .u8 0, .int .u8 0, .int .u8 0, .int .u8 0, .int .u8 0, .int .u8 0, .int .u8 0, .int .u8 0, .int .u8 0, .int .u8 0, .int .u8 0] 34)).rowIs w.heap.size 34 24 (fun i => .int .u8 ([a, b, c, d].getD i 0)) := by
  refine World.rowIs_alloc w _ 34 _ fun i hi => ?_
  have hi' : i < 24 := hi
  have : i = 0 ∨ i = 1 ∨ i = 2 ∨ i = 3 ∨ i = 4 ∨ i = 5 ∨ i = 6 ∨ i = 7 ∨ i = 8 ∨ i = 9 ∨ i = 10 ∨ i = 11 ∨ i = 12 ∨ i = 13 ∨ i = 14 ∨ i = 15 ∨ i = 16 ∨ i = 17 ∨ i = 18 ∨ i = 19 ∨ i = 20 ∨ i = 21 ∨ i = 22 ∨ i = 23 := by omega
  rcases this with rfl | rfl | rfl | rfl | rfl | rfl | rfl | rfl | rfl | rfl | rfl | rfl | rfl | rfl | rfl | rfl | rfl | rfl | rfl | rfl | rfl | rfl | rfl | rfl <;> rfl

/-! ### The second loop's relation -/
/-- What 'out' holds behind j rounds. -/
def oj (acc : List Int) (q j i : Nat) : Int := if i < j then acc.getD (q - 1 - i) 0 else 0
theorem out_step {w : World} {b q j : Nat} {acc : List Int} (hr : w.rowIs b 5 q (fun i => .int .u8 (oj acc q j i))) :
    (w.setCell ⟨b, j, none⟩ (.int .u8 (acc.getD (q - 1 - j) 0))).rowIs b 5 q (fun i => .int .u8 (oj acc q (j + 1) i)) := by
  refine (hr.set j _).congr fun i hi => ?_
  unfold oj
  by_cases h : i = j
  · subst h; simp
  · rw [if_neg h]
    by_cases h2 : i < j
    · rw [if_pos h2, if_pos (by omega)]
    · rw [if_neg h2, if_neg (by omega)]
theorem out_end {w : World} {b q : Nat} {acc : List Int} (hq : q = acc.length) (hr : w.rowIs b 5 q (fun i => .int .u8 (oj acc q q i))) :
    w.rowIs b 5 q (fun i => .int .u8 (acc.reverse.getD i 0)) := by
  refine hr.congr fun i hi => ?_
  unfold oj
  rw [if_pos hi]
  have h2 : i < acc.length := by omega
  have h3 : acc.length - 1 - i < acc.length := by omega
  subst hq
  simp [List.getD, h2, h3]

set_option maxHeartbeats 2000000 in
theorem rend_any (h : Int) (h0 : 0 ≤ h) (h1 : h ≤ 9223372036854775807) (w : World) :
    Calls Trym.prog 12 #[.int .i64 h] w fun e w' => ∃ b n, e = .returned (.slice (some ⟨b, 0, none⟩) n n) ∧ n = (Sh.text h).length ∧ w.heap.size ≤ b ∧ w'.rowIs b 5 n (fun i => .int .u8 ((Sh.text h).getD i 0)) ∧ Below w.heap.size w w' := by
  have hstart : ¬ h < 0 := by omega
  by_cases hz : h / 100 = 0
  all_goals
    first
      | have T0 : Hid (Tl h [48 + h % 10, 48 + h % 100 / 10, 46, 48] 17 (h / 100)) := tl_zero h0 hz
        have R0 := rev_four w (48 + h % 10) (48 + h % 100 / 10) 46 48
        have hz' : (h / 100 == 0) = true := by rw [beq_iff_eq]; exact hz
      | have T0 : Hid (Tl h [48 + h % 10, 48 + h % 100 / 10, 46] 17 (h / 100)) := tl_some h0 h1 hz
        have R0 := rev_three w (48 + h % 10) (48 + h % 100 / 10) 46
        have hz' : (h / 100 == 0) = false := by rw [beq_eq_false_iff_ne]; exact hz
    have HR := R0
    clear hz R0
    go_enter Trym.func12, Trym.ntmps12
    go_wp2
    go_loopw [3, 6] (fun t3 t6 wr => ∃ (acc : List Int) (f : Nat) (W : Int) (q : Nat), 0 ≤ W ∧ W ≤ 92233720368547758 ∧ t3 = .int .i64 W ∧ t6 = .int .i64 q ∧ Hid (q = acc.length) ∧ Hid (Tl h acc f W) ∧ wr.rowIs w.heap.size 34 24 (fun i => .int .u8 (acc.getD i 0)) ∧ Below w.heap.size w wr)
      (fun t3 _ _ => (intOf t3).toNat)
    case atStart =>
      refine ⟨_, _, _, _, by omega, by omega, rfl, rfl, ?_, T0, HR, (Below.refl _ _).alloc (Nat.le_refl _) _⟩
      show _ = _
      rfl
    case round =>
      obtain ⟨acc, f, W, q, hW0, hW1, rfl, rfl, hq, T, hrow, hbel⟩ := hrel
      by_cases hpos : 0 < W
      · have hs := tl_step T.out hpos
        have hq24 : q < 24 := by have := hs.2; rw [hq.out]; omega
        have hcell : wr.cell? ⟨w.heap.size, q, none⟩ = some (.int .u8 (acc.getD q 0)) := hrow.cell hq24
        have hfr := hrow.frozen q
        have T' : Hid (Tl h (acc ++ [48 + W % 10]) (f - 1) (W / 10)) := hs.1
        clear hs
        go_wp2
        go_roundw
        case rel => exact ⟨acc ++ [48 + W % 10], f - 1, W / 10, q + 1, by omega, by omega, rfl, by go_num, by show _ = _; simp [hq.out], T', rev_snoc hq.out hrow, hbel.setCell (Nat.le_refl _) _⟩
        case measure => simp [intOf]; omega
      · have HE : Hid (acc = Sh.rtext h) := tl_end T.out hpos
        have HL : Hid (q = (Sh.text h).length) := by show _ = _; rw [hq.out, HE.out, Sh.text, List.length_reverse]
        have hq20 : q ≤ 20 := by have := (Sh.text_len h h0 h1).2; rw [HL.out]; exact this
        have hmk := run_make_row' (P := Trym.prog) 22 5 (.int .u8 0) 1 Trym.underlying22 Trym.info5 rfl .i64 .i64 q (by omega) (by omega)
        obtain ⟨w1, hw1⟩ : ∃ w1, w1 = wr := ⟨_, rfl⟩
        subst hw1
        have hlt : w.heap.size < w1.heap.size := hrow.lt
        go_wp2
        go_loopw [8] (fun t8 w2 => ∃ j : Nat, j ≤ q ∧ t8 = .int .i64 j ∧ w2.rowIs w.heap.size 34 24 (fun i => .int .u8 (acc.getD i 0)) ∧ w2.rowIs w1.heap.size 5 q (fun i => .int .u8 (oj acc q j i)) ∧ Below w.heap.size w w2)
          (fun t8 _ => q - (intOf t8).toNat)
        case atStart => exact ⟨0, by omega, rfl, hrow.alloc _, (World.rowIs_made w1 (.int .u8 0) q 5).congr (fun i _ => by simp [oj]), hbel.alloc (by omega) _⟩
        case round =>
          obtain ⟨j, hj, rfl, hrow2, hout, hbel2⟩ := hrel
          clear hrow hbel hmk
          by_cases hjq : j < q
          · obtain ⟨r, hr⟩ : ∃ r, q = r + 1 + j := ⟨q - 1 - j, by omega⟩
            have hrq : r = q - 1 - j := by omega
            have hcell : wr.cell? ⟨w.heap.size, r, none⟩ = some (.int .u8 (acc.getD (q - 1 - j) 0)) := by rw [hrq]; exact hrow2.cell (by omega)
            obtain ⟨d, hd⟩ : ∃ d, d = acc.getD (q - 1 - j) 0 := ⟨_, rfl⟩
            rw [← hd] at hcell
            have hco : wr.cell? ⟨w1.heap.size, j, none⟩ = some (.int .u8 (oj acc q j j)) := hout.cell hjq
            have hfo := hout.frozen j
            have hidx : ((q : Int) - 1 - (j : Int)) = (r : Int) := by omega
            have Hd : Hid (d = acc.getD (q - 1 - j) 0) := hd
            clear hr hrq hd
            go_wp2
            go_roundw
            case rel => exact ⟨j + 1, by omega, by go_num, hrow2.setOther (by simp; omega) _, by rw [Hd.out]; exact out_step hout, hbel2.setCell (by simp; omega) _⟩
            case measure => simp [intOf]; omega
          · have hjq' : j = q := by omega
            subst hjq'
            have hfin := out_end hq.out hout
            have HF : Hid (wr.rowIs w1.heap.size 5 j (fun i => .int .u8 ((Sh.text h).getD i 0))) := by
              rw [HE.out] at hfin
              exact hfin
            clear hfin hout hrow2
            go_wp2
            go_ret
            exact ⟨_, _, rfl, HL.out, by omega, HF.out, hbel2⟩
end Go.Proofs.Qxb6602867aMods
