import Derived.Test.Qxb6602867aModsRows
import Derived.Test.Qxb6602867aModsPlain
import Derived.WalkKit
import Derived.Deep.QuietTactic
import Derived.BigQuiet
namespace Go.Proofs.Qxb6602867aMods
open Go.RowKit
set_option linter.unusedVariables false

theorem ret_bool {a b : Bool} (h : a = b) : Ending.returned (.bool a) = .returned (.bool b) := by rw [h]
theorem ret_two {k : IntKind} {a b : Int} {p q : Bool} (h : a = b) (h' : p = q) : Ending.returned (.tuple #[.int k a, .bool p]) = .returned (.tuple #[.int k b, .bool q]) := by rw [h, h']


/-! ### What the ways of the walk come to, outside it -/
theorem getD_lt (zs : List Int) (k : Nat) (h : k < zs.length) : zs.getD k 0 = zs[k] := by simp [List.getD, h]
theorem psOk_digit {zs : List Int} {m k : Nat} (hn : zs.length = m + 3) (hk : k < m) (h : zs.getD k 0 < 48 ∨ 57 < zs.getD k 0) : Sh.psOk zs = false := by
  have : Sh.allD (zs.take (zs.length - 3)) = false := by
    rw [hn, show m + 3 - 3 = m by omega, Sh.allD, List.all_eq_false]
    refine ⟨zs.getD k 0, ?_, by rw [Sh.digB_iff]; omega⟩
    rw [getD_lt _ _ (by omega), List.mem_take_iff_getElem]
    exact ⟨k, by omega, rfl⟩
  simp [Sh.psOk, this]
theorem psOk_tenth {zs : List Int} {m : Nat} (hn : zs.length = m + 3) (h : zs.getD (m + 1) 0 < 48 ∨ 57 < zs.getD (m + 1) 0) : Sh.psOk zs = false := by
  have : Sh.digB (zs.getD (zs.length - 2) 0) = false := by
    rw [hn, show m + 3 - 2 = m + 1 by omega, ← Bool.not_eq_true, Sh.digB_iff]; omega
  unfold Sh.psOk
  rw [this]; simp
theorem psOk_last {zs : List Int} {m : Nat} (hn : zs.length = m + 3) (h : zs.getD (m + 2) 0 < 48 ∨ 57 < zs.getD (m + 2) 0) : Sh.psOk zs = false := by
  have : Sh.digB (zs.getD (zs.length - 1) 0) = false := by
    rw [hn, show m + 3 - 1 = m + 2 by omega, ← Bool.not_eq_true, Sh.digB_iff]; omega
  unfold Sh.psOk
  rw [this]; simp
theorem psOk_dot {zs : List Int} {m : Nat} (hn : zs.length = m + 3) (h : zs.getD m 0 ≠ 46) : Sh.psOk zs = false := by
  have : (zs.getD (zs.length - 3) 0 == 46) = false := by
    rw [hn, show m + 3 - 3 = m by omega, beq_eq_false_iff_ne]; exact h
  unfold Sh.psOk Sh.psHead
  rw [this]; simp
theorem psOk_zero {zs : List Int} {m : Nat} (hn : zs.length = m + 3) (h : zs.getD 0 0 = 48) (hm : m ≠ 1) : Sh.psOk zs = false := by
  have e1 : (zs.getD 0 0 == 48) = true := by rw [beq_iff_eq]; exact h
  have e2 : (zs.length != 4) = true := by rw [hn, bne_iff_ne]; omega
  unfold Sh.psOk Sh.psHead
  rw [e1, e2]; simp
theorem psOk_len {zs : List Int} (h : zs.length < 4 ∨ 19 < zs.length) : Sh.psOk zs = false := by
  unfold Sh.psOk Sh.psHead
  rcases h with h | h
  · rw [decide_eq_false (show ¬ 4 ≤ zs.length by omega)]; simp
  · rw [decide_eq_false (show ¬ zs.length ≤ 19 by omega)]; simp
theorem psOk_yes {zs : List Int} {m : Nat} (hn : zs.length = m + 3) (h1 : 1 ≤ m) (h16 : m ≤ 16) (hd : zs.getD m 0 = 46) (hz : zs.getD 0 0 = 48 → m = 1)
    (ha : Sh.allD (zs.take m) = true) (ht : 48 ≤ zs.getD (m + 1) 0 ∧ zs.getD (m + 1) 0 ≤ 57) (hl : 48 ≤ zs.getD (m + 2) 0 ∧ zs.getD (m + 2) 0 ≤ 57) :
    Sh.psOk zs = true := by
  unfold Sh.psOk Sh.psHead
  rw [hn, show m + 3 - 3 = m by omega, show m + 3 - 2 = m + 1 by omega, show m + 3 - 1 = m + 2 by omega]
  rw [hd, ha, (Sh.digB_iff _).2 ht, (Sh.digB_iff _).2 hl]
  simp only [Bool.and_true, Bool.and_eq_true, decide_eq_true_eq, beq_self_eq_true, Bool.not_eq_true', Bool.and_eq_false_iff, beq_eq_false_iff_ne, bne_eq_false_iff_eq]
  refine ⟨by omega, ?_⟩
  by_cases h : zs.getD 0 0 = 48
  · exact .inr (by have := hz h; omega)
  · exact .inl h
theorem psV_yes {zs : List Int} {m : Nat} (hn : zs.length = m + 3) (h : Sh.psOk zs = true) :
    Sh.psV zs = Sh.val (zs.take m) * 100 + (zs.getD (m + 1) 0 - 48) * 10 + (zs.getD (m + 2) 0 - 48) := by
  unfold Sh.psV
  rw [if_pos h, hn, show m + 3 - 3 = m by omega, show m + 3 - 2 = m + 1 by omega, show m + 3 - 1 = m + 2 by omega]
theorem psB_yes {zs : List Int} (h : Sh.psOk zs = true) : Sh.psB zs = decide (0 < Sh.psV zs) := by simp [Sh.psB, h]
theorem take_snoc (zs : List Int) (k : Nat) (h : k < zs.length) : zs.take (k + 1) = zs.take k ++ [zs.getD k 0] := by
  rw [List.take_succ_eq_append_getElem h, getD_lt _ _ h]
theorem val_bd15 {zs : List Int} {k : Nat} (hk : k ≤ 15) (h : Sh.allD (zs.take k) = true) : 0 ≤ Sh.val (zs.take k) ∧ Sh.val (zs.take k) ≤ 1000000000000000 := by
  have := Sh.val_bd_of (zs.take k) h 15 (by rw [List.length_take]; omega)
  omega
theorem val_bd16 {zs : List Int} {k : Nat} (hk : k ≤ 16) (h : Sh.allD (zs.take k) = true) : 0 ≤ Sh.val (zs.take k) ∧ Sh.val (zs.take k) ≤ 10000000000000000 := by
  have := Sh.val_bd_of (zs.take k) h 16 (by rw [List.length_take]; omega)
  omega

/-- Too short or too long: whatever the slice. -/
theorem ps_len (a : Option Addr) (n c : Nat) (h : n < 4 ∨ (19 < n ∧ n ≤ 9223372036854775807)) (w : World) :
    Calls Trym.prog 19 #[.slice a n c] w fun e w' => e = .returned (.tuple #[.int .i64 0, .bool false]) ∧ w' = w := by
  rcases h with h | h
  · have h4 : (n : Int) < 4 := by omega
    go_enter Trym.func19, Trym.ntmps19
    go_wp2
    go_ret2
    exact ⟨rfl, rfl⟩
  · have h4 : ¬ (n : Int) < 4 := by omega
    have h5 : (19 : Int) < n := by omega
    go_enter Trym.func19, Trym.ntmps19
    go_wp2
    go_ret2
    exact ⟨rfl, rfl⟩


set_option maxHeartbeats 400000 in
/-- No dot at its place. -/
theorem ps_dot (b m c : Nat) (g : Nat → Int) (h1 : 1 ≤ m) (h16 : m ≤ 16) (w : World)
    (hc : ∀ i, i < m + 3 → w.cell? ⟨b, i, none⟩ = some (.int .u8 (g i))) (hd : g m ≠ 46) :
    Calls Trym.prog 19 #[.slice (some ⟨b, 0, none⟩) (m + 3) c] w fun e w' => e = .returned (.tuple #[.int .i64 0, .bool false]) ∧ w' = w := by
  have hcm := hc m (by omega)
  go_enter Trym.func19, Trym.ntmps19
  go_wp2
  go_ret2
  exact ⟨rfl, rfl⟩

set_option maxHeartbeats 400000 in
/-- A zero ahead that is not wanted. -/
theorem ps_zero (b m c : Nat) (g : Nat → Int) (h1 : 1 < m) (h16 : m ≤ 16) (w : World)
    (hc : ∀ i, i < m + 3 → w.cell? ⟨b, i, none⟩ = some (.int .u8 (g i))) (hd : g m = 46) (hz : g 0 = 48) :
    Calls Trym.prog 19 #[.slice (some ⟨b, 0, none⟩) (m + 3) c] w fun e w' => e = .returned (.tuple #[.int .i64 0, .bool false]) ∧ w' = w := by
  have hcm := hc m (by omega)
  have hc0 := hc 0 (by omega)
  rw [hd] at hcm
  rw [hz] at hc0
  clear hd hz hc
  have e3 : ((m : Int) + 3 != 4) = true := by rw [bne_iff_ne]; omega
  go_enter Trym.func19, Trym.ntmps19
  go_wp2
  go_ret2
  exact ⟨rfl, rfl⟩



set_option maxHeartbeats 2000000 in
/-- The loop, and what stands behind it. -/
theorem ps_loop (b m c : Nat) (zs : List Int) (g : Nat → Int) (HG : Hid (∀ i, g i = zs.getD i 0)) (HN : Hid (zs.length = m + 3)) (h1 : 1 ≤ m) (h16 : m ≤ 16) (hcap : m + 3 ≤ c) (w : World) (hg : ∀ i, 0 ≤ g i ∧ g i ≤ 255)
    (hc : ∀ i, i < m + 3 → w.cell? ⟨b, i, none⟩ = some (.int .u8 (g i))) (hd : g m = 46) (hz : g 0 = 48 → m = 1) :
    Calls Trym.prog 19 #[.slice (some ⟨b, 0, none⟩) (m + 3) c] w fun e w' => e = .returned (.tuple #[.int .i64 (Sh.psV zs), .bool (Sh.psB zs)]) ∧ ∃ nq, w' = w.drewN nq := by
  have hcm := hc m (by omega)
  have hc0 := hc 0 (by omega)
  have hc1 := hc (m + 1) (by omega)
  have hc2 := hc (m + 2) (by omega)
  have hgt := hg (m + 1)
  have hgl := hg (m + 2)
  rw [hd] at hcm
  have Hc : Hid (∀ i, i < m + 3 → w.cell? ⟨b, i, none⟩ = some (.int .u8 (g i))) := hc
  have HD : Hid (zs.getD m 0 = 46) := by rw [← HG.out]; exact hd
  have HZ : Hid (zs.getD 0 0 = 48 → m = 1) := by rw [← HG.out]; exact hz
  clear hc
  have e1 : decide ((m : Int) + 3 < 4) = false := decide_eq_false (by omega)
  have e2 : decide ((19 : Int) < (m : Int) + 3) = false := decide_eq_false (by omega)
  obtain ⟨d0, D0⟩ : ∃ d0, Hid (d0 = g 0) := ⟨_, rfl⟩
  rw [← D0.out] at hc0
  have hd0 : (¬ d0 = 48) ∨ ((d0 = 48) ∧ ((m : Int) + 3 != 4) = false) := by
    by_cases h : d0 = 48
    · right
      have := hz (by rw [← D0.out]; exact h)
      exact ⟨h, by rw [bne_eq_false_iff_eq]; omega⟩
    · exact .inl h
  clear hd hz D0
  rcases hd0 with h0 | ⟨h0, h0'⟩
  case' inr => subst h0
  all_goals
    go_enter Trym.func19, Trym.ntmps19
    go_wp2
    go_loop [2, 40] (fun t i => ∃ k : Nat, k ≤ m ∧ i = .int .i64 k ∧ t = .int .i64 (Sh.val (zs.take k)) ∧ Sh.allD (zs.take k) = true) (fun _ i => m - (intOf i).toNat)
    case atStart => exact ⟨0, by omega, rfl, rfl, rfl⟩
    case round =>
      obtain ⟨k, hk, rfl, rfl, had⟩ := hrel
      have HA : Hid (Sh.allD (zs.take k) = true) := had
      clear had
      by_cases hlt : k < m
      · have hck := Hc.out k (by omega)
        have hgk := hg k
        have hv := val_bd15 (by omega) HA.out
        by_cases ha : g k < 48
        · have HF : Hid (Sh.psOk zs = false) := psOk_digit HN.out hlt (by rw [← HG.out]; omega)
          go_wp2
          go_ret2
          exact ⟨ret_two (Sh.psV_no HF.out).symm (Sh.psB_no HF.out).symm, 0, rfl⟩
        by_cases hb : 57 < g k
        · have HF : Hid (Sh.psOk zs = false) := psOk_digit HN.out hlt (by rw [← HG.out]; omega)
          go_wp2
          go_ret2
          exact ⟨ret_two (Sh.psV_no HF.out).symm (Sh.psB_no HF.out).symm, 0, rfl⟩
        · have HT : Hid (zs.take (k + 1) = zs.take k ++ [g k]) := by rw [HG.out]; exact take_snoc zs k (by rw [HN.out]; omega)
          go_wp2
          go_round
          case rel => exact ⟨k + 1, by omega, by go_num, by rw [HT.out, Sh.val_snoc], by rw [HT.out, Sh.allD_snoc, HA.out, (Sh.digB_iff _).2 (by omega)]; rfl⟩
          case measure => simp [intOf]; omega
      · have hkm : k = m := by omega
        subst hkm
        have hv := val_bd16 h16 HA.out
        go_wp2
        go_quiet (fail)
        by_cases ht1 : g (k + 1) < 48
        · have HF : Hid (Sh.psOk zs = false) := psOk_tenth HN.out (by rw [← HG.out]; omega)
          go_wp2
          go_ret2
          exact ⟨ret_two (Sh.psV_no HF.out).symm (Sh.psB_no HF.out).symm, _, rfl⟩
        by_cases ht2 : 57 < g (k + 1)
        · have HF : Hid (Sh.psOk zs = false) := psOk_tenth HN.out (by rw [← HG.out]; omega)
          go_wp2
          go_ret2
          exact ⟨ret_two (Sh.psV_no HF.out).symm (Sh.psB_no HF.out).symm, _, rfl⟩
        by_cases hl1 : g (k + 2) < 48
        · have HF : Hid (Sh.psOk zs = false) := psOk_last HN.out (by rw [← HG.out]; omega)
          go_wp2
          go_ret2
          exact ⟨ret_two (Sh.psV_no HF.out).symm (Sh.psB_no HF.out).symm, _, rfl⟩
        by_cases hl2 : 57 < g (k + 2)
        · have HF : Hid (Sh.psOk zs = false) := psOk_last HN.out (by rw [← HG.out]; omega)
          go_wp2
          go_ret2
          exact ⟨ret_two (Sh.psV_no HF.out).symm (Sh.psB_no HF.out).symm, _, rfl⟩
        have HY : Hid (Sh.psOk zs = true) := psOk_yes HN.out h1 h16 HD.out HZ.out HA.out (by rw [← HG.out]; omega) (by rw [← HG.out]; omega)
        have HV : Hid (Sh.psV zs = Sh.val (zs.take k) * 100 + (g (k + 1) - 48) % 256 * 10 + (g (k + 2) - 48) % 256) := by
          have := psV_yes HN.out HY.out
          rw [← HG.out, ← HG.out] at this
          show _ = _
          omega
        go_wp2
        go_ret2
        exact ⟨ret_two HV.out.symm (by rw [psB_yes HY.out, HV.out]), _, rfl⟩
end Go.Proofs.Qxb6602867aMods
