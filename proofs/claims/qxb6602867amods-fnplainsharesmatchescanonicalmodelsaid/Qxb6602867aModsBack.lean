import Derived.Test.Qxb6602867aModsPs
import Derived.Test.Qxb6602867aModsRend
namespace Go.Proofs.Qxb6602867aMods
open Go.RowKit Go.Deep
set_option linter.unusedVariables false

/-- plainShares on a row of bytes. -/
theorem plain_row (b n c : Nat) (zs : List Int) (hn : zs.length = n) (hz : ∀ i, 0 ≤ zs.getD i 0 ∧ zs.getD i 0 ≤ 255) (hn2 : n ≤ 1048576) (hcap : n ≤ c) (w : World)
    (hr : w.rowIs b 5 n (fun i => .int .u8 (zs.getD i 0))) :
    Calls Trym.prog 19 #[.slice (some ⟨b, 0, none⟩) n c] w fun e w' => e = .returned (.tuple #[.int .i64 (Sh.psV zs), .bool (Sh.psB zs)]) ∧ ∃ nq, w' = w.drewN nq := by
  by_cases hlen : n < 4 ∨ 19 < n
  · have hno := psOk_len (zs := zs) (by rw [hn]; exact hlen)
    refine (ps_len (some ⟨b, 0, none⟩) n c (by omega) w).mono ?_
    rintro e w' ⟨rfl, rfl⟩
    exact ⟨ret_two (Sh.psV_no hno).symm (Sh.psB_no hno).symm, 0, rfl⟩
  obtain ⟨m, rfl⟩ : ∃ m, n = m + 3 := ⟨n - 3, by omega⟩
  have hc : ∀ i, i < m + 3 → w.cell? ⟨b, i, none⟩ = some (.int .u8 (zs.getD i 0)) := fun i hi => hr.cell hi
  by_cases hd : zs.getD m 0 = 46
  · by_cases h0 : zs.getD 0 0 = 48 ∧ m ≠ 1
    · have hno := psOk_zero hn h0.1 h0.2
      refine (ps_zero b m c (fun i => zs.getD i 0) (by omega) (by omega) w hc hd h0.1).mono ?_
      rintro e w' ⟨rfl, rfl⟩
      exact ⟨ret_two (Sh.psV_no hno).symm (Sh.psB_no hno).symm, 0, rfl⟩
    · exact ps_loop b m c zs (fun i => zs.getD i 0) (fun i => rfl) hn (by omega) (by omega) (by omega) w hz hc hd (fun h => by
        apply Decidable.byContradiction
        intro hm
        exact h0 ⟨h, hm⟩)
  · have hno := psOk_dot hn hd
    refine (ps_dot b m c (fun i => zs.getD i 0) (by omega) (by omega) w hc hd).mono ?_
    rintro e w' ⟨rfl, rfl⟩
    exact ⟨ret_two (Sh.psV_no hno).symm (Sh.psB_no hno).symm, 0, rfl⟩

theorem zzPlain_row (b n c : Nat) (zs : List Int) (hn : zs.length = n) (hz : ∀ i, 0 ≤ zs.getD i 0 ∧ zs.getD i 0 ≤ 255) (hn2 : n ≤ 1048576) (hcap : n ≤ c) (w : World)
    (hr : w.rowIs b 5 n (fun i => .int .u8 (zs.getD i 0))) :
    Calls Trym.prog 10 #[.slice (some ⟨b, 0, none⟩) n c] w fun e w' => e = .returned (.tuple #[.int .i64 (Sh.psV zs), .bool (Sh.psB zs)]) ∧ ∃ nq, w' = w.drewN nq := by
  have HR : Hid (w.rowIs b 5 n (fun i => .int .u8 (zs.getD i 0))) := hr
  have HN : Hid (zs.length = n) := hn
  have HZ : Hid (∀ i, 0 ≤ zs.getD i 0 ∧ zs.getD i 0 ≤ 255) := hz
  clear hr hn hz
  go_enter Trym.func10, Trym.ntmps10
  go_wp2_with fail
  refine (plain_row b n c zs HN.out HZ.out hn2 hcap w HR.out).mono ?_
  rintro e w' ⟨rfl, nq, rfl⟩
  go_wp2
  go_ret2
  exact ⟨rfl, nq, rfl⟩

theorem below_drewN {B : Nat} {a w : World} (h : Below B a w) (n : Nat) : Below B a (w.drewN n) := h.trans ⟨rfl, rfl, rfl, Nat.le_refl _, fun _ _ => rfl⟩

theorem text_bytes (h : Int) (h0 : 0 ≤ h) (h1 : h ≤ 9223372036854775807) (i : Nat) : 0 ≤ (Sh.text h).getD i 0 ∧ (Sh.text h).getD i 0 ≤ 255 := by
  have hall : ∀ d ∈ Sh.text h, 0 ≤ d ∧ d ≤ 255 := by
    have hw := (Sh.whole_ok (h / 100) (by omega) (by omega)).2.1
    rw [Sh.text_form]
    intro d hd
    rw [List.mem_append] at hd
    rcases hd with hd | hd
    · unfold Sh.allD at hw
      rw [List.all_eq_true] at hw
      have := (Sh.digB_iff d).1 (hw d hd)
      omega
    · simp at hd
      omega
  by_cases hi : i < (Sh.text h).length
  · rw [getD_lt _ _ hi]
    exact hall _ (List.getElem_mem hi)
  · simp [List.getD, hi]

set_option maxHeartbeats 400000 in
theorem back_any (h : Int) (h1 : h ≤ 9223372036854775807) (w : World) :
    Calls Trym.prog 4 #[.int .i64 h] w fun e w' => e = .returned (.bool true) ∧ Below w.heap.size w w' := by
  by_cases h0 : h ≤ 0
  · go_enter Trym.func4, Trym.ntmps4
    go_wp2
    go_ret
    exact ⟨rfl, Below.refl _ _⟩
  by_cases hlim : h < 1000000000000000000
  · have HB : Hid (Sh.psB (Sh.text h) = true) := (Sh.reads_back h (by omega) hlim).1
    have HV : Hid (Sh.psV (Sh.text h) = h) := (Sh.reads_back h (by omega) hlim).2
    go_enter Trym.func4, Trym.ntmps4
    go_wp2_with fail
    refine (rend_any h (by omega) h1 w).mono ?_
    rintro e w1 ⟨b, n, rfl, hn, hb, hrow, hbel⟩
    have HN : Hid (n = (Sh.text h).length) := hn
    have HR : Hid (w1.rowIs b 5 n (fun i => .int .u8 ((Sh.text h).getD i 0))) := hrow
    have HL : Hid (Below w.heap.size w w1) := hbel
    clear hn hrow hbel
    go_wp2_with fail
    refine (zzPlain_row b n n (Sh.text h) HN.out.symm (text_bytes h (by omega) h1) (by have := (Sh.text_len h (by omega) h1).2; have := HN.out; omega) (Nat.le_refl _) w1 HR.out).mono ?_
    rintro e w2 ⟨rfl, nq, rfl⟩
    rw [HB.out, HV.out]
    go_wp2
    go_ret
    exact ⟨ret_bool (by simp), below_drewN HL.out _⟩
  · have HB : Hid (Sh.psB (Sh.text h) = false) := (Sh.reads_not h (by omega) h1).1
    have HV : Hid (Sh.psV (Sh.text h) = 0) := (Sh.reads_not h (by omega) h1).2
    go_enter Trym.func4, Trym.ntmps4
    go_wp2_with fail
    refine (rend_any h (by omega) h1 w).mono ?_
    rintro e w1 ⟨b, n, rfl, hn, hb, hrow, hbel⟩
    have HN : Hid (n = (Sh.text h).length) := hn
    have HR : Hid (w1.rowIs b 5 n (fun i => .int .u8 ((Sh.text h).getD i 0))) := hrow
    have HL : Hid (Below w.heap.size w w1) := hbel
    clear hn hrow hbel
    go_wp2_with fail
    refine (zzPlain_row b n n (Sh.text h) HN.out.symm (text_bytes h (by omega) h1) (by have := (Sh.text_len h (by omega) h1).2; have := HN.out; omega) (Nat.le_refl _) w1 HR.out).mono ?_
    rintro e w2 ⟨rfl, nq, rfl⟩
    rw [HB.out, HV.out]
    go_wp2
    go_ret
    exact ⟨ret_bool (by simp), below_drewN HL.out _⟩
end Go.Proofs.Qxb6602867aMods
