import Derived.Test.Qxb6604119aModsSeats
namespace Go.Proofs.Qxb6604119aMods
open Go.RowKit Go.Deep
set_option linter.unusedVariables false

/-! ### The bound on the length -/
theorem bytes15 (a : Option Addr) (n c : Nat) (k : Int) (hn : n ≤ 9223372036854775807) (w : World) :
    Calls Trym.prog 15 #[.slice a n c, .int .i64 k] w fun e w' => e = .returned (.bool (decide (n ≤ 1048576))) ∧ w' = w := by
  by_cases h : n ≤ 1048576
  · go_enter Trym.func15, Trym.ntmps15
    go_wp2
    go_ret
    exact ⟨ret_bool (by simp [h]), rfl⟩
  · go_enter Trym.func15, Trym.ntmps15
    go_wp2
    go_ret
    exact ⟨ret_bool (by simp [h]), rfl⟩

theorem nth_big (a : Option Addr) (n c : Nat) (k : Int) (hn : n ≤ 9223372036854775807) (h : ¬ n ≤ 1048576) (w : World) :
    Calls Trym.prog 4 #[.slice a n c, .int .i64 k] w fun e w' => e = .returned (.bool true) ∧ Below w.heap.size w w' := by
  go_enter Trym.func4, Trym.ntmps4
  go_wp2_with fail
  refine (bytes15 a n c k hn w).mono ?_
  rintro e w' ⟨rfl, rfl⟩
  rw [decide_eq_false h]
  go_wp2
  go_ret
  exact ⟨rfl, Below.refl _ _⟩

set_option maxHeartbeats 1000000 in
theorem nth_top (a : Option Addr) (n c : Nat) (k : Int) (B : Nat → Bool) (hk0 : -9223372036854775808 ≤ k) (hk1 : k ≤ 9223372036854775807) (hn : n ≤ 1048576) (hc0 : a = none → c = 0) (w : World) (hv : Vi w a n B) :
    Calls Trym.prog 4 #[.slice a n c, .int .i64 k] w fun e w' => e = .returned (.bool true) ∧ Below w.heap.size w w' := by
  have HV : Hid (Vi w a n B) := hv
  have HC : Hid (a = none → c = 0) := hc0
  clear hv hc0
  go_enter Trym.func4, Trym.ntmps4
  go_wp2_with fail
  refine (bytes15 a n c k (by omega) w).mono ?_
  rintro e w' ⟨rfl, rfl⟩
  rw [decide_eq_true hn]
  go_wp2_with fail
  refine (clone_any a n c B hn HC.out w' HV.out).mono ?_
  rintro e w1 ⟨⟨a', rfl, hvr⟩, hbel⟩
  have HR : Hid (Vr w1 w'.heap.size a' n B) := hvr
  have HB : Hid (Below w'.heap.size w' w1) := hbel
  clear hvr hbel
  go_wp2_with fail
  refine (zzNth_any a' n n B k hk0 hk1 hn w1 HR.out.vo).mono ?_
  rintro e w2 ⟨⟨r, rfl, hr⟩, rfl⟩
  have HB2 : Hid (Below w'.heap.size w' (w1.alloc (.cells #[.slice a' n n] 55))) := HB.out.alloc HB.out.size _
  have HR2 : Hid (Vr (w1.alloc (.cells #[.slice a' n n] 55)) w'.heap.size a' n B) := HR.out.alloc _
  clear HB HR
  generalize w1.alloc (.cells #[.slice a' n n] 55) = w2 at *
  rcases HR2.out with ⟨rfl, rfl⟩ | ⟨b, rfl, hb, hrow⟩
  · have hr0 : r = 0 := by
      rcases hr with h | ⟨_, p, hp, _⟩
      · exact h.1
      · omega
    subst hr0
    clear hr HR2
    go_wp2
    go_loop [6, 7] (fun t i => i = .int .i64 0 ∧ t = .int .i64 0) (fun _ _ => 0)
    case atStart => exact ⟨rfl, rfl⟩
    case round =>
      obtain ⟨rfl, rfl⟩ := hrel
      by_cases hk : k < 0
      · go_wp2
        go_ret
        exact ⟨rfl, HB2.out⟩
      · go_wp2
        go_ret
        exact ⟨rfl, HB2.out⟩
  · have Hc : Hid (∀ i, i < n → w2.cell? ⟨b, i, none⟩ = some (.bool (B i))) := fun i hi => hrow.cell hi
    clear hrow HR2 hb
    have HO : Hid (NthOk B n k r) := hr
    clear hr
    go_wp2
    go_loop [6, 7] (fun t i => ∃ j : Nat, j ≤ n ∧ i = .int .i64 j ∧ t = .int .i64 (fr B j)) (fun _ i => n - (intOf i).toNat)
    case atStart => exact ⟨0, by omega, rfl, rfl⟩
    case round =>
      obtain ⟨j, hj, rfl, rfl⟩ := hrel
      have hf := fr_le B j
      by_cases hlt : j < n
      · have hck := Hc.out j hlt
        cases hB : B j
        · rw [hB] at hck
          have HF : Hid (fr B (j + 1) = fr B j + 1) := by simp [Hid, fr, hB]
          clear hB
          go_wp2
          go_round
          case rel => exact ⟨j + 1, by omega, by go_num, by rw [HF.out]; go_num⟩
          case measure => simp [intOf]; omega
        · rw [hB] at hck
          have HF : Hid (fr B (j + 1) = fr B j) := by simp [Hid, fr, hB]
          clear hB
          go_wp2
          go_round
          case rel => exact ⟨j + 1, by omega, by go_num, by rw [HF.out]⟩
          case measure => simp [intOf]; omega
      · have hjn : j = n := by omega
        subst hjn
        rcases HO.out with ⟨rfl, hk⟩ | ⟨hk, p, hp, hBp, hfp, rfl⟩
        · by_cases hk' : k < 0
          · go_wp2
            go_ret
            exact ⟨rfl, HB2.out⟩
          · have hk2 : (fr B j : Int) ≤ k := by omega
            clear hk
            go_wp2
            go_ret
            exact ⟨rfl, HB2.out⟩
        · have hsucc : fr B (p + 1) = fr B p + 1 := by simp [fr, hBp]
          have hmono := fr_mono B (p + 1) j (by omega)
          have hk2 : k < (fr B j : Int) := by omega
          have hck := Hc.out p hp
          rw [hBp] at hck
          have HP : Hid ((fr B p : Int) = k) := hfp
          clear hsucc hmono hBp hfp HO
          go_wp2
          go_loop [8, 9] (fun t i => ∃ q : Nat, q ≤ p ∧ i = .int .i64 q ∧ t = .int .i64 (fr B q)) (fun _ i => p - (intOf i).toNat)
          case atStart => exact ⟨0, by omega, rfl, rfl⟩
          case round =>
            obtain ⟨q, hq, rfl, rfl⟩ := hrel
            have hf2 := fr_le B q
            by_cases hqp : q < p
            · have hcq := Hc.out q (by omega)
              cases hB : B q
              · rw [hB] at hcq
                have HF : Hid (fr B (q + 1) = fr B q + 1) := by simp [Hid, fr, hB]
                clear hB
                go_wp2
                go_round
                case rel => exact ⟨q + 1, by omega, by go_num, by rw [HF.out]; go_num⟩
                case measure => simp [intOf]; omega
              · rw [hB] at hcq
                have HF : Hid (fr B (q + 1) = fr B q) := by simp [Hid, fr, hB]
                clear hB
                go_wp2
                go_round
                case rel => exact ⟨q + 1, by omega, by go_num, by rw [HF.out]⟩
                case measure => simp [intOf]; omega
            · have hqp' : q = p := by omega
              subst hqp'
              go_wp2
              go_ret
              exact ⟨ret_bool (by simp [HP.out]), HB2.out⟩
end Go.Proofs.Qxb6604119aMods
