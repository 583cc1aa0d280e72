import Derived.Test.Qxb6604119aModsSeats
import Derived.RegionTactic
import Derived.Deep.RegionWith
import Derived.Deep.DeepCutAuto
namespace Go.Proofs.Qxb6604119aMods
open Go.RowKit Go.Deep
set_option linter.unusedVariables false

theorem bytes18 (a : Option Addr) (n c : Nat) (k : Int) (hn : n ≤ 9223372036854775807) (w : World) :
    Calls Trym.prog 18 #[.slice a n c, .int .i64 k] w fun e w' => e = .returned (.bool (decide (n ≤ 1048576))) ∧ w' = w := by
  by_cases h : n ≤ 1048576
  · go_enter Trym.func18, Trym.ntmps18
    go_wp2
    go_ret
    exact ⟨ret_bool (by simp [h]), rfl⟩
  · go_enter Trym.func18, Trym.ntmps18
    go_wp2
    go_ret
    exact ⟨ret_bool (by simp [h]), rfl⟩
theorem bytes20 (a : Option Addr) (n c : Nat) (k : Int) (hn : n ≤ 9223372036854775807) (w : World) :
    Calls Trym.prog 20 #[.slice a n c, .int .i64 k] w fun e w' => e = .returned (.bool (decide (n ≤ 1048576))) ∧ w' = w := by
  by_cases h : n ≤ 1048576
  · go_enter Trym.func20, Trym.ntmps20
    go_wp2
    go_ret
    exact ⟨ret_bool (by simp [h]), rfl⟩
  · go_enter Trym.func20, Trym.ntmps20
    go_wp2
    go_ret
    exact ⟨ret_bool (by simp [h]), rfl⟩

/-! ### free counts what nth names -/
theorem counts_big (a : Option Addr) (n c : Nat) (k : Int) (hn : n ≤ 9223372036854775807) (h : ¬ n ≤ 1048576) (w : World) :
    Calls Trym.prog 5 #[.slice a n c, .int .i64 k] w fun e w' => e = .returned (.bool true) ∧ Below w.heap.size w w' := by
  go_enter Trym.func5, Trym.ntmps5
  go_wp2_with fail
  refine (bytes18 a n c k hn w).mono ?_
  rintro e w' ⟨rfl, rfl⟩
  rw [decide_eq_false h]
  go_wp2
  go_ret
  exact ⟨rfl, Below.refl _ _⟩

set_option maxHeartbeats 400000 in
theorem counts_top (a : Option Addr) (n c : Nat) (k : Int) (B : Nat → Bool) (hk0 : -9223372036854775808 ≤ k) (hk1 : k ≤ 9223372036854775807) (hn : n ≤ 1048576) (hc0 : a = none → c = 0) (w : World) (hv : Vi w a n B) :
    Calls Trym.prog 5 #[.slice a n c, .int .i64 k] w fun e w' => e = .returned (.bool true) ∧ Below w.heap.size w w' := by
  have HV : Hid (Vi w a n B) := hv
  have HC : Hid (a = none → c = 0) := hc0
  have hfr := fr_le B n
  clear hv hc0
  go_enter Trym.func5, Trym.ntmps5
  go_wp2_with fail
  refine (bytes18 a n c k (by omega) w).mono ?_
  rintro e w' ⟨rfl, rfl⟩
  rw [decide_eq_true hn]
  go_wp2_with fail
  refine (clone_any a n c B hn HC.out w' HV.out).mono ?_
  rintro e w1 ⟨⟨a', rfl, hvr⟩, hbel⟩
  have HR : Hid (Vr w1 w'.heap.size a' n B) := hvr
  have HB : Hid (Below w'.heap.size w' w1) := hbel
  clear hvr hbel
  go_wp2_with fail
  refine (zzFree_any a' n n B hn w1 HR.out.vo).mono ?_
  rintro e w2 ⟨rfl, rfl⟩
  have HB2 : Hid (Below w'.heap.size w' (w1.alloc (.cells #[.slice a' n n] 55))) := HB.out.alloc HB.out.size _
  have HR2 : Hid (Vr (w1.alloc (.cells #[.slice a' n n] 55)) w'.heap.size a' n B) := HR.out.alloc _
  clear HB HR
  generalize w1.alloc (.cells #[.slice a' n n] 55) = w2 at *
  go_wp2_with fail
  refine (zzNth_any a' n n B k hk0 hk1 hn w2 HR2.out.vo).mono ?_
  rintro e w3 ⟨⟨r, rfl, hr⟩, rfl⟩
  have HB3 : Hid (Below w'.heap.size w' (w2.alloc (.cells #[.slice a' n n] 55))) := HB2.out.alloc HB2.out.size _
  rcases hr with ⟨rfl, hk⟩ | ⟨hk, p, hp, hBp, hfp, rfl⟩
  · by_cases hk' : k < 0
    · clear hk
      go_wp2
      go_ret
      exact ⟨ret_bool (by first | (simp; done) | (simp; omega)), HB3.out⟩
    · have hk2 : (fr B n : Int) ≤ k := by omega
      clear hk
      go_wp2
      go_ret
      exact ⟨ret_bool (by first | (simp; done) | (simp; omega)), HB3.out⟩
  · have hsucc : fr B (p + 1) = fr B p + 1 := by simp [fr, hBp]
    have hmono := fr_mono B (p + 1) n (by omega)
    have hk2 : k < (fr B n : Int) := by omega
    clear hsucc hmono hBp hfp
    go_wp2
    go_ret
    exact ⟨ret_bool (by simp; omega), HB3.out⟩

/-! ### free is additive -/
theorem additive_big (a : Option Addr) (n c : Nat) (k : Int) (hn : n ≤ 9223372036854775807) (h : ¬ n ≤ 1048576) (w : World) :
    Calls Trym.prog 6 #[.slice a n c, .int .i64 k] w fun e w' => e = .returned (.bool true) ∧ Below w.heap.size w w' := by
  go_enter Trym.func6, Trym.ntmps6
  go_wp2_with fail
  refine (bytes20 a n c k hn w).mono ?_
  rintro e w' ⟨rfl, rfl⟩
  rw [decide_eq_false h]
  go_wp2
  go_ret
  exact ⟨rfl, Below.refl _ _⟩
theorem additive_out (a : Option Addr) (n c : Nat) (k : Int) (hn : n ≤ 1048576) (h : k < 0 ∨ (n : Int) < k) (w : World) :
    Calls Trym.prog 6 #[.slice a n c, .int .i64 k] w fun e w' => e = .returned (.bool true) ∧ Below w.heap.size w w' := by
  rcases h with h | h
  · go_enter Trym.func6, Trym.ntmps6
    go_wp2_with fail
    refine (bytes20 a n c k (by omega) w).mono ?_
    rintro e w' ⟨rfl, rfl⟩
    rw [decide_eq_true hn]
    go_wp2
    go_ret
    exact ⟨rfl, Below.refl _ _⟩
  · have h' : ¬ k < 0 := by omega
    go_enter Trym.func6, Trym.ntmps6
    go_wp2_with fail
    refine (bytes20 a n c k (by omega) w).mono ?_
    rintro e w' ⟨rfl, rfl⟩
    rw [decide_eq_true hn]
    go_wp2
    go_ret
    exact ⟨rfl, Below.refl _ _⟩

theorem fr_split (B : Nat → Bool) (k m : Nat) : fr B (k + m) = fr B k + fr (fun i => B (k + i)) m := by
  induction m with
  | zero => rfl
  | succ m ih => rw [← Nat.add_assoc]; simp only [fr, ih]; omega
theorem fr_flip (B : Nat → Bool) (n : Nat) : fr B n + fr (fun i => !B i) n = n := by
  induction n with
  | zero => rfl
  | succ n ih =>
    simp only [fr]
    by_cases h : B n = true
    · simp [h]; omega
    · simp [h]; omega

theorem vo_pre {w : World} {b n k : Nat} {B : Nat → Bool} (hr : w.rowIs b 4 n (fun i => .bool (B i))) (hk : k ≤ n) : Vo w (some ⟨b, 0, none⟩) k B :=
  .inr ⟨b, 0, rfl, hr.lt, fun i hi => by rw [Nat.zero_add]; exact hr.cell (by omega)⟩
theorem vo_suf {w : World} {b n k : Nat} {B : Nat → Bool} (hr : w.rowIs b 4 n (fun i => .bool (B i))) (hk : k ≤ n) : Vo w (some ⟨b, k, none⟩) (n - k) (fun i => B (k + i)) :=
  .inr ⟨b, k, rfl, hr.lt, fun i hi => hr.cell (by omega)⟩

theorem wrap_id (x : Int) (h : -9223372036854775808 ≤ x ∧ x ≤ 9223372036854775807) : IntKind.i64.wrap x = x := Go.IntWalk.i64_in x h
theorem flip_step {w : World} {b n j : Nat} {B : Nat → Bool} (hr : w.rowIs b 4 n (fun i => .bool (if i < j then !B i else false))) :
    (w.setCell ⟨b, j, none⟩ (.bool (!B j))).rowIs b 4 n (fun i => .bool (if i < j + 1 then !B i else false)) :=
  clone_step (B := fun i => !B i) hr

set_option maxHeartbeats 1000000 in
theorem additive_top (a : Option Addr) (n c k : Nat) (B : Nat → Bool) (hk : k ≤ n) (hn : n ≤ 1048576) (hc0 : a = none → c = 0) (w : World) (hv : Vi w a n B) :
    Calls Trym.prog 6 #[.slice a n c, .int .i64 k] w fun e w' => e = .returned (.bool true) ∧ Below w.heap.size w w' := by
  have HV : Hid (Vi w a n B) := hv
  have HC : Hid (a = none → c = 0) := hc0
  have hfr := fr_le B n
  have HS : Hid (fr B n = fr B k + fr (fun i => B (k + i)) (n - k)) := by
    have := fr_split B k (n - k)
    rwa [show k + (n - k) = n by omega] at this
  have HF : Hid (fr B n + fr (fun i => !B i) n = n) := fr_flip B n
  clear hv hc0
  go_enter Trym.func6, Trym.ntmps6
  go_wp2_with fail
  refine (bytes20 a n c k (by omega) w).mono ?_
  rintro e w' ⟨rfl, rfl⟩
  rw [decide_eq_true hn]
  go_wp2_with fail
  refine (clone_any a n c B hn HC.out w' HV.out).mono ?_
  rintro e w1 ⟨⟨a', rfl, hvr⟩, hbel⟩
  have HR : Hid (Vr w1 w'.heap.size a' n B) := hvr
  have HB : Hid (Below w'.heap.size w' w1) := hbel
  clear hvr hbel
  go_wp2_with fail
  refine (zzFree_any a' n n B hn w1 HR.out.vo).mono ?_
  rintro e w2 ⟨rfl, rfl⟩
  have HB2 : Hid (Below w'.heap.size w' (w1.alloc (.cells #[.slice a' n n] 55))) := HB.out.alloc HB.out.size _
  have HR2 : Hid (Vr (w1.alloc (.cells #[.slice a' n n] 55)) w'.heap.size a' n B) := HR.out.alloc _
  clear HB HR
  generalize w1.alloc (.cells #[.slice a' n n] 55) = w2 at *
  by_cases hn0 : n = 0
  · subst hn0
    have hk0 : k = 0 := by omega
    subst hk0
    clear HS HF hfr HR2
    have hmk := run_make_row' (P := Trym.prog) 39 4 (.bool false) 1 Trym.underlying39 Trym.info4 rfl .i64 .i64 0 (by omega) (by omega)
    simp only [Int.cast_ofNat_Int] at hmk
    have e0 : fr B 0 = 0 := rfl
    rw [e0]
    clear e0
    go_upto_region 9 with fail
    go_cut [37] (fun t wx => t = .bool false ∧ Below w'.heap.size w' wx)
    case first =>
      go_region_with (go_at_call 19; refine (zzFree_any _ _ _ B ?_ _ ?_).mono ?_; omega; exact Or.inl rfl; rintro e wz ⟨rfl, rfl⟩)
      all_goals go_wp2_with fail
      all_goals go_meet
      all_goals
        refine ⟨congrArg Value.bool (by simp only [fr]; rw [wrap_id _ (by omega)]; rfl), ?_⟩
        exact ((HB2.out.alloc HB2.out.size _).alloc (by have := HB2.out.size; simp; omega) _).drew
    case rest =>
      obtain ⟨rfl, hbc⟩ := hcut
      clear HB2
      obtain ⟨w3, hw3⟩ : ∃ w3, w3 = wc := ⟨_, rfl⟩
      subst hw3
      go_wp2
      go_loopw [7] (fun t wr => t = .int .i64 0 ∧ Below w'.heap.size w' wr) (fun _ _ => 0)
      case atStart => exact ⟨rfl, hbc.alloc hbc.size _⟩
      case round =>
        obtain ⟨rfl, hbel⟩ := hrel
        have HBL : Hid (Below w'.heap.size w' wr) := hbel
        clear hbel hbc hmk
        go_wp2_with fail
        refine (zzFree_any _ 0 0 B hn wr (.inl rfl)).mono ?_
        rintro e w4 ⟨rfl, rfl⟩
        have HB4 : Hid (Below w'.heap.size w' (wr.alloc (.cells #[.slice (some ⟨w3.heap.size, 0, none⟩) 0 0] 55))) := HBL.out.alloc HBL.out.size _
        have e0 : fr B 0 = 0 := rfl
        rw [e0]
        clear e0
        go_wp2
        go_ret
        exact ⟨rfl, HB4.out⟩
  rcases HR2.out with ⟨rfl, h0⟩ | ⟨b, rfl, hb, hrow⟩
  · exact absurd h0 hn0
  have hkn : (k : Int) ≤ (n : Int) := by omega
  have hf1 := fr_le B k
  have hf2 := fr_le (fun i => B (k + i)) (n - k)
  have HT : Hid (((fr B n : Int) != IntKind.i64.wrap ((fr B k : Int) + (fr (fun i => B (k + i)) (n - k) : Int))) = false) := by
    have h := HS.out
    show _ = false
    rw [bne_eq_false_iff_eq, wrap_id _ (by omega)]
    omega
  clear HR2
  by_cases hkn' : k = n
  · subst hkn'
    have HT : Hid (((fr B k : Int) != IntKind.i64.wrap ((fr B k : Int) + (fr B 0 : Int))) = false) := by
      show _ = false
      rw [bne_eq_false_iff_eq, wrap_id _ (by simp only [fr]; omega)]
      simp [fr]
    clear hf2
    go_upto_region 9 with fail
    go_cut [37] (fun t wx => t = .bool false ∧ Below w'.heap.size w' wx ∧ wx.rowIs b 4 k (fun i => .bool (B i)))
    case first =>
      go_region_with (first | (go_at_call_of 19 (Value.slice (some (Addr.mk b 0 none)) k k); refine (zzFree_any _ _ _ B ?_ _ ?_).mono ?_; omega; (refine vo_pre (n := k) ?_ hk; repeat (first | exact hrow | refine World.rowIs.drew ?_ | refine World.rowIs.alloc ?_ _)); rintro e wz ⟨rfl, rfl⟩) | (go_at_call_of 19 (Value.slice (some (Addr.mk b 0 none)) 0 0); refine (zzFree_any _ _ _ B ?_ _ ?_).mono ?_; omega; exact Or.inl rfl; rintro e wz ⟨rfl, rfl⟩))
      all_goals go_wp2_with fail
      all_goals go_meet
      all_goals
        refine ⟨by rw [HT.out], ?_, ?_⟩
        · exact ((HB2.out.alloc HB2.out.size _).alloc (by have := HB2.out.size; simp; omega) _).drew
        · exact ((hrow.alloc _).alloc _).drew
    case rest =>
      obtain ⟨rfl, hbc, hrc⟩ := hcut
      clear hrow HB2 HT hf1
      have hmk := run_make_row' (P := Trym.prog) 39 4 (.bool false) 1 Trym.underlying39 Trym.info4 rfl .i64 .i64 k (by omega) (by omega)
      have hlt : b < wc.heap.size := hrc.lt
      obtain ⟨w3, hw3⟩ : ∃ w3, w3 = wc := ⟨_, rfl⟩
      subst hw3
      go_wp2
      go_loopw [7] (fun t wr => ∃ j : Nat, j ≤ k ∧ t = .int .i64 j ∧ wr.rowIs b 4 k (fun i => .bool (B i)) ∧ wr.rowIs w3.heap.size 4 k (fun i => .bool (if i < j then !B i else false)) ∧ Below w'.heap.size w' wr) (fun t _ => k - (intOf t).toNat)
      case atStart => exact ⟨0, by omega, rfl, hrc.alloc _, (World.rowIs_made w3 (.bool false) k 4).congr (fun i _ => by simp), hbc.alloc hbc.size _⟩
      case round =>
        obtain ⟨j, hj, rfl, hrow, hout, hbel⟩ := hrel
        clear hmk hrc hbc
        by_cases hjn : j < k
        · have hck : wr.cell? ⟨b, j, none⟩ = some (.bool (B j)) := hrow.cell hjn
          have hco : wr.cell? ⟨w3.heap.size, j, none⟩ = some (.bool (if j < j then !B j else false)) := hout.cell hjn
          have hfo := hout.frozen j
          go_wp2
          go_roundw
          case rel => exact ⟨j + 1, by omega, by go_num, hrow.setOther (by simp; omega) _, flip_step hout, hbel.setCell (by simp; omega) _⟩
          case measure => simp [intOf]; omega
        · have hjn' : j = k := by omega
          subst hjn'
          have HO : Hid (wr.rowIs w3.heap.size 4 j (fun i => .bool (!B i))) := hout.congr (fun i hi => by rw [if_pos hi])
          have HBL : Hid (Below w'.heap.size w' wr) := hbel
          have hfl := fr_le (fun i => !B i) j
          clear hout hrow hbel
          go_wp2_with fail
          refine (zzFree_any _ _ _ (fun i => !B i) hn wr (vo_pre HO.out (Nat.le_refl _))).mono ?_
          rintro e w4 ⟨rfl, rfl⟩
          have HB4 : Hid (Below w'.heap.size w' (wr.alloc (.cells #[.slice (some ⟨w3.heap.size, 0, none⟩) j j] 55))) := HBL.out.alloc HBL.out.size _
          go_wp2
          go_ret
          exact ⟨ret_bool (by have := HF.out; simp; omega), HB4.out⟩
  · go_upto_region 9 with fail
    go_cut [37] (fun t wx => t = .bool false ∧ Below w'.heap.size w' wx ∧ wx.rowIs b 4 n (fun i => .bool (B i)))
    case first =>
      go_region_with (first | (go_at_call_of 19 (Value.slice (some (Addr.mk b 0 none)) k n); refine (zzFree_any _ _ _ B ?_ _ ?_).mono ?_; omega; (refine vo_pre (n := n) ?_ hk; repeat (first | exact hrow | refine World.rowIs.drew ?_ | refine World.rowIs.alloc ?_ _)); rintro e wz ⟨rfl, rfl⟩) | (go_at_call_of 19 (Value.slice (some (Addr.mk b k none)) (n - k) (n - k)); refine (zzFree_any _ _ _ (fun i => B (k + i)) ?_ _ ?_).mono ?_; omega; (refine vo_suf (n := n) ?_ hk; repeat (first | exact hrow | refine World.rowIs.drew ?_ | refine World.rowIs.alloc ?_ _)); rintro e wz ⟨rfl, rfl⟩))
      all_goals go_wp2_with fail
      all_goals go_meet
      all_goals
        refine ⟨by rw [HT.out], ?_, ?_⟩
        · exact ((HB2.out.alloc HB2.out.size _).alloc (by have := HB2.out.size; simp; omega) _).drew
        · exact ((hrow.alloc _).alloc _).drew
    case rest =>
      obtain ⟨rfl, hbc, hrc⟩ := hcut
      clear hrow HB2 HT hf1 hf2
      have hmk := run_make_row' (P := Trym.prog) 39 4 (.bool false) 1 Trym.underlying39 Trym.info4 rfl .i64 .i64 n (by omega) (by omega)
      have hlt : b < wc.heap.size := hrc.lt
      obtain ⟨w3, hw3⟩ : ∃ w3, w3 = wc := ⟨_, rfl⟩
      subst hw3
      go_wp2
      go_loopw [7] (fun t wr => ∃ j : Nat, j ≤ n ∧ t = .int .i64 j ∧ wr.rowIs b 4 n (fun i => .bool (B i)) ∧ wr.rowIs w3.heap.size 4 n (fun i => .bool (if i < j then !B i else false)) ∧ Below w'.heap.size w' wr) (fun t _ => n - (intOf t).toNat)
      case atStart => exact ⟨0, by omega, rfl, hrc.alloc _, (World.rowIs_made w3 (.bool false) n 4).congr (fun i _ => by simp), hbc.alloc hbc.size _⟩
      case round =>
        obtain ⟨j, hj, rfl, hrow, hout, hbel⟩ := hrel
        clear hmk hrc hbc
        by_cases hjn : j < n
        · have hck : wr.cell? ⟨b, j, none⟩ = some (.bool (B j)) := hrow.cell hjn
          have hco : wr.cell? ⟨w3.heap.size, j, none⟩ = some (.bool (if j < j then !B j else false)) := hout.cell hjn
          have hfo := hout.frozen j
          go_wp2
          go_roundw
          case rel => exact ⟨j + 1, by omega, by go_num, hrow.setOther (by simp; omega) _, flip_step hout, hbel.setCell (by simp; omega) _⟩
          case measure => simp [intOf]; omega
        · have hjn' : j = n := by omega
          subst hjn'
          have HO : Hid (wr.rowIs w3.heap.size 4 j (fun i => .bool (!B i))) := hout.congr (fun i hi => by rw [if_pos hi])
          have HBL : Hid (Below w'.heap.size w' wr) := hbel
          have hfl := fr_le (fun i => !B i) j
          clear hout hrow hbel
          go_wp2_with fail
          refine (zzFree_any _ _ _ (fun i => !B i) hn wr (vo_pre HO.out (Nat.le_refl _))).mono ?_
          rintro e w4 ⟨rfl, rfl⟩
          have HB4 : Hid (Below w'.heap.size w' (wr.alloc (.cells #[.slice (some ⟨w3.heap.size, 0, none⟩) j j] 55))) := HBL.out.alloc HBL.out.size _
          go_wp2
          go_ret
          exact ⟨ret_bool (by have := HF.out; simp; omega), HB4.out⟩
end Go.Proofs.Qxb6604119aMods
