import Derived.Test.Qxb6602867aModsRows
import Derived.WalkKit
namespace Go.Proofs.Qxb6602867aMods
open Go.RowKit
set_option linter.unusedVariables false

theorem ret_int {k : IntKind} {a b : Int} (h : a = b) : Ending.returned (.int k a) = .returned (.int k b) := by rw [h]
theorem ret_bool {a b : Bool} (h : a = b) : Ending.returned (.bool a) = .returned (.bool b) := by rw [h]

/-- The days of month m in year y, as the Go text of 'daysIn' reckons them. -/
def dim (m y : Int) : Int :=
  if m = 2 then (if y.tmod 4 = 0 ∧ (y.tmod 100 ≠ 0 ∨ y.tmod 400 = 0) then 29 else 28)
  else if m = 4 ∨ m = 6 ∨ m = 9 ∨ m = 11 then 30 else 31

theorem dim_bd (m y : Int) : 28 ≤ dim m y ∧ dim m y ≤ 31 := by
  unfold dim; split <;> split <;> omega

set_option maxHeartbeats 400000 in
theorem daysIn_any (m y : Int) (w : World) :
    Calls Trym.prog 20 #[.int .i64 m, .int .i64 y] w fun e w' => e = .returned (.int .i64 (dim m y)) ∧ w' = w := by
  go_enter Trym.func20, Trym.ntmps20
  go_wp2
  all_goals
    go_ret
    refine ⟨ret_int ?_, rfl⟩
    simp only [beq_iff_eq, beq_eq_false_iff_ne] at *
    simp_all [dim]

theorem zzDaysIn_any (m y : Int) (w : World) :
    Calls Trym.prog 16 #[.int .i64 m, .int .i64 y] w fun e w' => e = .returned (.int .i64 (dim m y)) ∧ w' = w := by
  go_enter Trym.func16, Trym.ntmps16
  go_wp2_with (go_at_call 20; refine (daysIn_any _ _ _).mono ?_; rintro e w' ⟨rfl, rfl⟩)
  go_ret
  exact ⟨rfl, rfl⟩

/-- The model's leap years. -/
def lpm (y : Int) : Bool := if y.tmod 25 = 0 then y.tmod 16 == 0 else y.tmod 4 == 0

theorem leapModel_any (y : Int) (w : World) :
    Calls Trym.prog 21 #[.int .i64 y] w fun e w' => e = .returned (.bool (lpm y)) ∧ w' = w := by
  go_enter Trym.func21, Trym.ntmps21
  go_wp2
  all_goals
    go_ret
    refine ⟨ret_bool ?_, rfl⟩
    simp only [beq_iff_eq, beq_eq_false_iff_ne] at *
    simp_all [lpm]

theorem tz (y k : Int) : y.tmod k = 0 ↔ y % k = 0 :=
  Int.dvd_iff_tmod_eq_zero.symm.trans Int.dvd_iff_emod_eq_zero

/-- A leap year by either rule. -/
theorem lpm_dim (y : Int) : dim 2 y = if lpm y then 29 else 28 := by
  unfold dim lpm
  simp only [tz, ne_eq]
  have e : ((if y % 25 = 0 then y.tmod 16 == 0 else y.tmod 4 == 0) = true) ↔ (y % 4 = 0 ∧ (¬ y % 100 = 0 ∨ y % 400 = 0)) := by
    split
    · rw [beq_iff_eq, tz]; omega
    · rw [beq_iff_eq, tz]; omega
  simp only [e, if_true]

/-- The model's days. -/
def dmm (m y : Int) : Int := if m = 2 then (if lpm y then 29 else 28) else 30 + (m + m / 8) % 2

theorem dim_dmm (m y : Int) (h1 : 1 ≤ m) (h2 : m ≤ 12) : dim m y = dmm m y := by
  by_cases h : m = 2
  · subst h; rw [lpm_dim]; simp [dmm]
  · unfold dim dmm
    rw [if_neg h, if_neg h]
    have : m = 1 ∨ m = 3 ∨ m = 4 ∨ m = 5 ∨ m = 6 ∨ m = 7 ∨ m = 8 ∨ m = 9 ∨ m = 10 ∨ m = 11 ∨ m = 12 := by omega
    rcases this with rfl | rfl | rfl | rfl | rfl | rfl | rfl | rfl | rfl | rfl | rfl <;> decide

theorem daysModel_any (m y : Int) (h1 : 1 ≤ m) (h2 : m ≤ 12) (w : World) :
    Calls Trym.prog 17 #[.int .i64 m, .int .i64 y] w fun e w' => e = .returned (.int .i64 (dmm m y)) ∧ w' = w := by
  by_cases h : m = 2
  · subst h
    cases hl : lpm y
    all_goals
      go_enter Trym.func17, Trym.ntmps17
      go_wp2_with (go_at_call 21; refine (leapModel_any _ _).mono ?_; rintro e w' ⟨rfl, rfl⟩)
      go_ret
      exact ⟨ret_int (by simp [dmm, hl]), rfl⟩
  · go_enter Trym.func17, Trym.ntmps17
    go_wp2_with (go_at_call 21; refine (leapModel_any _ _).mono ?_; rintro e w' ⟨rfl, rfl⟩)
    go_ret
    exact ⟨ret_int (by simp [dmm, h]), rfl⟩

theorem matches_any (m y : Int) (w : World) :
    Calls Trym.prog 6 #[.int .i64 m, .int .i64 y] w fun e w' => e = .returned (.bool true) ∧ w' = w := by
  by_cases h1 : m < 1
  · go_enter Trym.func6, Trym.ntmps6
    go_wp2
    go_ret
    exact ⟨rfl, rfl⟩
  by_cases h2 : 12 < m
  · go_enter Trym.func6, Trym.ntmps6
    go_wp2
    go_ret
    exact ⟨rfl, rfl⟩
  have H : Hid (dim m y = dmm m y) := dim_dmm m y (by omega) (by omega)
  go_enter Trym.func6, Trym.ntmps6
  go_wp2_with (first | (go_at_call 16; refine (zzDaysIn_any _ _ _).mono ?_; rintro e w' ⟨rfl, rfl⟩) | (go_at_call 17; refine (daysModel_any _ _ (by omega) (by omega) _).mono ?_; rintro e w' ⟨rfl, rfl⟩))
  go_ret
  exact ⟨ret_bool (by simp [H.out]), rfl⟩

theorem fd_exact (a k : Int) (h : a.tmod k = 0) : a.tdiv k = a / k :=
  Int.tdiv_eq_ediv_of_dvd (Int.dvd_of_tmod_eq_zero h)
theorem fd_neg (a k : Int) (hk : 0 < k) (h : ¬ a.tmod k = 0) (ha : a < 0) : a.tdiv k - 1 = a / k := by
  have hd : ¬ k ∣ a := fun hd => h (Int.tmod_eq_zero_of_dvd hd)
  rw [Int.tdiv_eq_ediv, if_neg (by intro hc; rcases hc with hc | hc; · omega
                                   · exact hd hc), Int.sign_eq_one_of_pos hk]
  omega
theorem fd_bd (a k : Int) (ha : -400 ≤ a) (ha2 : a ≤ 400) (hk : 1 < k) : -400 ≤ a / k ∧ a / k ≤ 400 := by
  have h1 : a / k * k + a % k = a := Int.ediv_mul_add_emod a k
  have h2 := Int.emod_nonneg a (show k ≠ 0 by omega)
  have h3 := Int.emod_lt_of_pos a (show 0 < k by omega)
  constructor
  · exact Int.le_ediv_of_mul_le (by omega) (by have : (-400 : Int) * k ≤ -400 * 1 := by omega
                                               omega)
  · exact Int.le_trans (Int.ediv_le_ediv (by omega) ha2) (Int.ediv_le_self k (show (0:Int) ≤ 400 by omega))

/-- Floor division by a positive number. -/
theorem floorDiv_any (a k : Int) (ha : -400 ≤ a) (ha2 : a ≤ 400) (hk : 1 < k) (w : World) :
    Calls Trym.prog 22 #[.int .i64 a, .int .i64 k] w fun e w' => e = .returned (.int .i64 (a / k)) ∧ w' = w := by
  go_enter Trym.func22, Trym.ntmps22
  go_wp2
  · go_ret
    exact ⟨ret_int (fd_exact a k ‹_›), rfl⟩
  · go_ret
    have hm : ¬ a.tmod k = 0 := by assumption
    have hn : (a.tmod k != 0) = true ∧ a < 0 := by assumption
    exact ⟨ret_int (by rw [fd_neg a k (by omega) hm hn.2]; exact Go.IntWalk.wrap64_in _ (by have := fd_bd a k ha ha2 hk; omega)), rfl⟩
  · go_ret
    have hm : ¬ a.tmod k = 0 := by assumption
    have hn : (a.tmod k != 0) = false ∨ 0 ≤ a := by assumption
    have h0 : 0 ≤ a := by
      rcases hn with hn | hn
      · exact absurd (by simpa using hn) hm
      · exact hn
    exact ⟨ret_int (Int.tdiv_eq_ediv_of_nonneg h0), rfl⟩

/-- The leap years up to y, up to a constant. -/
def lth (y : Int) : Int := y / 4 - y / 100 + y / 400

theorem leapsThrough_any (y : Int) (ha : -400 ≤ y) (ha2 : y ≤ 400) (w : World) :
    Calls Trym.prog 18 #[.int .i64 y] w fun e w' => e = .returned (.int .i64 (lth y)) ∧ w' = w := by
  have b1 := fd_bd y 4 ha ha2 (by omega)
  have b2 := fd_bd y 100 ha ha2 (by omega)
  have b3 := fd_bd y 400 ha ha2 (by omega)
  go_enter Trym.func18, Trym.ntmps18
  go_wp2_with (go_at_call 22; refine (floorDiv_any _ _ (by omega) (by omega) (by omega) _).mono ?_; rintro e w' ⟨rfl, rfl⟩)
  go_ret
  exact ⟨ret_int (by simp [lth]), rfl⟩

/-- The days of the first k months of year y. -/
def cum (y : Int) : Nat → Int
  | 0 => 0
  | k + 1 => cum y k + dim (k + 1) y

theorem cum_bd (y : Int) (k : Nat) : 0 ≤ cum y k ∧ cum y k ≤ 31 * k := by
  induction k with
  | zero => simp [cum]
  | succ k ih => have := dim_bd (k + 1) y; simp only [cum]; omega

theorem cum_12 (y : Int) : cum y 12 = 365 + (if y % 4 = 0 ∧ (¬ y % 100 = 0 ∨ y % 400 = 0) then 1 else 0) := by
  simp only [cum, dim, tz, ne_eq]
  simp
  split <;> rfl

theorem lth_step (r : Int) : lth r - lth (r - 1) = (if r % 4 = 0 ∧ (¬ r % 100 = 0 ∨ r % 400 = 0) then 1 else 0) := by
  unfold lth
  split <;> omega

theorem lth_bd (r : Int) (ha : -400 ≤ r) (ha2 : r ≤ 400) : -1200 ≤ lth r ∧ lth r ≤ 1200 := by
  unfold lth; omega

theorem tm_bd (y : Int) : -399 ≤ y.tmod 400 ∧ y.tmod 400 ≤ 399 := by
  have h1 := Int.tmod_lt_of_pos y (show (0:Int) < 400 by omega)
  have h2 := Int.lt_tmod_of_pos y (show (0:Int) < 400 by omega)
  omega

/-- The year's length out of its remainder by 400. -/
theorem year_len (y : Int) : cum y 12 = 365 + (lth (y.tmod 400) - lth (y.tmod 400 - 1)) := by
  rw [cum_12, lth_step]
  have h := Int.tmod_add_mul_tdiv y 400
  congr 1
  generalize y.tmod 400 = r at *
  generalize y.tdiv 400 = q at *
  have e : (y % 4 = 0 ∧ (¬ y % 100 = 0 ∨ y % 400 = 0)) ↔ (r % 4 = 0 ∧ (¬ r % 100 = 0 ∨ r % 400 = 0)) := by omega
  simp only [e]

set_option maxHeartbeats 400000 in
theorem yearLength_any (y : Int) (w : World) :
    Calls Trym.prog 7 #[.int .i64 y] w fun e w' => e = .returned (.bool true) ∧ w' = w := by
  have hr := tm_bd y
  have H : Hid (cum y 12 = 365 + (lth (y.tmod 400) - lth (y.tmod 400 - 1))) := year_len y
  have l1 := lth_bd (y.tmod 400) (by omega) (by omega)
  have l2 := lth_bd (y.tmod 400 - 1) (by omega) (by omega)
  go_enter Trym.func7, Trym.ntmps7
  go_wp2
  go_loop [4, 5] (fun t m => ∃ k : Nat, k ≤ 12 ∧ m = .int .i64 (k + 1) ∧ t = .int .i64 (cum y k)) (fun _ m => 13 - (intOf m).toNat)
  case atStart => exact ⟨0, by omega, rfl, rfl⟩
  case round =>
    obtain ⟨k, hk, rfl, rfl⟩ := hrel
    have cb := cum_bd y k
    by_cases hlt : k < 12
    · have db := dim_bd (k + 1) y
      go_wp2_with (go_at_call 16; refine (zzDaysIn_any _ _ _).mono ?_; rintro e w' ⟨rfl, rfl⟩)
      go_round
      case rel => exact ⟨k + 1, by omega, by go_num, by simp [cum]⟩
      case measure => simp [intOf]; omega
    · have hk12 : k = 12 := by omega
      subst hk12
      go_wp2_with (go_at_call 18; refine (leapsThrough_any _ (by omega) (by omega) _).mono ?_; rintro e w' ⟨rfl, rfl⟩)
      go_ret
      exact ⟨ret_bool (by simp [H.out]), rfl⟩
end Go.Proofs.Qxb6602867aMods
