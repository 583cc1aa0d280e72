import Derived.Test.Qxb6604119aModsReps
import Derived.Deep.QuietTactic
import Derived.BigQuiet
namespace Go.Proofs.Qxb6604119aMods
open Go.RowKit Go.Deep
set_option linter.unusedVariables false
attribute [local go_sem] run_store_float

theorem ret_int {k : IntKind} {a b : Int} (h : a = b) : Ending.returned (.int k a) = .returned (.int k b) := by rw [h]
theorem ret_bool {a b : Bool} (h : a = b) : Ending.returned (.bool a) = .returned (.bool b) := by rw [h]
theorem drewN2 (w : World) (a b : Nat) : (w.drewN a).drewN b = w.drewN (a + b) := by simp [World.drewN, Nat.add_assoc]

/-! ### simB1BestLag -/
/-- Is record j's lag exceeded by one of the first i that have reads? -/
def btn (R : Nat → Rp) (j : Nat) : Nat → Bool
  | 0 => false
  | i + 1 => btn R j i || (decide (0 < (R i).a5) && Fl.gtB (R i).lag (R j).lag)
theorem btn_iff (R : Nat → Rp) (j i : Nat) : btn R j i = true ↔ ∃ q, q < i ∧ 0 < (R q).a5 ∧ Fl.gtB (R q).lag (R j).lag = true := by
  induction i with
  | zero => simp [btn]
  | succ i ih =>
    simp only [btn, Bool.or_eq_true, Bool.and_eq_true, decide_eq_true_eq, ih]
    constructor
    · rintro (⟨q, hq, h⟩ | h)
      · exact ⟨q, by omega, h⟩
      · exact ⟨i, by omega, h⟩
    · rintro ⟨q, hq, h⟩
      by_cases hqi : q = i
      · subst hqi; exact .inr h
      · exact .inl ⟨q, by omega, h⟩
/-- What it answers: the earliest with reads whose lag none with reads exceeds; -1 where none has reads or each is exceeded. -/
def LagRet (R : Nat → Rp) (n : Nat) (v : Int) : Prop :=
  (v = -1 ∧ ∀ i, i < n → 0 < (R i).a5 → btn R i n = true) ∨
  ∃ j : Nat, v = j ∧ j < n ∧ 0 < (R j).a5 ∧ btn R j n = false ∧ ∀ i, i < j → 0 < (R i).a5 → btn R i n = true
def SoFar (R : Nat → Rp) (n j : Nat) : Prop := ∀ i, i < j → 0 < (R i).a5 → btn R i n = true
theorem soFar_step {R : Nat → Rp} {n j : Nat} (h : SoFar R n j) (hj : 0 < (R j).a5 → btn R j n = true) : SoFar R n (j + 1) := by
  intro i hi hr
  by_cases hij : i = j
  · subst hij; exact hj hr
  · exact h i (by omega) hr
def LagEnd (R : Nat → Rp) (n : Nat) (e : Ending) : Prop := ∃ v, e = .returned (.int .i64 v) ∧ LagRet R n v

set_option maxHeartbeats 2000000 in
theorem bestLag_any (a : Option Addr) (n c : Nat) (R : Nat → Rp) (hn : n ≤ 4096) (w : World) (hv : Vg w a n R) :
    Calls Trym.prog 12 #[.slice a n c] w fun e w' => LagEnd R n e ∧ ∃ nq, w' = w.drewN nq := by
  have HV : Hid (Vg w a n R) := hv
  clear hv
  go_enter Trym.func12, Trym.ntmps12
  go_wp2
  go_loopw [3] (fun t wr => ∃ j nq : Nat, j ≤ n ∧ t = .int .i64 j ∧ Hid (SoFar R n j) ∧ wr = w.drewN nq) (fun t _ => n - (intOf t).toNat)
  case atStart => exact ⟨0, 0, by omega, rfl, fun i hi => by omega, rfl⟩
  case round =>
    obtain ⟨j, nq, hj, rfl, HS, rfl⟩ := hrel
    by_cases hlt : j < n
    · obtain ⟨b, off, rfl, hb, hr⟩ := HV.out.at hlt
      obtain ⟨rj, hR⟩ : ∃ rj, rj = R j := ⟨_, rfl⟩
      rw [← hR] at hr
      have cj5 := (at_all hr).2.2.2.2.2.1
      have cj6 := (at_all hr).2.2.2.2.2.2.1
      have HR : Hid (rj = R j) := hR
      clear hR hr
      by_cases hrj : rj.a5 ≤ 0
      · have HN : Hid (SoFar R n (j + 1)) := soFar_step HS.out (fun h => by rw [← HR.out] at h; omega)
        go_wp2
        go_roundw
        case rel => exact ⟨j + 1, nq, by omega, by go_num, HN, rfl⟩
        case measure => simp [intOf]; omega
      · go_wp2
        go_loopw [4, 5] (fun t i wx => ∃ k np : Nat, k ≤ n ∧ i = .int .i64 k ∧ t = .bool (btn R j k) ∧ wx = w.drewN np) (fun _ i _ => n - (intOf i).toNat)
        case atStart => exact ⟨0, nq, by omega, rfl, rfl, rfl⟩
        case round =>
          obtain ⟨k, np, hk, rfl, rfl, rfl⟩ := hrel
          by_cases hkn : k < n
          · obtain ⟨b', off', hba, hb', hr⟩ := HV.out.at hkn
            simp only [Option.some.injEq, Addr.mk.injEq, and_true] at hba
            obtain ⟨rfl, rfl⟩ := hba
            obtain ⟨rk, hR⟩ : ∃ rk, rk = R k := ⟨_, rfl⟩
            rw [← hR] at hr
            have ck5 := (at_all hr).2.2.2.2.2.1
            have ck6 := (at_all hr).2.2.2.2.2.2.1
            have HK : Hid (rk = R k) := hR
            clear hR hr hb'
            have hkz : (k : Int) < (n : Int) := by omega
            have hjz : (j : Int) < (n : Int) := by omega
            by_cases hrk : 0 < rk.a5
            · have hd : decide (0 < rk.a5) = true := decide_eq_true hrk
              cases hg : Fl.gtB rk.lag rj.lag
              · have hg' : (FloatKind.f64.format.order rk.lag rj.lag == some .gt) = false := hg
                have HT : Hid (btn R j (k + 1) = btn R j k) := by show _ = _; simp only [btn]; rw [← HK.out, ← HR.out, hg]; simp
                clear hg
                go_wp2
                go_quiet (fail)
                go_wp2
                go_roundw
                case rel => exact ⟨k + 1, _, by omega, by go_num, by rw [HT.out], rfl⟩
                case measure => simp [intOf]; omega
              · have hg' : (FloatKind.f64.format.order rk.lag rj.lag == some .gt) = true := hg
                have HT : Hid (btn R j (k + 1) = true) := by show _ = _; simp only [btn]; rw [← HK.out, ← HR.out, hg, hd]; simp
                clear hg
                go_wp2
                go_quiet (fail)
                go_wp2
                go_roundw
                case rel => exact ⟨k + 1, _, by omega, by go_num, by rw [HT.out], rfl⟩
                case measure => simp [intOf]; omega
            · have hd : decide (0 < rk.a5) = false := decide_eq_false hrk
              have HT : Hid (btn R j (k + 1) = btn R j k) := by show _ = _; simp only [btn]; rw [← HK.out, hd]; simp
              go_wp2
              go_quiet (fail)
              go_wp2
              go_roundw
              case rel => exact ⟨k + 1, _, by omega, by go_num, by rw [HT.out], rfl⟩
              case measure => simp [intOf]; omega
          · have hkn' : k = n := by omega
            subst hkn'
            cases hB : btn R j k
            · have HE : Hid (LagEnd R k (.returned (.int .i64 (j : Int)))) := ⟨_, rfl, .inr ⟨j, rfl, hlt, by rw [← HR.out]; omega, hB, HS.out⟩⟩
              clear hB
              go_wp2
              go_ret
              exact ⟨HE.out, _, rfl⟩
            · have HN : Hid (SoFar R k (j + 1)) := soFar_step HS.out (fun _ => hB)
              clear hB
              go_wp2
              go_roundw
              case rel => exact ⟨j + 1, _, by omega, by go_num, HN, rfl⟩
              case measure => simp [intOf]; omega
    · have hjn : j = n := by omega
      subst hjn
      have HE : Hid (LagEnd R j (.returned (.int .i64 (-1)))) := ⟨_, rfl, .inl ⟨rfl, HS.out⟩⟩
      go_wp2
      go_ret
      exact ⟨HE.out, _, rfl⟩

/-! ### simB1Extreme -/
def bx (g : Nat → Nat → Bool) (R : Nat → Rp) (j : Nat) : Nat → Bool
  | 0 => false
  | i + 1 => bx g R j i || g (R i).vl (R j).vl
theorem bx_iff (g : Nat → Nat → Bool) (R : Nat → Rp) (j i : Nat) : bx g R j i = true ↔ ∃ q, q < i ∧ g (R q).vl (R j).vl = true := by
  induction i with
  | zero => simp [bx]
  | succ i ih =>
    simp only [bx, Bool.or_eq_true, ih]
    constructor
    · rintro (⟨q, hq, h⟩ | h)
      · exact ⟨q, by omega, h⟩
      · exact ⟨i, by omega, h⟩
    · rintro ⟨q, hq, h⟩
      by_cases hqi : q = i
      · subst hqi; exact .inr h
      · exact .inl ⟨q, by omega, h⟩
def ExtRet (g : Nat → Nat → Bool) (R : Nat → Rp) (n : Nat) (v : Int) : Prop :=
  (v = -1 ∧ ∀ i, i < n → bx g R i n = true) ∨ ∃ j : Nat, v = j ∧ j < n ∧ bx g R j n = false ∧ ∀ i, i < j → bx g R i n = true
def ExtSoFar (g : Nat → Nat → Bool) (R : Nat → Rp) (n j : Nat) : Prop := ∀ i, i < j → bx g R i n = true
theorem extSoFar_step {g : Nat → Nat → Bool} {R : Nat → Rp} {n j : Nat} (h : ExtSoFar g R n j) (hj : bx g R j n = true) : ExtSoFar g R n (j + 1) := by
  intro i hi
  by_cases hij : i = j
  · subst hij; exact hj
  · exact h i (by omega)
def ExtEnd (g : Nat → Nat → Bool) (R : Nat → Rp) (n : Nat) (e : Ending) : Prop := ∃ v, e = .returned (.int .i64 v) ∧ ExtRet g R n v

set_option maxHeartbeats 2000000 in
theorem extreme_least (a : Option Addr) (n c : Nat) (R : Nat → Rp) (hn : n ≤ 4096) (w : World) (hv : Vg w a n R) :
    Calls Trym.prog 13 #[.slice a n c, .bool false] w fun e w' => ExtEnd Fl.ltB R n e ∧ ∃ nq, w' = w.drewN nq := by
  have HV : Hid (Vg w a n R) := hv
  clear hv
  go_enter Trym.func13, Trym.ntmps13
  go_wp2
  go_loopw [5] (fun t wr => ∃ j nq : Nat, j ≤ n ∧ t = .int .i64 j ∧ Hid (ExtSoFar Fl.ltB R n j) ∧ wr = w.drewN nq) (fun t _ => n - (intOf t).toNat)
  case atStart => exact ⟨0, 0, by omega, rfl, fun i hi => by omega, rfl⟩
  case round =>
    obtain ⟨j, nq, hj, rfl, HS, rfl⟩ := hrel
    by_cases hlt : j < n
    · obtain ⟨b, off, rfl, hb, hr⟩ := HV.out.at hlt
      obtain ⟨rj, hR⟩ : ∃ rj, rj = R j := ⟨_, rfl⟩
      rw [← hR] at hr
      have cj11 := (at_all hr).2.2.2.2.2.2.2.2.2.2.2.1
      have HR : Hid (rj = R j) := hR
      clear hR hr
      go_wp2
      go_loopw [6, 7] (fun t i wx => ∃ k np : Nat, k ≤ n ∧ i = .int .i64 k ∧ t = .bool (bx Fl.ltB R j k) ∧ wx = w.drewN np) (fun _ i _ => n - (intOf i).toNat)
      case atStart => exact ⟨0, nq, by omega, rfl, rfl, rfl⟩
      case round =>
        obtain ⟨k, np, hk, rfl, rfl, rfl⟩ := hrel
        by_cases hkn : k < n
        · obtain ⟨b', off', hba, hb', hr⟩ := HV.out.at hkn
          simp only [Option.some.injEq, Addr.mk.injEq, and_true] at hba
          obtain ⟨rfl, rfl⟩ := hba
          obtain ⟨rk, hR⟩ : ∃ rk, rk = R k := ⟨_, rfl⟩
          rw [← hR] at hr
          have ck11 := (at_all hr).2.2.2.2.2.2.2.2.2.2.2.1
          have HK : Hid (rk = R k) := hR
          clear hR hr hb'
          have hkz : (k : Int) < (n : Int) := by omega
          have hjz : (j : Int) < (n : Int) := by omega
          cases hg : Fl.ltB rk.vl rj.vl
          · have hg' : (FloatKind.f64.format.order rk.vl rj.vl == some .lt) = false := hg
            have HT : Hid (bx Fl.ltB R j (k + 1) = bx Fl.ltB R j k) := by show _ = _; simp only [bx]; rw [← HK.out, ← HR.out, hg]; simp
            clear hg
            go_wp2
            go_quiet (fail)
            go_wp2
            go_quiet (fail)
            go_wp2
            go_roundw
            case rel => exact ⟨k + 1, _, by omega, by go_num, by rw [HT.out], rfl⟩
            case measure => simp [intOf]; omega
          · have hg' : (FloatKind.f64.format.order rk.vl rj.vl == some .lt) = true := hg
            have HT : Hid (bx Fl.ltB R j (k + 1) = true) := by show _ = _; simp only [bx]; rw [← HK.out, ← HR.out, hg]; simp
            clear hg
            go_wp2
            go_quiet (fail)
            go_wp2
            go_quiet (fail)
            go_wp2
            go_roundw
            case rel => exact ⟨k + 1, _, by omega, by go_num, by rw [HT.out], rfl⟩
            case measure => simp [intOf]; omega
        · have hkn' : k = n := by omega
          subst hkn'
          cases hB : bx Fl.ltB R j k
          · have HE : Hid (ExtEnd Fl.ltB R k (.returned (.int .i64 (j : Int)))) := ⟨_, rfl, .inr ⟨j, rfl, hlt, hB, HS.out⟩⟩
            clear hB
            go_wp2
            go_ret
            exact ⟨HE.out, _, rfl⟩
          · have HN : Hid (ExtSoFar Fl.ltB R k (j + 1)) := extSoFar_step HS.out hB
            clear hB
            go_wp2
            go_roundw
            case rel => exact ⟨j + 1, _, by omega, by go_num, HN, rfl⟩
            case measure => simp [intOf]; omega
    · have hjn : j = n := by omega
      subst hjn
      have HE : Hid (ExtEnd Fl.ltB R j (.returned (.int .i64 (-1)))) := ⟨_, rfl, .inl ⟨rfl, HS.out⟩⟩
      go_wp2
      go_ret
      exact ⟨HE.out, _, rfl⟩

set_option maxHeartbeats 2000000 in
theorem extreme_greatest (a : Option Addr) (n c : Nat) (R : Nat → Rp) (hn : n ≤ 4096) (w : World) (hv : Vg w a n R) :
    Calls Trym.prog 13 #[.slice a n c, .bool true] w fun e w' => ExtEnd Fl.gtB R n e ∧ ∃ nq, w' = w.drewN nq := by
  have HV : Hid (Vg w a n R) := hv
  clear hv
  go_enter Trym.func13, Trym.ntmps13
  go_wp2
  go_loopw [5] (fun t wr => ∃ j nq : Nat, j ≤ n ∧ t = .int .i64 j ∧ Hid (ExtSoFar Fl.gtB R n j) ∧ wr = w.drewN nq) (fun t _ => n - (intOf t).toNat)
  case atStart => exact ⟨0, 0, by omega, rfl, fun i hi => by omega, rfl⟩
  case round =>
    obtain ⟨j, nq, hj, rfl, HS, rfl⟩ := hrel
    by_cases hlt : j < n
    · obtain ⟨b, off, rfl, hb, hr⟩ := HV.out.at hlt
      obtain ⟨rj, hR⟩ : ∃ rj, rj = R j := ⟨_, rfl⟩
      rw [← hR] at hr
      have cj11 := (at_all hr).2.2.2.2.2.2.2.2.2.2.2.1
      have HR : Hid (rj = R j) := hR
      clear hR hr
      go_wp2
      go_loopw [6, 7] (fun t i wx => ∃ k np : Nat, k ≤ n ∧ i = .int .i64 k ∧ t = .bool (bx Fl.gtB R j k) ∧ wx = w.drewN np) (fun _ i _ => n - (intOf i).toNat)
      case atStart => exact ⟨0, nq, by omega, rfl, rfl, rfl⟩
      case round =>
        obtain ⟨k, np, hk, rfl, rfl, rfl⟩ := hrel
        by_cases hkn : k < n
        · obtain ⟨b', off', hba, hb', hr⟩ := HV.out.at hkn
          simp only [Option.some.injEq, Addr.mk.injEq, and_true] at hba
          obtain ⟨rfl, rfl⟩ := hba
          obtain ⟨rk, hR⟩ : ∃ rk, rk = R k := ⟨_, rfl⟩
          rw [← hR] at hr
          have ck11 := (at_all hr).2.2.2.2.2.2.2.2.2.2.2.1
          have HK : Hid (rk = R k) := hR
          clear hR hr hb'
          have hkz : (k : Int) < (n : Int) := by omega
          have hjz : (j : Int) < (n : Int) := by omega
          cases hg : Fl.gtB rk.vl rj.vl
          · have hg' : (FloatKind.f64.format.order rk.vl rj.vl == some .gt) = false := hg
            have HT : Hid (bx Fl.gtB R j (k + 1) = bx Fl.gtB R j k) := by show _ = _; simp only [bx]; rw [← HK.out, ← HR.out, hg]; simp
            clear hg
            go_wp2
            go_quiet (fail)
            go_wp2
            go_quiet (fail)
            go_wp2
            go_roundw
            case rel => exact ⟨k + 1, _, by omega, by go_num, by rw [HT.out], rfl⟩
            case measure => simp [intOf]; omega
          · have hg' : (FloatKind.f64.format.order rk.vl rj.vl == some .gt) = true := hg
            have HT : Hid (bx Fl.gtB R j (k + 1) = true) := by show _ = _; simp only [bx]; rw [← HK.out, ← HR.out, hg]; simp
            clear hg
            go_wp2
            go_quiet (fail)
            go_wp2
            go_quiet (fail)
            go_wp2
            go_roundw
            case rel => exact ⟨k + 1, _, by omega, by go_num, by rw [HT.out], rfl⟩
            case measure => simp [intOf]; omega
        · have hkn' : k = n := by omega
          subst hkn'
          cases hB : bx Fl.gtB R j k
          · have HE : Hid (ExtEnd Fl.gtB R k (.returned (.int .i64 (j : Int)))) := ⟨_, rfl, .inr ⟨j, rfl, hlt, hB, HS.out⟩⟩
            clear hB
            go_wp2
            go_ret
            exact ⟨HE.out, _, rfl⟩
          · have HN : Hid (ExtSoFar Fl.gtB R k (j + 1)) := extSoFar_step HS.out hB
            clear hB
            go_wp2
            go_roundw
            case rel => exact ⟨j + 1, _, by omega, by go_num, HN, rfl⟩
            case measure => simp [intOf]; omega
    · have hjn : j = n := by omega
      subst hjn
      have HE : Hid (ExtEnd Fl.gtB R j (.returned (.int .i64 (-1)))) := ⟨_, rfl, .inl ⟨rfl, HS.out⟩⟩
      go_wp2
      go_ret
      exact ⟨HE.out, _, rfl⟩

/-! ### simB1Same -/
theorem run_quo (x y v : Nat) (h : FloatKind.f64.format.div x y = some v) (w : World) : (binOp .quo 24 (.float .f64 x) (.float .f64 y)).run Trym.prog w = .ok (.float .f64 v) w := by
  simp [binOp, Op.floatArith, h]
theorem same_any (a : Nat) (ha : Fl.nn a) (w : World) :
    Calls Trym.prog 14 #[.float .f64 a, .float .f64 a] w fun e w' => e = .returned (.bool true) ∧ w' = w := by
  have h1 : (FloatKind.f64.format.order a a != some .eq) = false := by rw [bne_eq_false_iff_eq]; exact ha
  by_cases hz : FloatKind.f64.format.order a 0 = some .eq
  · obtain ⟨v, hv, hvv⟩ := Fl.one_over hz
    have h2 : (FloatKind.f64.format.order a 0 != some .eq) = false := by rw [bne_eq_false_iff_eq]; exact hz
    have h3 : (FloatKind.f64.format.order v v == some .eq) = true := by rw [beq_iff_eq]; exact hvv
    have hq := run_quo 4607182418800017408 a v hv
    clear hv hvv hz
    go_enter Trym.func14, Trym.ntmps14
    go_wp2
    go_ret
    exact ⟨rfl, rfl⟩
  · have h2 : (FloatKind.f64.format.order a 0 != some .eq) = true := by rw [bne_iff_ne]; exact hz
    clear hz
    go_enter Trym.func14, Trym.ntmps14
    go_wp2
    go_ret
    exact ⟨rfl, rfl⟩
end Go.Proofs.Qxb6604119aMods
