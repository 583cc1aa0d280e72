/- The plain law of the totals: what 'tot' holds behind n records. No walk. -/
import Derived.Test.Qxb6604119aModsTotal
import Derived.Test.Qxb6604119aModsLags
namespace Go.Proofs.Qxb6604119aMods
open Go.RowKit Go.Deep
set_option linter.unusedVariables false

theorem wrap_add (a b : Int) : wrap64 (wrap64 a + b) = wrap64 (a + b) := by unfold wrap64; omega

theorem wrap_zero : wrap64 0 = 0 := by unfold wrap64; omega

/-- The sum of a field over the first k records. -/
def sm (f : Rp → Int) (R : Nat → Rp) : Nat → Int
  | 0 => 0
  | k + 1 => sm f R k + f (R k)

theorem tot_w (R : Nat → Rp) (k : Nat) : (tot R k).w = wrap64 (sm Rp.a1 R k) := by
  induction k with
  | zero => simp only [tot, t0, sm, wrap_zero]
  | succ k ih => simp only [tot, stp, sm, ih, wrap_add]
theorem tot_c (R : Nat → Rp) (k : Nat) : (tot R k).c = wrap64 (sm Rp.a2 R k) := by
  induction k with
  | zero => simp only [tot, t0, sm, wrap_zero]
  | succ k ih => simp only [tot, stp, sm, ih, wrap_add]
theorem tot_wa (R : Nat → Rp) (k : Nat) : (tot R k).wa = wrap64 (sm Rp.a3 R k) := by
  induction k with
  | zero => simp only [tot, t0, sm, wrap_zero]
  | succ k ih => simp only [tot, stp, sm, ih, wrap_add]
theorem tot_ol (R : Nat → Rp) (k : Nat) : (tot R k).ol = wrap64 (sm Rp.a7 R k) := by
  induction k with
  | zero => simp only [tot, t0, sm, wrap_zero]
  | succ k ih => simp only [tot, stp, sm, ih, wrap_add]
theorem tot_nu (R : Nat → Rp) (k : Nat) : (tot R k).nu = wrap64 (sm Rp.a8 R k) := by
  induction k with
  | zero => simp only [tot, t0, sm, wrap_zero]
  | succ k ih => simp only [tot, stp, sm, ih, wrap_add]
theorem tot_od (R : Nat → Rp) (k : Nat) : (tot R k).od = wrap64 (sm Rp.a9 R k) := by
  induction k with
  | zero => simp only [tot, t0, sm, wrap_zero]
  | succ k ih => simp only [tot, stp, sm, ih, wrap_add]
theorem tot_st (R : Nat → Rp) (k : Nat) : (tot R k).st = wrap64 (sm Rp.a10 R k) := by
  induction k with
  | zero => simp only [tot, t0, sm, wrap_zero]
  | succ k ih => simp only [tot, stp, sm, ih, wrap_add]
theorem tot_ms (R : Nat → Rp) (k : Nat) : (tot R k).ms = wrap64 (sm Rp.a13 R k) := by
  induction k with
  | zero => simp only [tot, t0, sm, wrap_zero]
  | succ k ih => simp only [tot, stp, sm, ih, wrap_add]
theorem tot_by (R : Nat → Rp) (k : Nat) : (tot R k).by' = wrap64 (sm Rp.a14 R k) := by
  induction k with
  | zero => simp only [tot, t0, sm, wrap_zero]
  | succ k ih => simp only [tot, stp, sm, ih, wrap_add]
theorem rs_sm (R : Nat → Rp) (k : Nat) : rs R k = sm Rp.a5 R k := by
  induction k with
  | zero => rfl
  | succ k ih => simp only [rs, sm, ih]

/-! ### The greatest lag -/
def LagIs (R : Nat → Rp) (k : Nat) (x : Nat) : Prop :=
  (x = 0 ∧ ∀ i, i < k → ¬ 0 < (R i).a5) ∨ ∃ m, Fl.Best Fl.gtB (fun i => 0 < (R i).a5) (fun i => (R i).lag) k m ∧ x = (R m).lag
theorem rs_zero {R : Nat → Rp} {n : Nat} (h : Dom R n) (k : Nat) (hk : k ≤ n) : rs R k = 0 ↔ ∀ i, i < k → ¬ 0 < (R i).a5 := by
  induction k with
  | zero => simp [rs]
  | succ k ih =>
    have h1 := ih (by omega)
    have h2 := (rs_mono h k (by omega)).1
    have h3 := h.reads k (by omega)
    simp only [rs]
    constructor
    · intro hz i hi
      by_cases hik : i = k
      · subst hik; omega
      · exact h1.1 (by omega) i (by omega)
    · intro hz
      have := h1.2 (fun i hi => hz i (by omega))
      have := hz k (by omega)
      omega
theorem tot_lag {R : Nat → Rp} {n : Nat} (h : Dom R n) (k : Nat) (hk : k ≤ n) : LagIs R k (tot R k).lag := by
  induction k with
  | zero => exact .inl ⟨rfl, fun i hi => by omega⟩
  | succ k ih =>
    have hz := rs_zero h k (by omega)
    have hrd := tot_rd R k
    have ih := ih (by omega)
    simp only [tot, stp]
    by_cases h5 : 0 < (R k).a5
    · rcases ih with ⟨hx, hnone⟩ | ⟨m, hm, hx⟩
      · have hq : lq (tot R k) (R k) = true := by simp [lq, h5, hrd, hz.2 hnone]
        rw [if_pos hq]
        exact .inr ⟨k, Fl.best_start Fl.beats_gt (h.lag k (by omega)) hnone h5, rfl⟩
      · have hne : ¬ (tot R k).rd = 0 := by
          rw [hrd]
          intro hzz
          exact hz.1 hzz m hm.lt hm.counts
        cases hg : Fl.gtB (R k).lag (tot R k).lag
        · have hq : lq (tot R k) (R k) = false := by simp [lq, h5, hne, hg]
          rw [if_neg (by rw [hq]; simp)]
          rw [hx] at hg ⊢
          exact .inr ⟨m, Fl.best_keep hm (fun _ => hg), rfl⟩
        · have hq : lq (tot R k) (R k) = true := by simp [lq, h5, hg]
          rw [if_pos hq]
          rw [hx] at hg
          exact .inr ⟨k, Fl.best_new Fl.beats_gt (fun i hi => h.lag i (by omega)) hm h5 hg, rfl⟩
    · have hq : lq (tot R k) (R k) = false := by simp [lq, h5]
      rw [if_neg (by rw [hq]; simp)]
      rcases ih with ⟨hx, hnone⟩ | ⟨m, hm, hx⟩
      · refine .inl ⟨hx, fun i hi => ?_⟩
        by_cases hik : i = k
        · subst hik; exact h5
        · exact hnone i (by omega)
      · exact .inr ⟨m, Fl.best_keep hm (fun hc => absurd hc h5), hx⟩
/-- The earliest of the greatest lag, by the model, is the total's. -/
theorem lag_found {R : Nat → Rp} {n : Nat} (h : Dom R n) {v : Int} (hv : LagRet R n v) :
    (v = -1 ∧ (tot R n).lag = 0) ∨ ∃ j : Nat, v = j ∧ j < n ∧ (tot R n).lag = (R j).lag := by
  have hl := tot_lag h n (Nat.le_refl _)
  rcases hv with ⟨rfl, hall⟩ | ⟨j, rfl, hj, hcj, hbj, hfirst⟩
  · left
    refine ⟨rfl, ?_⟩
    rcases hl with ⟨hx, _⟩ | ⟨m, hm, _⟩
    · exact hx
    · exfalso
      obtain ⟨q, hq, hcq, hgq⟩ := (btn_iff R m n).1 (hall m hm.lt hm.counts)
      have := hm.top q hq hcq
      rw [this] at hgq
      simp at hgq
  · right
    refine ⟨j, rfl, hj, ?_⟩
    rcases hl with ⟨_, hnone⟩ | ⟨m, hm, hx⟩
    · exact absurd hcj (hnone j hj)
    · have hjm := Fl.best_unique (j := j) hm hcj (fun i hi hci => by
        cases hg : Fl.gtB (R i).lag (R j).lag
        · rfl
        · have := (btn_iff R j n).2 ⟨i, hi, hci, hg⟩
          rw [hbj] at this
          simp at this) (fun i hi hci => (btn_iff R i n).1 (hfirst i hi hci))
      rw [hjm]; exact hx

/-! ### The least and the greatest value -/
def ValIs (g : Nat → Nat → Bool) (R : Nat → Rp) (k : Nat) (x : Nat) : Prop :=
  (x = 0 ∧ k = 0) ∨ ∃ m, Fl.Best g (fun _ => True) (fun i => (R i).vl) k m ∧ x = (R m).vl
theorem val_step {g : Nat → Nat → Bool} (hg : Fl.Beats g) {R : Nat → Rp} {n : Nat} (h : Dom R n) {k x : Nat} (hk : k < n) (hx : ValIs g R k x) : ValIs g R (k + 1) (if mq g k (R k).vl x = true then (R k).vl else x) := by
  rcases hx with ⟨rfl, rfl⟩ | ⟨m, hm, rfl⟩
  · rw [if_pos (by simp [mq])]
    exact .inr ⟨0, Fl.best_start hg (h.vl 0 hk) (fun i hi => by omega) trivial, rfl⟩
  · have hk0 : k ≠ 0 := by have := hm.lt; omega
    cases hb : g (R k).vl (R m).vl
    · rw [if_neg (by simp [mq, hk0, hb])]
      exact .inr ⟨m, Fl.best_keep hm (fun _ => hb), rfl⟩
    · rw [if_pos (by simp [mq, hb])]
      exact .inr ⟨k, Fl.best_new hg (fun i hi => h.vl i (by omega)) hm trivial hb, rfl⟩
theorem tot_mn {R : Nat → Rp} {n : Nat} (h : Dom R n) (k : Nat) (hk : k ≤ n) : ValIs Fl.ltB R k (tot R k).mn := by
  induction k with
  | zero => exact .inl ⟨rfl, rfl⟩
  | succ k ih => exact val_step Fl.beats_lt h hk (ih (by omega))
theorem tot_mx {R : Nat → Rp} {n : Nat} (h : Dom R n) (k : Nat) (hk : k ≤ n) : ValIs Fl.gtB R k (tot R k).mx := by
  induction k with
  | zero => exact .inl ⟨rfl, rfl⟩
  | succ k ih => exact val_step Fl.beats_gt h hk (ih (by omega))
theorem val_found {g : Nat → Nat → Bool} {R : Nat → Rp} {n x : Nat} (hx : ValIs g R n x) {v : Int} (hv : ExtRet g R n v) :
    (v = -1 ∧ x = 0) ∨ ∃ j : Nat, v = j ∧ j < n ∧ x = (R j).vl := by
  rcases hv with ⟨rfl, hall⟩ | ⟨j, rfl, hj, hbj, hfirst⟩
  · left
    refine ⟨rfl, ?_⟩
    rcases hx with ⟨hx, _⟩ | ⟨m, hm, _⟩
    · exact hx
    · exfalso
      obtain ⟨q, hq, hgq⟩ := (bx_iff g R m n).1 (hall m hm.lt)
      have := hm.top q hq trivial
      rw [this] at hgq
      simp at hgq
  · right
    refine ⟨j, rfl, hj, ?_⟩
    rcases hx with ⟨_, hn0⟩ | ⟨m, hm, hx⟩
    · omega
    · have hjm := Fl.best_unique (j := j) hm trivial (fun i hi _ => by
        cases hg : g (R i).vl (R j).vl
        · rfl
        · have := (bx_iff g R j n).2 ⟨i, hi, hg⟩
          rw [hbj] at this
          simp at this) (fun i hi _ => by
            obtain ⟨q, hq, hgq⟩ := (bx_iff g R i n).1 (hfirst i hi)
            exact ⟨q, hq, trivial, hgq⟩)
      rw [hjm]; exact hx
end Go.Proofs.Qxb6604119aMods
