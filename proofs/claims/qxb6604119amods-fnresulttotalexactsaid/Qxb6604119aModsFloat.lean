/- Floats as the law needs them: the order of the words that are no NaN is that of an integer key; the plain laws on 'the earliest that none beats'. No walk. -/
import GoSem.Core.Float
namespace Go.Proofs.Qxb6604119aMods
namespace Fl
open Ieee

def place : Datum → Int
  | .number _ _ i => i
  | _ => 0
def kc : Datum → Int
  | .infinity true => -1
  | .infinity false => 1
  | _ => 0
def kv (B : Int) : Datum → Int
  | .number s m i => signed s m (i - B).toNat
  | _ => 0

theorem signed_eq (s : Bool) (m a : Nat) : signed s m a = (if s then -((m : Int)) else (m : Int)) * 2 ^ a := by
  unfold signed
  cases s
  · simp [Nat.shiftLeft_eq]
  · simp [Nat.shiftLeft_eq, Int.neg_mul]
theorem signed_add (s : Bool) (m a d : Nat) : signed s m (a + d) = signed s m a * 2 ^ d := by
  rw [signed_eq, signed_eq, Int.pow_add, Int.mul_assoc]
theorem two_pos (d : Nat) : (0 : Int) < 2 ^ d := Int.pow_pos (by omega)
theorem mul_lt_iff (x y : Int) (d : Nat) : x * 2 ^ d < y * 2 ^ d ↔ x < y := by
  constructor
  · intro h
    exact Int.lt_of_mul_lt_mul_right h (Int.le_of_lt (two_pos d))
  · intro h
    exact Int.mul_lt_mul_of_pos_right h (two_pos d)

theorem cmp_lt (x y : Int) : compare x y = .lt ↔ x < y := by
  simp only [compare, compareOfLessAndEq]
  split
  · simp; omega
  · split
    · simp; omega
    · simp; omega
theorem cmp_gt (x y : Int) : compare x y = .gt ↔ y < x := by
  simp only [compare, compareOfLessAndEq]
  split
  · simp; omega
  · split
    · simp; omega
    · simp; omega
theorem cmp_eq (x y : Int) : compare x y = .eq ↔ x = y := by
  simp only [compare, compareOfLessAndEq]
  split
  · simp; omega
  · split
    · simp; omega
    · simp; omega

theorem kv_scale (B : Int) (s t : Bool) (m n : Nat) (i j : Int) (h1 : B ≤ i) (h2 : B ≤ j) :
    (signed s m (i - min i j).toNat < signed t n (j - min i j).toNat) ↔ signed s m (i - B).toNat < signed t n (j - B).toNat := by
  have e1 : (i - B).toNat = (i - min i j).toNat + (min i j - B).toNat := by omega
  have e2 : (j - B).toNat = (j - min i j).toNat + (min i j - B).toNat := by omega
  rw [e1, e2, signed_add, signed_add, mul_lt_iff]

theorem order_lt (d e : Datum) (hd : d.isNaN = false) (he : e.isNaN = false) (B : Int) (h1 : B ≤ place d) (h2 : B ≤ place e) :
    d.order e = some .lt ↔ (kc d < kc e ∨ (kc d = kc e ∧ kv B d < kv B e)) := by
  cases d with
  | nan _ _ => simp [Datum.isNaN] at hd
  | infinity s =>
    cases e with
    | nan _ _ => simp [Datum.isNaN] at he
    | infinity t => cases s <;> cases t <;> simp [Datum.order, kc, kv] <;> decide
    | number t n j => cases s <;> simp [Datum.order, kc, kv]
  | number s m i =>
    cases e with
    | nan _ _ => simp [Datum.isNaN] at he
    | infinity t => cases t <;> simp [Datum.order, kc, kv]
    | number t n j =>
      simp only [Datum.order, kc, kv, Option.some.injEq, cmp_lt]
      rw [kv_scale B s t m n i j h1 h2]
      simp

theorem order_gt (d e : Datum) (hd : d.isNaN = false) (he : e.isNaN = false) (B : Int) (h1 : B ≤ place d) (h2 : B ≤ place e) :
    d.order e = some .gt ↔ (kc e < kc d ∨ (kc e = kc d ∧ kv B e < kv B d)) := by
  cases d with
  | nan _ _ => simp [Datum.isNaN] at hd
  | infinity s =>
    cases e with
    | nan _ _ => simp [Datum.isNaN] at he
    | infinity t => cases s <;> cases t <;> simp [Datum.order, kc, kv] <;> decide
    | number t n j => cases s <;> simp [Datum.order, kc, kv]
  | number s m i =>
    cases e with
    | nan _ _ => simp [Datum.isNaN] at he
    | infinity t => cases t <;> simp [Datum.order, kc, kv]
    | number t n j =>
      simp only [Datum.order, kc, kv, Option.some.injEq, cmp_gt]
      have := kv_scale B t s n m j i h2 h1
      rw [show min j i = min i j by omega] at this
      rw [this]
      simp

/-! ### Words -/
def gtB (x y : Nat) : Bool := FloatKind.f64.format.order x y == some .gt
def ltB (x y : Nat) : Bool := FloatKind.f64.format.order x y == some .lt
/-- No NaN. -/
def nn (x : Nat) : Prop := FloatKind.f64.format.order x x = some .eq

theorem nn_read {x : Nat} (h : nn x) : (Ieee.double.read x).isNaN = false := by
  unfold nn at h
  simp only [FloatKind.format, Format.order] at h
  cases hr : Ieee.double.read x with
  | nan _ _ => rw [hr] at h; simp [Datum.order] at h
  | infinity _ => rfl
  | number _ _ _ => rfl

/-- A strict order of the words that are no NaN, in which 'neither beats' is an equivalence. -/
structure Beats (g : Nat → Nat → Bool) : Prop where
  irr : ∀ x, nn x → g x x = false
  p1 : ∀ a m k, nn a → nn m → nn k → g a m = false → g k m = true → g a k = false
  p2 : ∀ a m k, nn a → nn m → nn k → g a m = false → g k m = true → g k a = true

theorem gtB_iff {x y : Nat} (hx : nn x) (hy : nn y) (B : Int) (h1 : B ≤ place (Ieee.double.read x)) (h2 : B ≤ place (Ieee.double.read y)) :
    gtB x y = true ↔ (kc (Ieee.double.read y) < kc (Ieee.double.read x) ∨ (kc (Ieee.double.read y) = kc (Ieee.double.read x) ∧ kv B (Ieee.double.read y) < kv B (Ieee.double.read x))) := by
  unfold gtB
  rw [beq_iff_eq]
  exact order_gt _ _ (nn_read hx) (nn_read hy) B h1 h2
theorem ltB_iff {x y : Nat} (hx : nn x) (hy : nn y) (B : Int) (h1 : B ≤ place (Ieee.double.read x)) (h2 : B ≤ place (Ieee.double.read y)) :
    ltB x y = true ↔ (kc (Ieee.double.read x) < kc (Ieee.double.read y) ∨ (kc (Ieee.double.read x) = kc (Ieee.double.read y) ∧ kv B (Ieee.double.read x) < kv B (Ieee.double.read y))) := by
  unfold ltB
  rw [beq_iff_eq]
  exact order_lt _ _ (nn_read hx) (nn_read hy) B h1 h2

theorem low (x y z : Int) : ∃ B, B ≤ x ∧ B ≤ y ∧ B ≤ z := ⟨min x (min y z), by omega, by omega, by omega⟩

theorem beats_gt : Beats gtB where
  irr x hx := by
    obtain ⟨B, b1, _, _⟩ := low (place (Ieee.double.read x)) 0 0
    rw [← Bool.not_eq_true, gtB_iff hx hx B b1 b1]; omega
  p1 a m k ha hm hk h1 h2 := by
    obtain ⟨B, b1, b2, b3⟩ := low (place (Ieee.double.read a)) (place (Ieee.double.read m)) (place (Ieee.double.read k))
    rw [← Bool.not_eq_true, gtB_iff ha hm B b1 b2] at h1
    rw [gtB_iff hk hm B b3 b2] at h2
    rw [← Bool.not_eq_true, gtB_iff ha hk B b1 b3]; omega
  p2 a m k ha hm hk h1 h2 := by
    obtain ⟨B, b1, b2, b3⟩ := low (place (Ieee.double.read a)) (place (Ieee.double.read m)) (place (Ieee.double.read k))
    rw [← Bool.not_eq_true, gtB_iff ha hm B b1 b2] at h1
    rw [gtB_iff hk hm B b3 b2] at h2
    rw [gtB_iff hk ha B b3 b1]; omega
theorem beats_lt : Beats ltB where
  irr x hx := by
    obtain ⟨B, b1, _, _⟩ := low (place (Ieee.double.read x)) 0 0
    rw [← Bool.not_eq_true, ltB_iff hx hx B b1 b1]; omega
  p1 a m k ha hm hk h1 h2 := by
    obtain ⟨B, b1, b2, b3⟩ := low (place (Ieee.double.read a)) (place (Ieee.double.read m)) (place (Ieee.double.read k))
    rw [← Bool.not_eq_true, ltB_iff ha hm B b1 b2] at h1
    rw [ltB_iff hk hm B b3 b2] at h2
    rw [← Bool.not_eq_true, ltB_iff ha hk B b1 b3]; omega
  p2 a m k ha hm hk h1 h2 := by
    obtain ⟨B, b1, b2, b3⟩ := low (place (Ieee.double.read a)) (place (Ieee.double.read m)) (place (Ieee.double.read k))
    rw [← Bool.not_eq_true, ltB_iff ha hm B b1 b2] at h1
    rw [ltB_iff hk hm B b3 b2] at h2
    rw [ltB_iff hk ha B b3 b1]; omega

/-! ### One over a zero -/
theorem zero_read {a : Nat} (h : FloatKind.f64.format.order a 0 = some .eq) : ∃ s i, Ieee.double.read a = .number s 0 i := by
  simp only [FloatKind.format, Format.order] at h
  have r0 : Ieee.double.read 0 = .number false 0 (-1074) := by decide +kernel
  rw [r0] at h
  cases hr : Ieee.double.read a with
  | nan _ _ => rw [hr] at h; simp [Datum.order] at h
  | infinity s => rw [hr] at h; cases s <;> simp [Datum.order] at h
  | number s m i =>
    rw [hr] at h
    simp only [Datum.order, Option.some.injEq, cmp_eq, signed_eq] at h
    have hz : (if s = true then -(m : Int) else (m : Int)) * 2 ^ (i - min i (-1074)).toNat = 0 := by rw [h]; simp
    have hp := two_pos (i - min i (-1074)).toNat
    have hm : (if s = true then -(m : Int) else (m : Int)) = 0 := by
      rcases Int.mul_eq_zero.1 hz with h | h
      · exact h
      · omega
    refine ⟨s, i, ?_⟩
    have : m = 0 := by cases s <;> simp at hm <;> omega
    rw [this]
theorem one_over {a : Nat} (h : FloatKind.f64.format.order a 0 = some .eq) : ∃ v, FloatKind.f64.format.div 4607182418800017408 a = some v ∧ FloatKind.f64.format.order v v = some .eq := by
  obtain ⟨s, i, hr⟩ := zero_read h
  have r1 : Ieee.double.read 4607182418800017408 = .number false 4503599627370496 (-52) := by decide +kernel
  refine ⟨Ieee.double.write (.infinity s), ?_, ?_⟩
  · simp only [FloatKind.format, Format.div, hr, r1]
    cases s <;> simp [Datum.quotient]
  · cases s <;> decide +kernel
theorem nn_zero : nn 0 := by
  show FloatKind.f64.format.order 0 0 = some .eq
  decide +kernel

/-! ### The earliest that none beats -/
/-- Behind k rounds: m is the place of the running best among those that count ('c'). -/
structure Best (g : Nat → Nat → Bool) (c : Nat → Prop) (f : Nat → Nat) (k m : Nat) : Prop where
  lt : m < k
  counts : c m
  top : ∀ i, i < k → c i → g (f i) (f m) = false
  first : ∀ i, i < m → c i → g (f m) (f i) = true

theorem best_new {g : Nat → Nat → Bool} {c : Nat → Prop} {f : Nat → Nat} {k m : Nat} (hg : Beats g) (hn : ∀ i, i ≤ k → nn (f i)) (h : Best g c f k m) (hc : c k) (hb : g (f k) (f m) = true) : Best g c f (k + 1) k where
  lt := Nat.lt_succ_self _
  counts := hc
  top i hi hci := by
    by_cases hik : i = k
    · subst hik; exact hg.irr _ (hn _ (Nat.le_refl _))
    · exact hg.p1 (f i) (f m) (f k) (hn _ (by omega)) (hn _ (by have := h.lt; omega)) (hn _ (Nat.le_refl _)) (h.top i (by omega) hci) hb
  first i hi hci := hg.p2 (f i) (f m) (f k) (hn _ (by omega)) (hn _ (by have := h.lt; omega)) (hn _ (Nat.le_refl _)) (h.top i hi hci) hb
theorem best_keep {g : Nat → Nat → Bool} {c : Nat → Prop} {f : Nat → Nat} {k m : Nat} (h : Best g c f k m) (hb : c k → g (f k) (f m) = false) : Best g c f (k + 1) m where
  lt := by have := h.lt; omega
  counts := h.counts
  top i hi hci := by
    by_cases hik : i = k
    · subst hik; exact hb hci
    · exact h.top i (by omega) hci
  first := h.first
theorem best_start {g : Nat → Nat → Bool} {c : Nat → Prop} {f : Nat → Nat} {k : Nat} (hg : Beats g) (hn : nn (f k)) (hnone : ∀ i, i < k → ¬ c i) (hc : c k) : Best g c f (k + 1) k where
  lt := Nat.lt_succ_self _
  counts := hc
  top i hi hci := by
    by_cases hik : i = k
    · subst hik; exact hg.irr _ hn
    · exact absurd hci (hnone i (by omega))
  first i hi hci := absurd hci (hnone i hi)
/-- .. and it is the earliest that none beats. -/
theorem best_unique {g : Nat → Nat → Bool} {c : Nat → Prop} {f : Nat → Nat} {n m j : Nat} (h : Best g c f n m) (hc : c j) (htop : ∀ i, i < n → c i → g (f i) (f j) = false)
    (hfirst : ∀ i, i < j → c i → ∃ q, q < n ∧ c q ∧ g (f q) (f i) = true) : j = m := by
  rcases Nat.lt_trichotomy j m with hlt | heq | hgt
  · have := h.first j hlt hc
    rw [htop m h.lt h.counts] at this
    simp at this
  · exact heq
  · obtain ⟨q, hq, hcq, hgq⟩ := hfirst m hgt h.counts
    rw [h.top q hq hcq] at hgq
    simp at hgq
end Fl
end Go.Proofs.Qxb6604119aMods
