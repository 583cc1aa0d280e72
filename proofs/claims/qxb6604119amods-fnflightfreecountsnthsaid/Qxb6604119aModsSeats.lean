import Derived.Test.Qxb6604119aModsRows
import Derived.WalkKit
import Derived.Deep.OwnRows
import Derived.WalkSpells
import Derived.Outline
namespace Go.Proofs.Qxb6604119aMods
open Go.RowKit Go.Deep
set_option linter.unusedVariables false

theorem ret_int {k : IntKind} {a b : Int} (h : a = b) : Ending.returned (.int k a) = .returned (.int k b) := by rw [h]
theorem ret_bool {a b : Bool} (h : a = b) : Ending.returned (.bool a) = .returned (.bool b) := by rw [h]
theorem Trym.info4 : (Trym.prog.info? 4).map (fun i => (i.zero, i.size, i.bytes)) = some (some (.bool false), 1, 1) := by kernel_rfl

/-! ### The plain counting -/
/-- The free seats among the first n. -/
def fr (B : Nat → Bool) : Nat → Nat
  | 0 => 0
  | n + 1 => fr B n + (if B n then 0 else 1)
theorem fr_le (B : Nat → Bool) (n : Nat) : fr B n ≤ n := by
  induction n with
  | zero => exact Nat.le_refl _
  | succ n ih => simp only [fr]; split <;> omega
theorem fr_mono (B : Nat → Bool) (a b : Nat) (h : a ≤ b) : fr B a ≤ fr B b := by
  induction b with
  | zero => have : a = 0 := by omega
            subst this; exact Nat.le_refl _
  | succ b ih =>
    by_cases hab : a = b + 1
    · subst hab; exact Nat.le_refl _
    · have := ih (by omega)
      simp only [fr]; omega

/-! ### The walks -/
set_option maxHeartbeats 400000 in
theorem free_any (bx b off n c : Nat) (B : Nat → Bool) (hn : n ≤ 1048576) (w : World) (hbx : w.cell? ⟨bx, 0, none⟩ = some (.slice (some ⟨b, off, none⟩) n c))
    (hc : ∀ i, i < n → w.cell? ⟨b, off + i, none⟩ = some (.bool (B i))) :
    Calls Trym.prog 22 #[.pointer (some ⟨bx, 0, none⟩)] w fun e w' => e = .returned (.int .i64 (fr B n)) ∧ w' = w := by
  have Hc : Hid (∀ i, i < n → w.cell? ⟨b, off + i, none⟩ = some (.bool (B i))) := hc
  clear hc
  go_enter Trym.func22, Trym.ntmps22
  go_wp2
  go_loop [3, 11] (fun t i => ∃ k : Nat, k ≤ n ∧ i = .int .i64 k ∧ t = .int .i64 (fr B k)) (fun _ i => n - (intOf i).toNat)
  case atStart => exact ⟨0, by omega, rfl, rfl⟩
  case round =>
    obtain ⟨k, hk, rfl, rfl⟩ := hrel
    have hf := fr_le B k
    by_cases hlt : k < n
    · have hck := Hc.out k hlt
      cases hB : B k
      · rw [hB] at hck
        have HB : Hid (fr B (k + 1) = fr B k + 1) := by simp [Hid, fr, hB]
        clear hB
        go_wp2
        go_round
        case rel => exact ⟨k + 1, by omega, by go_num, by rw [HB.out]; go_num⟩
        case measure => simp [intOf]; omega
      · rw [hB] at hck
        have HB : Hid (fr B (k + 1) = fr B k) := by simp [Hid, fr, hB]
        clear hB
        go_wp2
        go_round
        case rel => exact ⟨k + 1, by omega, by go_num, by rw [HB.out]⟩
        case measure => simp [intOf]; omega
    · have : k = n := by omega
      subst this
      go_wp2
      go_ret
      exact ⟨rfl, rfl⟩
theorem free_none (bx c : Nat) (a : Option Addr) (w : World) (hbx : w.cell? ⟨bx, 0, none⟩ = some (.slice a 0 c)) :
    Calls Trym.prog 22 #[.pointer (some ⟨bx, 0, none⟩)] w fun e w' => e = .returned (.int .i64 0) ∧ w' = w := by
  go_enter Trym.func22, Trym.ntmps22
  go_wp2
  go_loop [3, 11] (fun t i => i = .int .i64 0 ∧ t = .int .i64 0) (fun _ _ => 0)
  case atStart => exact ⟨rfl, rfl⟩
  case round =>
    obtain ⟨rfl, rfl⟩ := hrel
    go_wp2
    go_ret
    exact ⟨rfl, rfl⟩

/-! ### nth -/
def NthOk (B : Nat → Bool) (n : Nat) (k r : Int) : Prop :=
  (r = 0 ∧ (k < 0 ∨ (fr B n : Int) ≤ k)) ∨ (0 ≤ k ∧ ∃ p : Nat, p < n ∧ B p = false ∧ (fr B p : Int) = k ∧ r = p + 1)
/-- What a negative k comes to behind j seats: it stays below nought, or has run round to the far end. -/
def NegInv (j : Nat) (K : Int) : Prop := (-9223372036854775808 ≤ K ∧ K < 0) ∨ (9223372036854775807 - (j : Int) ≤ K ∧ K ≤ 9223372036854775807)
theorem neg_step {j : Nat} {K : Int} (h : NegInv j K) (hj : j ≤ 1048576) : NegInv (j + 1) (wrap64 (K - 1)) := by
  unfold NegInv wrap64 at *
  omega
theorem neg_keep {j : Nat} {K : Int} (h : NegInv j K) : NegInv (j + 1) K := by
  unfold NegInv at *
  omega
theorem neg_ne {j : Nat} {K : Int} (h : NegInv j K) (hj : j ≤ 1048576) : (K == 0) = false := by
  unfold NegInv at h
  rw [beq_eq_false_iff_ne]; omega

set_option maxHeartbeats 400000 in
theorem nth_pos (bx b off n c : Nat) (B : Nat → Bool) (k : Int) (hk0 : 0 ≤ k) (hk1 : k ≤ 9223372036854775807) (hn : n ≤ 1048576) (w : World) (hbx : w.cell? ⟨bx, 0, none⟩ = some (.slice (some ⟨b, off, none⟩) n c))
    (hc : ∀ i, i < n → w.cell? ⟨b, off + i, none⟩ = some (.bool (B i))) :
    Calls Trym.prog 21 #[.pointer (some ⟨bx, 0, none⟩), .int .i64 k] w fun e w' => (∃ r : Int, e = .returned (.int .i64 r) ∧ NthOk B n k r) ∧ w' = w := by
  have Hc : Hid (∀ i, i < n → w.cell? ⟨b, off + i, none⟩ = some (.bool (B i))) := hc
  clear hc
  go_enter Trym.func21, Trym.ntmps21
  go_wp2
  go_loop [1, 12] (fun t i => ∃ j : Nat, j ≤ n ∧ i = .int .i64 j ∧ (fr B j : Int) ≤ k ∧ t = .int .i64 (k - fr B j)) (fun _ i => n - (intOf i).toNat)
  case atStart => exact ⟨0, by omega, rfl, by simp [fr]; omega, by simp [fr]⟩
  case round =>
    obtain ⟨j, hj, rfl, hjk, rfl⟩ := hrel
    have hf := fr_le B j
    by_cases hlt : j < n
    · have hck := Hc.out j hlt
      cases hB : B j
      · rw [hB] at hck
        have HB : Hid (B j = false) := hB
        have HF : Hid (fr B (j + 1) = fr B j + 1) := by simp [Hid, fr, hB]
        clear hB
        by_cases hz : (fr B j : Int) = k
        · have HZ : Hid ((fr B j : Int) = k) := hz
          have hz' : (k - (fr B j : Int) == 0) = true := by rw [beq_iff_eq]; omega
          clear hz
          go_wp2
          go_ret
          exact ⟨⟨_, rfl, .inr ⟨hk0, j, hlt, HB.out, HZ.out, by omega⟩⟩, rfl⟩
        · have hz' : (k - (fr B j : Int) == 0) = false := by rw [beq_eq_false_iff_ne]; omega
          have hjk' : (fr B j : Int) + 1 ≤ k := by omega
          clear hz
          go_wp2
          go_round
          case rel => exact ⟨j + 1, by omega, by go_num, by rw [HF.out]; omega, by rw [HF.out]; go_num⟩
          case measure => simp [intOf]; omega
      · rw [hB] at hck
        have HF : Hid (fr B (j + 1) = fr B j) := by simp [Hid, fr, hB]
        clear hB
        go_wp2
        go_round
        case rel => exact ⟨j + 1, by omega, by go_num, by rw [HF.out]; omega, by rw [HF.out]⟩
        case measure => simp [intOf]; omega
    · have : j = n := by omega
      subst this
      go_wp2
      go_ret
      exact ⟨⟨0, rfl, .inl ⟨rfl, .inr hjk⟩⟩, rfl⟩

set_option maxHeartbeats 400000 in
theorem nth_neg (bx b off n c : Nat) (B : Nat → Bool) (k : Int) (hk0 : k < 0) (hk1 : -9223372036854775808 ≤ k) (hn : n ≤ 1048576) (w : World) (hbx : w.cell? ⟨bx, 0, none⟩ = some (.slice (some ⟨b, off, none⟩) n c))
    (hc : ∀ i, i < n → w.cell? ⟨b, off + i, none⟩ = some (.bool (B i))) :
    Calls Trym.prog 21 #[.pointer (some ⟨bx, 0, none⟩), .int .i64 k] w fun e w' => (∃ r : Int, e = .returned (.int .i64 r) ∧ NthOk B n k r) ∧ w' = w := by
  have Hc : Hid (∀ i, i < n → w.cell? ⟨b, off + i, none⟩ = some (.bool (B i))) := hc
  have HI : Hid (NegInv 0 k) := .inl ⟨hk1, hk0⟩
  have HK : Hid (k < 0) := hk0
  clear hc hk0 hk1
  go_enter Trym.func21, Trym.ntmps21
  go_wp2
  go_loop [1, 12] (fun t i => ∃ (j : Nat) (K : Int), j ≤ n ∧ i = .int .i64 j ∧ NegInv j K ∧ t = .int .i64 K) (fun _ i => n - (intOf i).toNat)
  case atStart => exact ⟨0, k, by omega, rfl, HI.out, rfl⟩
  case round =>
    obtain ⟨j, K, hj, rfl, hI, rfl⟩ := hrel
    have hne := neg_ne hI (by omega)
    have HN : Hid (NegInv (j + 1) (wrap64 (K - 1))) := neg_step hI (by omega)
    have HS : Hid (NegInv (j + 1) K) := neg_keep hI
    clear hI
    by_cases hlt : j < n
    · have hck := Hc.out j hlt
      cases hB : B j
      · rw [hB] at hck
        clear hB
        go_wp2
        go_round
        case rel => exact ⟨j + 1, _, by omega, by go_num, HN.out, rfl⟩
        case measure => simp [intOf]; omega
      · rw [hB] at hck
        clear hB
        go_wp2
        go_round
        case rel => exact ⟨j + 1, K, by omega, by go_num, HS.out, rfl⟩
        case measure => simp [intOf]; omega
    · have : j = n := by omega
      subst this
      go_wp2
      go_ret
      exact ⟨⟨0, rfl, .inl ⟨rfl, .inl HK.out⟩⟩, rfl⟩
theorem nth_none (bx c : Nat) (B : Nat → Bool) (a : Option Addr) (k : Int) (w : World) (hbx : w.cell? ⟨bx, 0, none⟩ = some (.slice a 0 c)) :
    Calls Trym.prog 21 #[.pointer (some ⟨bx, 0, none⟩), .int .i64 k] w fun e w' => (∃ r : Int, e = .returned (.int .i64 r) ∧ NthOk B 0 k r) ∧ w' = w := by
  have HK : Hid (NthOk B 0 k 0) := .inl ⟨rfl, by simp [fr]; omega⟩
  go_enter Trym.func21, Trym.ntmps21
  go_wp2
  go_loop [1, 12] (fun t i => i = .int .i64 0 ∧ t = .int .i64 k) (fun _ _ => 0)
  case atStart => exact ⟨rfl, rfl⟩
  case round =>
    obtain ⟨rfl, rfl⟩ := hrel
    go_wp2
    go_ret
    exact ⟨⟨0, rfl, HK.out⟩, rfl⟩

/-! ### Slices of bools: what the walks are told -/
/-- A slice of n bools B: empty, or a row of cells. -/
def Vo (w : World) (a : Option Addr) (n : Nat) (B : Nat → Bool) : Prop :=
  n = 0 ∨ ∃ b off, a = some ⟨b, off, none⟩ ∧ b < w.heap.size ∧ ∀ i, i < n → w.cell? ⟨b, off + i, none⟩ = some (.bool (B i))
theorem Vo.alloc {w : World} {a : Option Addr} {n : Nat} {B : Nat → Bool} (h : Vo w a n B) (o : Obj) : Vo (w.alloc o) a n B := by
  rcases h with h | ⟨b, off, rfl, hb, hc⟩
  · exact .inl h
  · exact .inr ⟨b, off, rfl, by simp; omega, fun i hi => by rw [World.cell?_alloc_lt _ _ _ (by exact hb)]; exact hc i hi⟩

theorem free_vo (bx n c : Nat) (a : Option Addr) (B : Nat → Bool) (hn : n ≤ 1048576) (w : World) (hbx : w.cell? ⟨bx, 0, none⟩ = some (.slice a n c)) (hv : Vo w a n B) :
    Calls Trym.prog 22 #[.pointer (some ⟨bx, 0, none⟩)] w fun e w' => e = .returned (.int .i64 (fr B n)) ∧ w' = w := by
  rcases hv with rfl | ⟨b, off, rfl, hb, hc⟩
  · exact free_none bx c a w hbx
  · exact free_any bx b off n c B hn w hbx hc
theorem nth_vo (bx n c : Nat) (a : Option Addr) (B : Nat → Bool) (k : Int) (hk0 : -9223372036854775808 ≤ k) (hk1 : k ≤ 9223372036854775807) (hn : n ≤ 1048576) (w : World) (hbx : w.cell? ⟨bx, 0, none⟩ = some (.slice a n c)) (hv : Vo w a n B) :
    Calls Trym.prog 21 #[.pointer (some ⟨bx, 0, none⟩), .int .i64 k] w fun e w' => (∃ r : Int, e = .returned (.int .i64 r) ∧ NthOk B n k r) ∧ w' = w := by
  rcases hv with rfl | ⟨b, off, rfl, hb, hc⟩
  · exact nth_none bx c B a k w hbx
  · by_cases hk : 0 ≤ k
    · exact nth_pos bx b off n c B k hk hk1 hn w hbx hc
    · exact nth_neg bx b off n c B k (by omega) hk0 hn w hbx hc

theorem zzFree_any (a : Option Addr) (n c : Nat) (B : Nat → Bool) (hn : n ≤ 1048576) (w : World) (hv : Vo w a n B) :
    Calls Trym.prog 19 #[.slice a n c] w fun e w' => e = .returned (.int .i64 (fr B n)) ∧ w' = w.alloc (.cells #[.slice a n c] 55) := by
  have HV : Hid (Vo (w.alloc (.cells #[.slice a n c] 55)) a n B) := hv.alloc _
  clear hv
  go_enter Trym.func19, Trym.ntmps19
  go_wp2_with fail
  refine (free_vo _ n c a B hn _ (by simp) HV.out).mono ?_
  rintro e w' ⟨rfl, rfl⟩
  go_wp2
  go_ret
  exact ⟨rfl, rfl⟩
theorem zzNth_any (a : Option Addr) (n c : Nat) (B : Nat → Bool) (k : Int) (hk0 : -9223372036854775808 ≤ k) (hk1 : k ≤ 9223372036854775807) (hn : n ≤ 1048576) (w : World) (hv : Vo w a n B) :
    Calls Trym.prog 17 #[.slice a n c, .int .i64 k] w fun e w' => (∃ r : Int, e = .returned (.int .i64 r) ∧ NthOk B n k r) ∧ w' = w.alloc (.cells #[.slice a n c] 55) := by
  have HV : Hid (Vo (w.alloc (.cells #[.slice a n c] 55)) a n B) := hv.alloc _
  clear hv
  go_enter Trym.func17, Trym.ntmps17
  go_wp2_with fail
  refine (nth_vo _ n c a B k hk0 hk1 hn _ (by simp) HV.out).mono ?_
  rintro e w' ⟨⟨r, rfl, hr⟩, rfl⟩
  go_wp2
  go_ret
  exact ⟨⟨r, rfl, hr⟩, rfl⟩

/-! ### The copy -/
theorem add_at (b off i : Nat) : (⟨b, off, none⟩ : Addr).add i = ⟨b, off + i, none⟩ := by unfold Addr.add; split <;> simp_all
/-- What the argument is: nil, or n bools at an address. -/
def Vi (w : World) (a : Option Addr) (n : Nat) (B : Nat → Bool) : Prop := (a = none ∧ n = 0) ∨ ∃ x, a = some x ∧ ∀ i, i < n → w.cell? (x.add i) = some (.bool (B i))
/-- The copy: nil, or a row of its own. -/
def Vr (w : World) (base : Nat) (a : Option Addr) (n : Nat) (B : Nat → Bool) : Prop := (a = none ∧ n = 0) ∨ ∃ b, a = some ⟨b, 0, none⟩ ∧ base ≤ b ∧ w.rowIs b 4 n (fun i => .bool (B i))
theorem Vr.vo {w : World} {base : Nat} {a : Option Addr} {n : Nat} {B : Nat → Bool} (h : Vr w base a n B) : Vo w a n B := by
  rcases h with ⟨_, h⟩ | ⟨b, rfl, _, hr⟩
  · exact .inl h
  · exact .inr ⟨b, 0, rfl, hr.lt, fun i hi => by rw [Nat.zero_add]; exact hr.cell hi⟩
theorem Vr.alloc {w : World} {base : Nat} {a : Option Addr} {n : Nat} {B : Nat → Bool} (h : Vr w base a n B) (o : Obj) : Vr (w.alloc o) base a n B := by
  rcases h with h | ⟨b, rfl, hb, hr⟩
  · exact .inl h
  · exact .inr ⟨b, rfl, hb, hr.alloc o⟩

theorem clone_nil (w : World) : Calls Trym.prog 16 #[.slice none 0 0] w fun e w' => e = .returned (.slice none 0 0) ∧ w' = w := by
  have hq := fun wx => Lib.run_eql_slice_nil (P := Trym.prog) wx 39 4 none 0 0 0 0 Trym.underlying39
  go_enter Trym.func16, Trym.ntmps16
  go_wp2
  go_ret
  exact ⟨rfl, rfl⟩

theorem clone_step {w : World} {b n j : Nat} {B : Nat → Bool} (hr : w.rowIs b 4 n (fun i => .bool (if i < j then B i else false))) :
    (w.setCell ⟨b, j, none⟩ (.bool (B j))).rowIs b 4 n (fun i => .bool (if i < j + 1 then B i else false)) := by
  refine (hr.set j _).congr fun i hi => ?_
  by_cases h : i = j
  · subst h; simp
  · rw [if_neg h]
    by_cases h2 : i < j
    · rw [if_pos h2, if_pos (by omega)]
    · rw [if_neg h2, if_neg (by omega)]

set_option maxHeartbeats 400000 in
theorem clone_row (b off n c : Nat) (B : Nat → Bool) (hn : n ≤ 1048576) (w : World) (hc : ∀ i, i < n → w.cell? ⟨b, off + i, none⟩ = some (.bool (B i))) :
    Calls Trym.prog 16 #[.slice (some ⟨b, off, none⟩) n c] w fun e w' => e = .returned (.slice (some ⟨w.heap.size, 0, none⟩) n n) ∧ w'.rowIs w.heap.size 4 n (fun i => .bool (B i)) ∧ Below w.heap.size w w' := by
  have hq := fun wx => Lib.run_eql_slice_nil (P := Trym.prog) wx 39 4 (some ⟨b, off, none⟩) n c 0 0 Trym.underlying39
  have hmk := run_make_row' (P := Trym.prog) 39 4 (.bool false) 1 Trym.underlying39 Trym.info4 rfl .i64 .i64 n (by omega) (by omega)
  have Hc : Hid (∀ i, i < n → w.cell? ⟨b, off + i, none⟩ = some (.bool (B i))) := hc
  clear hc
  go_enter Trym.func16, Trym.ntmps16
  go_wp2
  go_loopw [4] (fun t wr => ∃ j : Nat, j ≤ n ∧ t = .int .i64 j ∧ wr.rowIs w.heap.size 4 n (fun i => .bool (if i < j then B i else false)) ∧ Below w.heap.size w wr) (fun t _ => n - (intOf t).toNat)
  case atStart => exact ⟨0, by omega, rfl, (World.rowIs_made w (.bool false) n 4).congr (fun i _ => by simp), (Below.refl _ _).alloc (Nat.le_refl _) _⟩
  case round =>
    obtain ⟨j, hj, rfl, hrow, hbel⟩ := hrel
    clear hmk hq
    by_cases hlt : j < n
    · have h0 := Hc.out j hlt
      have hck : wr.cell? ⟨b, off + j, none⟩ = some (.bool (B j)) := by rw [hbel.cell (World.block_lt_of_cell? _ _ h0)]; exact h0
      have hco : wr.cell? ⟨w.heap.size, j, none⟩ = some (.bool (if j < j then B j else false)) := hrow.cell hlt
      have hfo := hrow.frozen j
      clear h0
      go_wp2
      go_roundw
      case rel => exact ⟨j + 1, by omega, by go_num, clone_step hrow, hbel.setCell (Nat.le_refl _) _⟩
      case measure => simp [intOf]; omega
    · have hjn : j = n := by omega
      subst hjn
      have HF : Hid (wr.rowIs w.heap.size 4 j (fun i => .bool (B i))) := hrow.congr (fun i hi => by rw [if_pos hi])
      clear hrow
      go_wp2
      go_ret
      exact ⟨rfl, HF.out, hbel⟩

theorem clone_empty (x : Addr) (c : Nat) (B : Nat → Bool) (w : World) :
    Calls Trym.prog 16 #[.slice (some x) 0 c] w fun e w' => e = .returned (.slice (some ⟨w.heap.size, 0, none⟩) 0 0) ∧ w'.rowIs w.heap.size 4 0 (fun i => .bool (B i)) ∧ Below w.heap.size w w' := by
  have hq := fun wx => Lib.run_eql_slice_nil (P := Trym.prog) wx 39 4 (some x) 0 c 0 0 Trym.underlying39
  have hmk := run_make_row' (P := Trym.prog) 39 4 (.bool false) 1 Trym.underlying39 Trym.info4 rfl .i64 .i64 0 (by omega) (by omega)
  have HR : Hid ((w.alloc (.cells (madeCells #[.bool false] 0) 4)).rowIs w.heap.size 4 0 (fun i => .bool (B i))) := (World.rowIs_made w (.bool false) 0 4).congr (fun i hi => absurd hi (by omega))
  simp only [Int.cast_ofNat_Int] at hmk
  go_enter Trym.func16, Trym.ntmps16
  go_wp2
  go_loopw [4] (fun t wr => t = .int .i64 0 ∧ wr.rowIs w.heap.size 4 0 (fun i => .bool (B i)) ∧ Below w.heap.size w wr) (fun _ _ => 0)
  case atStart => exact ⟨rfl, HR.out, (Below.refl _ _).alloc (Nat.le_refl _) _⟩
  case round =>
    obtain ⟨rfl, hrow, hbel⟩ := hrel
    go_wp2
    go_ret
    exact ⟨rfl, hrow, hbel⟩

/-- The copy of whatever came in. -/
theorem clone_any (a : Option Addr) (n c : Nat) (B : Nat → Bool) (hn : n ≤ 1048576) (hc0 : a = none → c = 0) (w : World) (hv : Vi w a n B) :
    Calls Trym.prog 16 #[.slice a n c] w fun e w' => (∃ a', e = .returned (.slice a' n n) ∧ Vr w' w.heap.size a' n B) ∧ Below w.heap.size w w' := by
  rcases hv with ⟨rfl, rfl⟩ | ⟨x, rfl, hc⟩
  · obtain rfl := hc0 rfl
    refine (clone_nil w).mono ?_
    rintro e w' ⟨rfl, rfl⟩
    exact ⟨⟨none, rfl, .inl ⟨rfl, rfl⟩⟩, Below.refl _ _⟩
  · by_cases h0 : n = 0
    · subst h0
      refine (clone_empty x c B w).mono ?_
      rintro e w' ⟨rfl, hr, hb⟩
      exact ⟨⟨_, rfl, .inr ⟨_, rfl, Nat.le_refl _, hr⟩⟩, hb⟩
    · obtain ⟨b, off, spot⟩ := x
      have hspot : spot = none := by simpa [Addr.add] using World.cell?_spot (hc 0 (by omega))
      subst hspot
      refine (clone_row b off n c B hn w (fun i hi => by have := hc i hi; rwa [add_at] at this)).mono ?_
      rintro e w' ⟨rfl, hr, hb⟩
      exact ⟨⟨_, rfl, .inr ⟨_, rfl, Nat.le_refl _, hr⟩⟩, hb⟩
end Go.Proofs.Qxb6604119aMods
