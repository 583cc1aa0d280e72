import Derived.Test.Qxb6602867aModsBack
import Derived.WalkSpells
import Derived.Deep.QuietTactic
import Derived.BigQuiet
namespace Go.Proofs.Qxb6602867aMods
open Go.RowKit Go.Deep
set_option linter.unusedVariables false

/-! ### The bound on the length -/
theorem bytes8 (a : Option Addr) (n c : Nat) (hn : n ≤ 9223372036854775807) (w : World) :
    Calls Trym.prog 8 #[.slice a n c] w fun e w' => e = .returned (.bool (decide (n ≤ 1048576))) ∧ w' = w := by
  by_cases h : n ≤ 1048576
  · go_enter Trym.func8, Trym.ntmps8
    go_wp2
    go_ret
    exact ⟨ret_bool (by simp [h]), rfl⟩
  · go_enter Trym.func8, Trym.ntmps8
    go_wp2
    go_ret
    exact ⟨ret_bool (by simp [h]), rfl⟩

/-! ### The copy -/
theorem add_at (b off i : Nat) : (⟨b, off, none⟩ : Addr).add i = ⟨b, off + i, none⟩ := by unfold Addr.add; split <;> simp_all
theorem clone_nil (w : World) : Calls Trym.prog 9 #[.slice none 0 0] w fun e w' => e = .returned (.slice none 0 0) ∧ w' = w := by
  have hq := fun wx => Lib.run_eql_slice_nil (P := Trym.prog) wx 22 5 none 0 0 0 0 Trym.underlying22
  go_enter Trym.func9, Trym.ntmps9
  go_wp2
  go_ret
  exact ⟨rfl, rfl⟩

theorem clone_step {w : World} {b n j : Nat} {g : Nat → Int} (hr : w.rowIs b 5 n (fun i => .int .u8 (if i < j then g i else 0))) :
    (w.setCell ⟨b, j, none⟩ (.int .u8 (g j))).rowIs b 5 n (fun i => .int .u8 (if i < j + 1 then g i else 0)) := by
  refine (hr.set j _).congr fun i hi => ?_
  by_cases h : i = j
  · subst h; simp
  · rw [if_neg h]
    by_cases h2 : i < j
    · rw [if_pos h2, if_pos (by omega)]
    · rw [if_neg h2, if_neg (by omega)]

set_option maxHeartbeats 400000 in
theorem clone_row (b off n c : Nat) (g : Nat → Int) (hn : n ≤ 1048576) (w : World) (hc : ∀ i, i < n → w.cell? ⟨b, off + i, none⟩ = some (.int .u8 (g i))) :
    Calls Trym.prog 9 #[.slice (some ⟨b, off, none⟩) n c] w fun e w' => e = .returned (.slice (some ⟨w.heap.size, 0, none⟩) n n) ∧ w'.rowIs w.heap.size 5 n (fun i => .int .u8 (g i)) ∧ Below w.heap.size w w' := by
  have hq := fun wx => Lib.run_eql_slice_nil (P := Trym.prog) wx 22 5 (some ⟨b, off, none⟩) n c 0 0 Trym.underlying22
  have hmk := run_make_row' (P := Trym.prog) 22 5 (.int .u8 0) 1 Trym.underlying22 Trym.info5 rfl .i64 .i64 n (by omega) (by omega)
  have Hc : Hid (∀ i, i < n → w.cell? ⟨b, off + i, none⟩ = some (.int .u8 (g i))) := hc
  clear hc
  go_enter Trym.func9, Trym.ntmps9
  go_wp2
  go_loopw [4] (fun t wr => ∃ j : Nat, j ≤ n ∧ t = .int .i64 j ∧ wr.rowIs w.heap.size 5 n (fun i => .int .u8 (if i < j then g i else 0)) ∧ Below w.heap.size w wr) (fun t _ => n - (intOf t).toNat)
  case atStart => exact ⟨0, by omega, rfl, (World.rowIs_made w (.int .u8 0) n 5).congr (fun i _ => by simp), (Below.refl _ _).alloc (Nat.le_refl _) _⟩
  case round =>
    obtain ⟨j, hj, rfl, hrow, hbel⟩ := hrel
    clear hmk hq
    by_cases hlt : j < n
    · have h0 := Hc.out j hlt
      have hck : wr.cell? ⟨b, off + j, none⟩ = some (.int .u8 (g j)) := by rw [hbel.cell (World.block_lt_of_cell? _ _ h0)]; exact h0
      have hco : wr.cell? ⟨w.heap.size, j, none⟩ = some (.int .u8 (if j < j then g j else 0)) := hrow.cell hlt
      have hfo := hrow.frozen j
      clear h0
      go_wp2
      go_roundw
      case rel => exact ⟨j + 1, by omega, by go_num, clone_step hrow, hbel.setCell (Nat.le_refl _) _⟩
      case measure => simp [intOf]; omega
    · have hjn : j = n := by omega
      subst hjn
      have HF : Hid (wr.rowIs w.heap.size 5 j (fun i => .int .u8 (g i))) := hrow.congr (fun i hi => by rw [if_pos hi])
      clear hrow
      go_wp2
      go_ret
      exact ⟨rfl, HF.out, hbel⟩

theorem clone_empty (x : Addr) (c : Nat) (g : Nat → Int) (w : World) :
    Calls Trym.prog 9 #[.slice (some x) 0 c] w fun e w' => e = .returned (.slice (some ⟨w.heap.size, 0, none⟩) 0 0) ∧ w'.rowIs w.heap.size 5 0 (fun i => .int .u8 (g i)) ∧ Below w.heap.size w w' := by
  have hq := fun wx => Lib.run_eql_slice_nil (P := Trym.prog) wx 22 5 (some x) 0 c 0 0 Trym.underlying22
  have hmk := run_make_row' (P := Trym.prog) 22 5 (.int .u8 0) 1 Trym.underlying22 Trym.info5 rfl .i64 .i64 0 (by omega) (by omega)
  have HR : Hid ((w.alloc (.cells (madeCells #[.int .u8 0] 0) 5)).rowIs w.heap.size 5 0 (fun i => .int .u8 (g i))) := (World.rowIs_made w (.int .u8 0) 0 5).congr (fun i hi => absurd hi (by omega))
  simp only [Int.cast_ofNat_Int] at hmk
  go_enter Trym.func9, Trym.ntmps9
  go_wp2
  go_loopw [4] (fun t wr => t = .int .i64 0 ∧ wr.rowIs w.heap.size 5 0 (fun i => .int .u8 (g i)) ∧ Below w.heap.size w wr) (fun _ _ => 0)
  case atStart => exact ⟨rfl, HR.out, (Below.refl _ _).alloc (Nat.le_refl _) _⟩
  case round =>
    obtain ⟨rfl, hrow, hbel⟩ := hrel
    go_wp2
    go_ret
    exact ⟨rfl, hrow, hbel⟩

/-! ### The same bytes? -/
theorem drewN2 (w : World) (a b : Nat) : (w.drewN a).drewN b = w.drewN (a + b) := by simp [World.drewN, Nat.add_assoc]
/-- What zzSameBytes has found behind j rounds. -/
def eqTo (g h : Nat → Int) (j : Nat) : Prop := ∀ i, i < j → g i = h i
theorem eqTo_step {g h : Nat → Int} {j : Nat} (e : eqTo g h j) (he : g j = h j) : eqTo g h (j + 1) := by
  intro i hi
  by_cases hij : i = j
  · subst hij; exact he
  · exact e i (by omega)

theorem same_len (a1 a2 : Option Addr) (n1 c1 n2 c2 : Nat) (h1 : n1 ≤ 1048576) (h2 : n2 ≤ 1048576) (hne : n1 ≠ n2) (w : World) :
    Calls Trym.prog 15 #[.slice a1 n1 c1, .slice a2 n2 c2] w fun e w' => e = .returned (.bool false) ∧ ∃ nq, w' = w.drewN nq := by
  go_enter Trym.func15, Trym.ntmps15
  go_wp2
  go_ret
  exact ⟨rfl, 0, rfl⟩

set_option maxHeartbeats 400000 in
theorem same_row (b1 b2 n c1 c2 : Nat) (g h : Nat → Int) (hn : n ≤ 1048576) (w : World)
    (hc1 : ∀ i, i < n → w.cell? ⟨b1, i, none⟩ = some (.int .u8 (g i))) (hc2 : ∀ i, i < n → w.cell? ⟨b2, i, none⟩ = some (.int .u8 (h i))) :
    Calls Trym.prog 15 #[.slice (some ⟨b1, 0, none⟩) n c1, .slice (some ⟨b2, 0, none⟩) n c2] w fun e w' => (∃ r : Bool, e = .returned (.bool r) ∧ (r = true ↔ eqTo g h n)) ∧ ∃ nq, w' = w.drewN nq := by
  have Hc1 : Hid (∀ i, i < n → w.cell? ⟨b1, i, none⟩ = some (.int .u8 (g i))) := hc1
  have Hc2 : Hid (∀ i, i < n → w.cell? ⟨b2, i, none⟩ = some (.int .u8 (h i))) := hc2
  clear hc1 hc2
  go_enter Trym.func15, Trym.ntmps15
  go_wp2
  go_loopw [5] (fun t wr => ∃ j nq : Nat, j ≤ n ∧ t = .int .i64 j ∧ Hid (eqTo g h j) ∧ wr = w.drewN nq) (fun t _ => n - (intOf t).toNat)
  case atStart => exact ⟨0, 0, by omega, rfl, fun i hi => absurd hi (by omega), rfl⟩
  case round =>
    obtain ⟨j, nq, hj, rfl, he, rfl⟩ := hrel
    by_cases hlt : j < n
    · have h1 := Hc1.out j hlt
      have h2 := Hc2.out j hlt
      by_cases heq : g j = h j
      · have HE : Hid (eqTo g h (j + 1)) := eqTo_step he.out heq
        rw [heq] at h1
        clear heq
        go_wp2
        go_quiet (fail)
        go_wp2
        go_roundw
        case rel => exact ⟨j + 1, _, by omega, by go_num, HE, rfl⟩
        case measure => simp [intOf]; omega
      · have HE : Hid (¬ eqTo g h n) := fun e => heq (e j hlt)
        go_wp2
        go_quiet (fail)
        go_wp2
        go_ret
        exact ⟨⟨_, rfl, by simp [HE.out]⟩, _, drewN2 _ _ _⟩
    · have hjn : j = n := by omega
      subst hjn
      go_wp2
      go_ret
      exact ⟨⟨_, rfl, by simp [he.out]⟩, _, rfl⟩

/-! ### The model: what its ways come to, outside the walk -/
theorem mV_no {zs : List Int} (h : Sh.mB zs = false) : Sh.mV zs = 0 := by simp [Sh.mV, h]
theorem m_bad {zs : List Int} {j : Nat} (hj : j < zs.length) (h : Sh.okB (zs.getD j 0) = false) : Sh.mB zs = false := by
  have : zs.all Sh.okB = false := by
    rw [List.all_eq_false]
    exact ⟨zs[j], List.getElem_mem hj, by rw [← getD_lt zs j hj, h]; simp⟩
  simp [Sh.mB, Sh.mOk, this]
theorem m_many {zs : List Int} {j : Nat} (h : 18 < (Sh.dgs (zs.take j)).length) : Sh.mB zs = false := by
  have e : Sh.dgs zs = Sh.dgs (zs.take j) ++ Sh.dgs (zs.drop j) := by
    unfold Sh.dgs
    rw [← List.filter_append, List.take_append_drop]
  have : ¬ (Sh.dgs zs).length ≤ 18 := by rw [e, List.length_append]; omega
  simp [Sh.mB, Sh.mOk, this]
theorem m_nonpos {zs : List Int} (h : ¬ 0 < Sh.val (Sh.dgs zs)) : Sh.mB zs = false := by simp [Sh.mB, h]
theorem m_ne {zs : List Int} (h : Sh.text (Sh.val (Sh.dgs zs)) ≠ zs) : Sh.mB zs = false := by simp [Sh.mB, h]
theorem m_yes {zs : List Int} (ha : zs.all Sh.okB = true) (hl : (Sh.dgs zs).length ≤ 18) (hp : 0 < Sh.val (Sh.dgs zs)) (ht : Sh.text (Sh.val (Sh.dgs zs)) = zs) : Sh.mB zs = true := by
  unfold Sh.mB Sh.mOk
  rw [ha, ht]
  simp [hl, hp]
/-- What the loop has gathered of the first j bytes. -/
structure MInv (zs : List Int) (j : Nat) (v : Int) (d : Nat) : Prop where
  v_is : v = Sh.val (Sh.dgs (zs.take j))
  d_is : d = (Sh.dgs (zs.take j)).length
  all_ok : (zs.take j).all Sh.okB = true
theorem m_start (zs : List Int) : MInv zs 0 0 0 := ⟨rfl, rfl, rfl⟩
theorem m_dot {zs : List Int} {j : Nat} {v : Int} {d : Nat} (h : MInv zs j v d) (hj : j < zs.length) (hd : zs.getD j 0 = 46) : MInv zs (j + 1) v d := by
  have e := take_snoc zs j hj
  refine ⟨?_, ?_, ?_⟩
  · rw [e, Sh.dgs_snoc, if_pos hd]; exact h.v_is
  · rw [e, Sh.dgs_snoc, if_pos hd]; exact h.d_is
  · rw [e, List.all_append, h.all_ok, hd]; rfl
theorem m_digit {zs : List Int} {j : Nat} {v : Int} {d : Nat} (h : MInv zs j v d) (hj : j < zs.length) (h1 : 48 ≤ zs.getD j 0) (h2 : zs.getD j 0 ≤ 57) : MInv zs (j + 1) (v * 10 + (zs.getD j 0 - 48)) (d + 1) := by
  have e := take_snoc zs j hj
  refine ⟨?_, ?_, ?_⟩
  · rw [e, Sh.dgs_snoc, if_neg (by omega), Sh.val_snoc, h.v_is]
  · rw [e, Sh.dgs_snoc, if_neg (by omega), List.length_append, h.d_is]; rfl
  · rw [e, List.all_append, h.all_ok, Bool.true_and, List.all_cons, List.all_nil, Bool.and_true, Sh.okB, (Sh.digB_iff _).2 ⟨h1, h2⟩, Bool.or_true]
theorem m_bound {zs : List Int} {j : Nat} {v : Int} {d : Nat} (h : MInv zs j v d) (hd : d ≤ 17) : 0 ≤ v ∧ v ≤ 100000000000000000 := by
  have := Sh.val_bd_of _ (Sh.dgs_all _ h.all_ok) 17 (by rw [← h.d_is]; exact hd)
  rw [← h.v_is] at this
  omega
theorem m_bound18 {zs : List Int} {j : Nat} {v : Int} {d : Nat} (h : MInv zs j v d) (hd : d ≤ 18) : 0 ≤ v ∧ v ≤ 1000000000000000000 := by
  have := Sh.val_bd_of _ (Sh.dgs_all _ h.all_ok) 18 (by rw [← h.d_is]; exact hd)
  rw [← h.v_is] at this
  omega

/-! ### The model's walk -/
theorem model_empty (a : Option Addr) (c : Nat) (w : World) :
    Calls Trym.prog 11 #[.slice a 0 c] w fun e w' => e = .returned (.tuple #[.int .i64 0, .bool false]) ∧ w' = w := by
  go_enter Trym.func11, Trym.ntmps11
  go_wp2
  go_loop [4, 5, 6] (fun v d i => v = .int .i64 0 ∧ d = .int .i64 0 ∧ i = .int .i64 0) (fun _ _ _ => 0)
  case atStart => exact ⟨rfl, rfl, rfl⟩
  case round =>
    obtain ⟨rfl, rfl, rfl⟩ := hrel
    go_wp2
    go_ret2
    exact ⟨rfl, rfl⟩

set_option maxHeartbeats 2000000 in
theorem model_row (b n c : Nat) (zs : List Int) (hn0 : zs.length = n) (hz : ∀ i, 0 ≤ zs.getD i 0 ∧ zs.getD i 0 ≤ 255) (hn : n ≤ 1048576) (w : World)
    (hr : w.rowIs b 5 n (fun i => .int .u8 (zs.getD i 0))) :
    Calls Trym.prog 11 #[.slice (some ⟨b, 0, none⟩) n c] w fun e w' => e = .returned (.tuple #[.int .i64 (Sh.mV zs), .bool (Sh.mB zs)]) ∧ Below w.heap.size w w' := by
  obtain ⟨g, HG⟩ : ∃ g : Nat → Int, Hid (∀ i, g i = zs.getD i 0) := ⟨_, fun i => rfl⟩
  have hg : ∀ i, 0 ≤ g i ∧ g i ≤ 255 := fun i => by rw [HG.out]; exact hz i
  have Hg : Hid (∀ i, 0 ≤ g i ∧ g i ≤ 255) := hg
  have HN : Hid (zs.length = n) := hn0
  have HR : Hid (w.rowIs b 5 n (fun i => .int .u8 (zs.getD i 0))) := hr
  have Hc : Hid (∀ i, i < n → w.cell? ⟨b, i, none⟩ = some (.int .u8 (g i))) := fun i hi => by rw [HG.out]; exact hr.cell hi
  clear hg hz hn0 hr
  go_enter Trym.func11, Trym.ntmps11
  go_wp2
  go_loop [4, 5, 6] (fun tv td ti => ∃ (j d : Nat) (v : Int), j ≤ n ∧ d ≤ 18 ∧ ti = .int .i64 j ∧ td = .int .i64 d ∧ tv = .int .i64 v ∧ Hid (MInv zs j v d)) (fun _ _ i => n - (intOf i).toNat)
  case atStart => exact ⟨0, 0, 0, by omega, by omega, rfl, rfl, rfl, m_start zs⟩
  case round =>
    obtain ⟨j, d, v, hj, hd18, rfl, rfl, rfl, HI⟩ := hrel
    by_cases hlt : j < n
    · have hck := Hc.out j hlt
      have hgj := Hg.out j
      have HJ : Hid (j < zs.length) := by show _ < _; rw [HN.out]; exact hlt
      by_cases h46 : g j = 46
      · have HS : Hid (MInv zs (j + 1) v d) := m_dot HI.out HJ.out (by rw [← HG.out]; exact h46)
        rw [h46] at hck
        clear h46 hgj
        go_wp2
        go_round
        case rel => exact ⟨j + 1, d, v, by omega, hd18, by go_num, rfl, rfl, HS⟩
        case measure => simp [intOf]; omega
      by_cases hlo : g j < 48
      · have HF : Hid (Sh.mB zs = false) := m_bad HJ.out (by rw [← HG.out]; simp [Sh.okB, Sh.digB]; omega)
        go_wp2
        go_ret2
        exact ⟨ret_two (mV_no HF.out).symm HF.out.symm, Below.refl _ _⟩
      by_cases hhi : 57 < g j
      · have HF : Hid (Sh.mB zs = false) := m_bad HJ.out (by rw [← HG.out]; simp [Sh.okB, Sh.digB]; omega)
        go_wp2
        go_ret2
        exact ⟨ret_two (mV_no HF.out).symm HF.out.symm, Below.refl _ _⟩
      have HS : Hid (MInv zs (j + 1) (v * 10 + (g j - 48)) (d + 1)) := by
        have := m_digit HI.out HJ.out (by rw [← HG.out]; omega) (by rw [← HG.out]; omega)
        rw [← HG.out] at this
        exact this
      by_cases hmany : 18 < d + 1
      · have HF : Hid (Sh.mB zs = false) := m_many (j := j + 1) (by rw [← HS.out.d_is]; exact hmany)
        go_wp2
        go_ret2
        exact ⟨ret_two (mV_no HF.out).symm HF.out.symm, Below.refl _ _⟩
      · have hv := m_bound HI.out (by omega)
        go_wp2
        go_round
        case rel => exact ⟨j + 1, d + 1, _, by omega, by omega, by go_num, by go_num, rfl, HS⟩
        case measure => simp [intOf]; omega
    · have hjn : j = n := by omega
      subst hjn
      have HT : Hid (zs.take j = zs) := by show _ = _; rw [← HN.out]; exact List.take_length
      have hv := m_bound18 HI.out hd18
      have HV : Hid (v = Sh.val (Sh.dgs zs)) := by have := HI.out.v_is; rwa [HT.out] at this
      have HA : Hid (zs.all Sh.okB = true) := by have := HI.out.all_ok; rwa [HT.out] at this
      have HD : Hid ((Sh.dgs zs).length ≤ 18) := by have := HI.out.d_is; rw [HT.out] at this; show _ ≤ _; omega
      by_cases hpos : v ≤ 0
      · have HF : Hid (Sh.mB zs = false) := m_nonpos (by rw [← HV.out]; omega)
        go_wp2
        go_ret2
        exact ⟨ret_two (mV_no HF.out).symm HF.out.symm, Below.refl _ _⟩
      · go_wp2_with fail
        refine (rend_any v (by omega) (by omega) w).mono ?_
        rintro e w1 ⟨b2, n2, rfl, hn2, hb2, hrow2, hbel⟩
        have HL2 : Hid (n2 = (Sh.text v).length) := hn2
        have hn20 : n2 ≤ 20 := by rw [hn2]; exact (Sh.text_len v (by omega) (by omega)).2
        have HR2 : Hid (w1.rowIs b2 5 n2 (fun i => .int .u8 ((Sh.text v).getD i 0))) := hrow2
        have HB : Hid (Below w.heap.size w w1) := hbel
        have HR1 : Hid (w1.rowIs b 5 j (fun i => .int .u8 (zs.getD i 0))) := HR.out.of_block (hbel.block b HR.out.lt)
        clear hn2 hrow2 hbel
        go_wp2_with fail
        by_cases hne : n2 = j
        · subst hne
          refine (same_row b2 b n2 n2 c (fun i => (Sh.text v).getD i 0) (fun i => zs.getD i 0) hn w1 (fun i hi => HR2.out.cell hi) (fun i hi => HR1.out.cell hi)).mono ?_
          rintro e w2 ⟨⟨r, rfl, hr⟩, nq, rfl⟩
          cases r
          · have HF : Hid (Sh.mB zs = false) := m_ne (by
              rw [← HV.out]
              intro h
              have : false = true := hr.2 (fun i hi => by rw [h])
              simp at this)
            clear hr
            go_wp2
            go_ret2
            exact ⟨ret_two (mV_no HF.out).symm HF.out.symm, below_drewN HB.out _⟩
          · have HE : Hid (Sh.text v = zs) := by
              have h1 := hr.1 rfl
              apply List.ext_getElem
              · rw [← HL2.out, HN.out]
              · intro i a1 a2
                have := h1 i (by rw [HL2.out]; exact a1)
                simpa [a1, a2] using this
            have HF : Hid (Sh.mB zs = true) := m_yes HA.out HD.out (by rw [← HV.out]; omega) (by rw [← HV.out]; exact HE.out)
            have HM : Hid (Sh.mV zs = v) := by show _ = _; rw [Sh.mV, if_pos HF.out, HV.out]
            clear hr
            go_wp2
            go_ret2
            exact ⟨ret_two HM.out.symm HF.out.symm, below_drewN HB.out _⟩
        · have HF : Hid (Sh.mB zs = false) := m_ne (by
            rw [← HV.out]
            intro h
            apply hne
            rw [HL2.out, h, HN.out])
          refine (same_len (some ⟨b2, 0, none⟩) (some ⟨b, 0, none⟩) n2 n2 j c (by omega) hn hne w1).mono ?_
          rintro e w2 ⟨rfl, nq, rfl⟩
          go_wp2
          go_ret2
          exact ⟨ret_two (mV_no HF.out).symm HF.out.symm, below_drewN HB.out _⟩

/-! ### The top -/
theorem zzPlain_empty (a : Option Addr) (c : Nat) (w : World) :
    Calls Trym.prog 10 #[.slice a 0 c] w fun e w' => e = .returned (.tuple #[.int .i64 0, .bool false]) ∧ w' = w := by
  go_enter Trym.func10, Trym.ntmps10
  go_wp2_with fail
  refine (ps_len a 0 c (by omega) w).mono ?_
  rintro e w' ⟨rfl, rfl⟩
  go_wp2
  go_ret2
  exact ⟨rfl, rfl⟩

theorem canon_big (a : Option Addr) (n c : Nat) (hn : n ≤ 9223372036854775807) (h : ¬ n ≤ 1048576) (w : World) :
    Calls Trym.prog 3 #[.slice a n c] w fun e w' => e = .returned (.bool true) ∧ Below w.heap.size w w' := by
  go_enter Trym.func3, Trym.ntmps3
  go_wp2_with fail
  refine (bytes8 a n c hn w).mono ?_
  rintro e w' ⟨rfl, rfl⟩
  rw [decide_eq_false h]
  go_wp2
  go_ret
  exact ⟨rfl, Below.refl _ _⟩

theorem canon_nil (w : World) :
    Calls Trym.prog 3 #[.slice none 0 0] w fun e w' => e = .returned (.bool true) ∧ Below w.heap.size w w' := by
  go_enter Trym.func3, Trym.ntmps3
  go_wp2_with fail
  refine (bytes8 none 0 0 (by omega) w).mono ?_
  rintro e w' ⟨rfl, rfl⟩
  rw [decide_eq_true (show 0 ≤ 1048576 by omega)]
  go_wp2_with fail
  refine (clone_nil w').mono ?_
  rintro e w1 ⟨rfl, rfl⟩
  go_wp2_with fail
  refine (zzPlain_empty none 0 w1).mono ?_
  rintro e w2 ⟨rfl, rfl⟩
  go_wp2_with fail
  refine (model_empty none 0 w2).mono ?_
  rintro e w3 ⟨rfl, rfl⟩
  go_wp2
  go_ret
  exact ⟨rfl, Below.refl _ _⟩

/-- The copy of a slice that is not nil. -/
theorem clone_some (x : Addr) (n c : Nat) (g : Nat → Int) (hn : n ≤ 1048576) (w : World) (hc : ∀ i, i < n → w.cell? (x.add i) = some (.int .u8 (g i))) :
    Calls Trym.prog 9 #[.slice (some x) n c] w fun e w' => e = .returned (.slice (some ⟨w.heap.size, 0, none⟩) n n) ∧ w'.rowIs w.heap.size 5 n (fun i => .int .u8 (g i)) ∧ Below w.heap.size w w' := by
  by_cases h0 : n = 0
  · subst h0
    exact clone_empty x c g w
  · obtain ⟨b, off, spot⟩ := x
    have hspot : spot = none := by simpa [Addr.add] using World.cell?_spot (hc 0 (by omega))
    subst hspot
    exact clone_row b off n c g hn w (fun i hi => by have := hc i hi; rwa [add_at] at this)

theorem canon_some (x : Addr) (n c : Nat) (zs : List Int) (hn0 : zs.length = n) (hz : ∀ i, 0 ≤ zs.getD i 0 ∧ zs.getD i 0 ≤ 255) (hn : n ≤ 1048576) (w : World)
    (hc : ∀ i, i < n → w.cell? (x.add i) = some (.int .u8 (zs.getD i 0))) :
    Calls Trym.prog 3 #[.slice (some x) n c] w fun e w' => e = .returned (.bool true) ∧ Below w.heap.size w w' := by
  have HN : Hid (zs.length = n) := hn0
  have HZ : Hid (∀ i, 0 ≤ zs.getD i 0 ∧ zs.getD i 0 ≤ 255) := hz
  have HC : Hid (∀ i, i < n → w.cell? (x.add i) = some (.int .u8 (zs.getD i 0))) := hc
  have HM : Hid (Sh.psB zs = Sh.mB zs ∧ Sh.psV zs = Sh.mV zs) := Sh.ps_is_model zs
  clear hn0 hz hc
  go_enter Trym.func3, Trym.ntmps3
  go_wp2_with fail
  refine (bytes8 (some x) n c (by omega) w).mono ?_
  rintro e w' ⟨rfl, rfl⟩
  rw [decide_eq_true hn]
  go_wp2_with fail
  refine (clone_some x n c (fun i => zs.getD i 0) hn w' HC.out).mono ?_
  rintro e w1 ⟨rfl, hrow, hbel⟩
  have HR : Hid (w1.rowIs w'.heap.size 5 n (fun i => .int .u8 (zs.getD i 0))) := hrow
  have HB : Hid (Below w'.heap.size w' w1) := hbel
  clear hrow hbel
  go_wp2_with fail
  refine (zzPlain_row w'.heap.size n n zs HN.out HZ.out hn (Nat.le_refl _) w1 HR.out).mono ?_
  rintro e w2 ⟨rfl, nq, rfl⟩
  have HR2 : Hid ((w1.drewN nq).rowIs w'.heap.size 5 n (fun i => .int .u8 (zs.getD i 0))) := HR.out
  have HB2 : Hid (Below w'.heap.size w' (w1.drewN nq)) := below_drewN HB.out nq
  clear HB HR
  generalize w1.drewN nq = w2 at *
  go_wp2_with fail
  refine (model_row w'.heap.size n n zs HN.out HZ.out hn w2 HR2.out).mono ?_
  rintro e w3 ⟨rfl, hb3⟩
  have HB3 : Hid (Below w'.heap.size w' w3) := HB2.out.trans (hb3.mono HB2.out.size)
  clear hb3
  rw [HM.out.1, HM.out.2]
  go_wp2
  go_ret
  exact ⟨ret_bool (by simp), HB3.out⟩
end Go.Proofs.Qxb6602867aMods
