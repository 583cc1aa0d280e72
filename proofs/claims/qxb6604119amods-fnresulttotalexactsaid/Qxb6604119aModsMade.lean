import Derived.Test.Qxb6604119aModsReps
import Derived.Deep.Light
namespace Go.Proofs.Qxb6604119aMods
open Go.RowKit Go.Deep
set_option linter.unusedVariables false
attribute [local go_sem] run_store_float

theorem info26 : (Trym.prog.info? 26).map (fun i => (i.zero.isSome, i.size, i.bytes)) = some (true, 15, 128) := by kernel_rfl
theorem info46 : (Trym.prog.info? 46).map (fun i => (i.zero.isSome, i.size, i.bytes)) = some (true, 15, 128) := by kernel_rfl

/-- 'make' of n records of fifteen cells: a block of 15 n cells, whatever they hold. -/
theorem make15 (t e : TypeId) (ht : Trym.prog.underlying t = some (.slice e)) (hi : (Trym.prog.info? e).map (fun i => (i.zero.isSome, i.size, i.bytes)) = some (true, 15, 128)) (n : Nat) (hn : n ≤ 4096) :
    ∃ Z : Array Value, Z.size = n * 15 ∧ ∀ w : World, (Instr.makeSlice t (.int .i64 (n : Int)) (.int .i64 (n : Int))).run Trym.prog w = .ok (.slice (some ⟨w.heap.size, 0, none⟩) n n) (w.alloc (.cells Z e)) := by
  obtain ⟨i, hi, hzz⟩ := Option.map_eq_some_iff.1 hi
  simp only [Prod.mk.injEq] at hzz
  obtain ⟨hz, hs, hb⟩ := hzz
  obtain ⟨z, hz⟩ := Option.isSome_iff_exists.1 hz
  refine ⟨madeCells z.cells (n * 15), by rw [size_madeCells], fun w => ?_⟩
  have hr := run_make (P := Trym.prog) w t e i z ht hi hz .i64 .i64 n n (by omega) (Int.le_refl _) (by rw [hb]; omega) (by omega)
  simp only [Int.toNat_natCast, hs] at hr
  exact hr

theorem row_born (w : World) (Z : Array Value) (e : TypeId) : ∃ f, (w.alloc (.cells Z e)).rowIs w.heap.size e Z.size f :=
  ⟨fun i => Z.getD i undef, World.rowIs_alloc w Z e _ (fun i hi => by simp [hi])⟩

/-- A stretch of cells is stored into a row. -/
theorem row_setCells {b : Nat} {t : TypeId} {n : Nat} : ∀ (vs : List Value) (o : Nat) (w : World) (f : Nat → Value), w.rowIs b t n f →
    ∃ f', (w.setCells b o vs).rowIs b t n f' ∧ (∀ i, i < o → f' i = f i) ∧ ∀ j v, vs[j]? = some v → f' (o + j) = v
  | [], o, w, f, h => ⟨f, h, fun _ _ => rfl, fun j v hj => by simp at hj⟩
  | x :: r, o, w, f, h => by
    obtain ⟨f', h1, h2, h3⟩ := row_setCells r (o + 1) _ _ (h.set o x)
    refine ⟨f', h1, fun i hi => ?_, fun j v hj => ?_⟩
    · rw [h2 i (by omega), if_neg (by omega)]
    · cases j with
      | zero =>
        simp at hj
        rw [Nat.add_zero, h2 o (by omega), if_pos rfl, hj]
      | succ j =>
        have := h3 j v (by simpa using hj)
        rwa [show o + (j + 1) = o + 1 + j by omega]

/-- The first k records of a row of n. -/
def Filled (w : World) (b : Nat) (e : TypeId) (n : Nat) (R : Nat → Rp) (k : Nat) : Prop :=
  ∃ f, w.rowIs b e (n * 15) f ∧ ∀ i, i < k → ∀ j v, (R i).cs[j]? = some v → f (i * 15 + j) = v
theorem filled_start {w : World} {b : Nat} {e : TypeId} {n : Nat} {R : Nat → Rp} {f : Nat → Value} (h : w.rowIs b e (n * 15) f) : Filled w b e n R 0 := ⟨f, h, fun i hi => by omega⟩
theorem cs_len (r : Rp) : r.cs.length = 15 := rfl
theorem filled_step {w : World} {b : Nat} {e : TypeId} {n : Nat} {R : Nat → Rp} {k : Nat} (h : Filled w b e n R k) : Filled (w.setCells b (k * 15) (R k).cs) b e n R (k + 1) := by
  obtain ⟨f, hr, hf⟩ := h
  obtain ⟨f', h1, h2, h3⟩ := row_setCells (R k).cs (k * 15) w f hr
  refine ⟨f', h1, fun i hi j v hj => ?_⟩
  by_cases hik : i = k
  · subst hik; exact h3 j v hj
  · have hj' : j < 15 := by
      have := (List.getElem?_eq_some_iff.1 hj).1
      rwa [cs_len] at this
    rw [h2 _ (by omega)]
    exact hf i (by omega) j v hj
theorem Filled.vg {w : World} {b : Nat} {e : TypeId} {n : Nat} {R : Nat → Rp} (h : Filled w b e n R n) : Vg w (some ⟨b, 0, none⟩) n R := by
  obtain ⟨f, hr, hf⟩ := h
  refine .inr ⟨b, 0, rfl, hr.lt, fun i hi j v hj => ?_⟩
  have hj' : j < 15 := by
    have := (List.getElem?_eq_some_iff.1 hj).1
    rwa [cs_len] at this
  rw [show 0 + i * 15 + j = i * 15 + j by omega, hr.cell (by omega), hf i hi j v hj]
theorem Filled.alloc {w : World} {b : Nat} {e : TypeId} {n : Nat} {R : Nat → Rp} {k : Nat} (h : Filled w b e n R k) (o : Obj) : Filled (w.alloc o) b e n R k := by
  obtain ⟨f, hr, hf⟩ := h
  exact ⟨f, hr.alloc o, hf⟩
theorem Filled.lt {w : World} {b : Nat} {e : TypeId} {n : Nat} {R : Nat → Rp} {k : Nat} (h : Filled w b e n R k) : b < w.heap.size := h.choose_spec.1.lt
theorem Filled.cells {w : World} {b : Nat} {e : TypeId} {n : Nat} {R : Nat → Rp} {k : Nat} (h : Filled w b e n R k) (hk : k < n) : ∃ g : Nat → Value,
    (w.cell? ⟨b, k * 15, none⟩ = some (g 0) ∧ w.cell? ⟨b, k * 15 + 1, none⟩ = some (g 1) ∧ w.cell? ⟨b, k * 15 + 2, none⟩ = some (g 2) ∧ w.cell? ⟨b, k * 15 + 3, none⟩ = some (g 3) ∧ w.cell? ⟨b, k * 15 + 4, none⟩ = some (g 4) ∧
     w.cell? ⟨b, k * 15 + 5, none⟩ = some (g 5) ∧ w.cell? ⟨b, k * 15 + 6, none⟩ = some (g 6) ∧ w.cell? ⟨b, k * 15 + 7, none⟩ = some (g 7) ∧ w.cell? ⟨b, k * 15 + 8, none⟩ = some (g 8) ∧ w.cell? ⟨b, k * 15 + 9, none⟩ = some (g 9) ∧
     w.cell? ⟨b, k * 15 + 10, none⟩ = some (g 10) ∧ w.cell? ⟨b, k * 15 + 11, none⟩ = some (g 11) ∧ w.cell? ⟨b, k * 15 + 12, none⟩ = some (g 12) ∧ w.cell? ⟨b, k * 15 + 13, none⟩ = some (g 13) ∧ w.cell? ⟨b, k * 15 + 14, none⟩ = some (g 14)) ∧
    ∀ i, w.frozen? ⟨b, i, none⟩ = false := by
  obtain ⟨f, hr, hf⟩ := h
  exact ⟨fun j => f (k * 15 + j), ⟨hr.cell (by omega), hr.cell (by omega), hr.cell (by omega), hr.cell (by omega), hr.cell (by omega), hr.cell (by omega), hr.cell (by omega), hr.cell (by omega), hr.cell (by omega), hr.cell (by omega), hr.cell (by omega), hr.cell (by omega), hr.cell (by omega), hr.cell (by omega), hr.cell (by omega)⟩, fun i => hr.frozen i⟩
theorem below_setCells {B : Nat} {a : World} {b : Nat} (hb : B ≤ b) : ∀ (vs : List Value) (o : Nat) (w : World), Below B a w → Below B a (w.setCells b o vs)
  | [], _, _, h => h
  | v :: r, o, w, h => below_setCells hb r (o + 1) _ (h.setCell (by exact hb) v)

set_option maxHeartbeats 2000000 in
theorem cloneReps_some (x : Addr) (n c : Nat) (R : Nat → Rp) (hn : n ≤ 4096) (w : World) (hv : Vg w (some x) n R) :
    Calls Trym.prog 9 #[.slice (some x) n c] w fun e w' => e = .returned (.slice (some ⟨w.heap.size, 0, none⟩) n n) ∧ Vg w' (some ⟨w.heap.size, 0, none⟩) n R ∧ Below w.heap.size w w' := by
  have hq := fun wx => Lib.run_eql_slice_nil (P := Trym.prog) wx 22 26 (some x) n c 0 0 Trym.underlying22
  obtain ⟨Z, hZ, hmk⟩ := make15 22 26 Trym.underlying22 info26 n hn
  have HV : Hid (Vg w (some x) n R) := hv
  have HF : Hid (Filled (w.alloc (.cells Z 26)) w.heap.size 26 n R 0) := by
    obtain ⟨f, hf⟩ := row_born w Z 26
    rw [hZ] at hf
    exact filled_start hf
  clear hv hZ
  go_enter Trym.func9, Trym.ntmps9
  go_wp2
  go_loopw [4] (fun t wr => ∃ k : Nat, k ≤ n ∧ t = .int .i64 k ∧ Hid (Filled wr w.heap.size 26 n R k) ∧ Below w.heap.size w wr) (fun t _ => n - (intOf t).toNat)
  case atStart => exact ⟨0, by omega, rfl, HF, (Below.refl _ _).alloc (Nat.le_refl _) _⟩
  case round =>
    obtain ⟨k, hk, rfl, HK, hbel⟩ := hrel
    clear hmk hq HF
    by_cases hlt : k < n
    · obtain ⟨b, off, hx, hb, hr⟩ := HV.out.at hlt
      simp only [Option.some.injEq] at hx
      subst hx
      have hr' : wr.rangeAt b (off + k * 15) (R k).cs := fun j v hj => by rw [hbel.cell (by exact hb)]; exact hr j v hj
      obtain ⟨r, hR⟩ : ∃ r, r = R k := ⟨_, rfl⟩
      rw [← hR] at hr'
      obtain ⟨c0, c1, c2, c3, c4, c5, c6, c7, c8, c9, c10, c11, c12, c13, c14⟩ := at_all hr'
      obtain ⟨g, ⟨d0, d1, d2, d3, d4, d5, d6, d7, d8, d9, d10, d11, d12, d13, d14⟩, hfz⟩ := HK.out.cells hlt
      have HR : Hid (r = R k) := hR
      have HN : Hid (Filled (wr.setCells w.heap.size (k * 15) r.cs) w.heap.size 26 n R (k + 1)) := by
        rw [hR]; exact filled_step HK.out
      have HB : Hid (Below w.heap.size w (wr.setCells w.heap.size (k * 15) r.cs)) := below_setCells (Nat.le_refl _) _ _ _ hbel
      have hne : b ≠ w.heap.size := by omega
      clear hR hr hr' hbel HK
      go_wp2
      go_roundw
      case rel => exact ⟨k + 1, by omega, by go_num, HN, HB⟩
      case measure => simp [intOf]; omega
    · have hkn : k = n := by omega
      subst hkn
      have HG : Hid (Vg wr (some ⟨w.heap.size, 0, none⟩) k R) := HK.out.vg
      have HB : Hid (Below w.heap.size w wr) := hbel
      clear hbel HK
      go_wp2
      go_ret
      exact ⟨rfl, HG.out, HB.out⟩

theorem cloneReps_nil (R : Nat → Rp) (w : World) :
    Calls Trym.prog 9 #[.slice none 0 0] w fun e w' => e = .returned (.slice none 0 0) ∧ w' = w := by
  have hq := fun wx => Lib.run_eql_slice_nil (P := Trym.prog) wx 22 26 none 0 0 0 0 Trym.underlying22
  go_enter Trym.func9, Trym.ntmps9
  go_wp2
  go_ret
  exact ⟨rfl, rfl⟩

/-! ### simB1Result -/
/-- A pointer to a result whose replicas are the n records. -/
def ResEnd (R : Nat → Rp) (n : Nat) (e : Ending) (w' : World) : Prop :=
  ∃ bx rs, e = .returned (.pointer (some ⟨bx, 0, none⟩)) ∧ w'.cell? ⟨bx, 1, none⟩ = some (.slice rs n n) ∧ Vg w' rs n R

theorem result_nil (s : ByteArray) (R : Nat → Rp) (w : World) :
    Calls Trym.prog 10 #[.string s, .slice none 0 0] w fun e w' => ResEnd R 0 e w' ∧ Below w.heap.size w w' := by
  have hq := fun wx => run_neq_slice_nil_any (P := Trym.prog) wx 22 26 none 0 0 0 0 Trym.underlying22
  go_enter Trym.func10, Trym.ntmps10
  go_wp2
  go_ret
  exact ⟨⟨_, none, rfl, by simp, .inl rfl⟩, (Below.refl _ _).alloc (Nat.le_refl _) _⟩

set_option maxHeartbeats 4000000 in
theorem result_some (s : ByteArray) (x : Addr) (n : Nat) (R : Nat → Rp) (hn : n ≤ 4096) (w : World) (hv : Vg w (some x) n R) :
    Calls Trym.prog 10 #[.string s, .slice (some x) n n] w fun e w' => ResEnd R n e w' ∧ Below w.heap.size w w' := by
  have hq := fun wx => run_neq_slice_nil_any (P := Trym.prog) wx 22 26 (some x) n n 0 0 Trym.underlying22
  obtain ⟨Z, hZ, hmk⟩ := make15 44 46 Trym.underlying44 info46 n hn
  have HV : Hid (Vg w (some x) n R) := hv
  have HF : Hid (Filled (w.alloc (.cells Z 46)) w.heap.size 46 n R 0) := by
    obtain ⟨f, hf⟩ := row_born w Z 46
    rw [hZ] at hf
    exact filled_start hf
  clear hv hZ
  go_enter Trym.func10, Trym.ntmps10
  go_wp2
  go_loopw [6] (fun t wr => ∃ k : Nat, k ≤ n ∧ t = .int .i64 k ∧ Hid (Filled wr w.heap.size 46 n R k) ∧ Below w.heap.size w wr) (fun t _ => n - (intOf t).toNat)
  case atStart => exact ⟨0, by omega, rfl, HF, (Below.refl _ _).alloc (Nat.le_refl _) _⟩
  case round =>
    obtain ⟨k, hk, rfl, HK, hbel⟩ := hrel
    clear hmk hq HF
    by_cases hlt : k < n
    · obtain ⟨b, off, hx, hb, hr⟩ := HV.out.at hlt
      simp only [Option.some.injEq] at hx
      subst hx
      have hr' : wr.rangeAt b (off + k * 15) (R k).cs := fun j v hj => by rw [hbel.cell (by exact hb)]; exact hr j v hj
      obtain ⟨r, hR⟩ : ∃ r, r = R k := ⟨_, rfl⟩
      rw [← hR] at hr'
      obtain ⟨c0, c1, c2, c3, c4, c5, c6, c7, c8, c9, c10, c11, c12, c13, c14⟩ := at_all hr'
      obtain ⟨g, ⟨d0, d1, d2, d3, d4, d5, d6, d7, d8, d9, d10, d11, d12, d13, d14⟩, hfz⟩ := HK.out.cells hlt
      have HR : Hid (r = R k) := hR
      have hwl : w.heap.size < wr.heap.size := HK.out.lt
      have HN : Hid (Filled ((wr.setCells w.heap.size (k * 15) r.cs).alloc (.cells r.cs.toArray 26)) w.heap.size 46 n R (k + 1)) := by
        rw [hR]; exact (filled_step HK.out).alloc _
      have HB : Hid (Below w.heap.size w ((wr.setCells w.heap.size (k * 15) r.cs).alloc (.cells r.cs.toArray 26))) := by
        have := below_setCells (Nat.le_refl _) r.cs (k * 15) _ hbel
        exact this.alloc this.size _
      have hne : b ≠ w.heap.size := by omega
      have hb2 : b < wr.heap.size := by omega
      clear hR hr hr' hbel HK
      go_wp2
      go_roundw
      case rel => exact ⟨k + 1, by omega, by go_num, HN, HB⟩
      case measure => simp [intOf]; omega
    · have hkn : k = n := by omega
      subst hkn
      have HG : Hid (Vg wr (some ⟨w.heap.size, 0, none⟩) k R) := HK.out.vg
      have HB : Hid (Below w.heap.size w wr) := hbel
      clear hbel HK
      go_wp2
      go_ret
      exact ⟨⟨_, _, rfl, by simp, HG.out.below ((Below.refl _ _).alloc (Nat.le_refl _) _)⟩, HB.out.alloc HB.out.size _⟩
end Go.Proofs.Qxb6604119aMods
