import Derived.Test.Qxb6604119aModsRows
import Derived.Test.Qxb6604119aModsFloat
import Derived.WalkKit
import Derived.WalkSpells
import Derived.WalkLawsBesides
import Derived.Deep.OwnRows
import Derived.Deep.MidRow
import Derived.Outline
namespace Go.Proofs.Qxb6604119aMods
open Go.RowKit Go.Deep
set_option linter.unusedVariables false

/-- A float is stored: the walk's law for it (the kit has the like for the other kinds). -/
theorem run_store_float (P : Program) (w : World) (a : Addr) (m : Mode) (k : FloatKind) (b : Nat) : (store a (.float k b) m).run P w = stored P w a (.float k b) m := run_store P w a _ m rfl
attribute [local go_sem] run_store_float

/-- One record as it lies in memory. -/
structure Rp where
  nm : ByteArray
  a1 : Int
  a2 : Int
  a3 : Int
  a4 : Int
  a5 : Int
  lag : Nat
  a7 : Int
  a8 : Int
  a9 : Int
  a10 : Int
  vl : Nat
  a12 : Int
  a13 : Int
  a14 : Int

def Rp.cs (r : Rp) : List Value := [.string r.nm, .int .i64 r.a1, .int .i64 r.a2, .int .i64 r.a3, .int .i64 r.a4, .int .i64 r.a5, .float .f64 r.lag, .int .i64 r.a7, .int .i64 r.a8, .int .i64 r.a9, .int .i64 r.a10, .float .f64 r.vl, .int .i64 r.a12, .int .i64 r.a13, .int .i64 r.a14]

theorem at_all {w : World} {b o : Nat} {r : Rp} (h : w.rangeAt b o r.cs) :
    w.cell? ⟨b, o, none⟩ = some (.string r.nm) ∧ w.cell? ⟨b, o + 1, none⟩ = some (.int .i64 r.a1) ∧ w.cell? ⟨b, o + 2, none⟩ = some (.int .i64 r.a2) ∧ w.cell? ⟨b, o + 3, none⟩ = some (.int .i64 r.a3) ∧ w.cell? ⟨b, o + 4, none⟩ = some (.int .i64 r.a4) ∧
    w.cell? ⟨b, o + 5, none⟩ = some (.int .i64 r.a5) ∧ w.cell? ⟨b, o + 6, none⟩ = some (.float .f64 r.lag) ∧ w.cell? ⟨b, o + 7, none⟩ = some (.int .i64 r.a7) ∧ w.cell? ⟨b, o + 8, none⟩ = some (.int .i64 r.a8) ∧ w.cell? ⟨b, o + 9, none⟩ = some (.int .i64 r.a9) ∧
    w.cell? ⟨b, o + 10, none⟩ = some (.int .i64 r.a10) ∧ w.cell? ⟨b, o + 11, none⟩ = some (.float .f64 r.vl) ∧ w.cell? ⟨b, o + 12, none⟩ = some (.int .i64 r.a12) ∧ w.cell? ⟨b, o + 13, none⟩ = some (.int .i64 r.a13) ∧ w.cell? ⟨b, o + 14, none⟩ = some (.int .i64 r.a14) :=
  ⟨h 0 _ rfl, h 1 _ rfl, h 2 _ rfl, h 3 _ rfl, h 4 _ rfl, h 5 _ rfl, h 6 _ rfl, h 7 _ rfl, h 8 _ rfl, h 9 _ rfl, h 10 _ rfl, h 11 _ rfl, h 12 _ rfl, h 13 _ rfl, h 14 _ rfl⟩


/-- n records R at an address: what the walks are told of a slice of records. -/
def Vg (w : World) (a : Option Addr) (n : Nat) (R : Nat → Rp) : Prop :=
  n = 0 ∨ ∃ b off, a = some ⟨b, off, none⟩ ∧ b < w.heap.size ∧ ∀ i, i < n → w.rangeAt b (off + i * 15) (R i).cs
theorem Vg.below {w w' : World} {a : Option Addr} {n : Nat} {R : Nat → Rp} (h : Vg w a n R) (hb : Below w.heap.size w w') : Vg w' a n R := by
  rcases h with h | ⟨b, off, rfl, hlt, hr⟩
  · exact .inl h
  · refine .inr ⟨b, off, rfl, Nat.lt_of_lt_of_le hlt hb.size, fun i hi j v hj => ?_⟩
    rw [hb.cell (by exact hlt)]
    exact hr i hi j v hj
theorem Vg.at {w : World} {a : Option Addr} {n : Nat} {R : Nat → Rp} (h : Vg w a n R) {k : Nat} (hk : k < n) : ∃ b off, a = some ⟨b, off, none⟩ ∧ b < w.heap.size ∧ w.rangeAt b (off + k * 15) (R k).cs := by
  rcases h with h | ⟨b, off, rfl, hlt, hr⟩
  · omega
  · exact ⟨b, off, rfl, hlt, hr k hk⟩
theorem Vg.drewN {w : World} {a : Option Addr} {n : Nat} {R : Nat → Rp} (h : Vg w a n R) (q : Nat) : Vg (w.drewN q) a n R := h

/-- Some bool is returned. -/
def AnyBool (e : Ending) : Prop := ∃ r, e = .returned (.bool r)
theorem any_bool (r : Bool) : AnyBool (.returned (.bool r)) := ⟨r, rfl⟩

/-! ### The bound on the lengths: whatever it answers, nothing turns -/
set_option maxHeartbeats 1000000 in
theorem bytes7 (s : ByteArray) (a : Option Addr) (n c : Nat) (R : Nat → Rp) (hs : s.size ≤ 9223372036854775807) (hn : n ≤ 9223372036854775807) (hnm : ∀ i, i < n → (R i).nm.size ≤ 9223372036854775807) (w : World) (hv : Vg w a n R) :
    Calls Trym.prog 7 #[.string s, .slice a n c] w fun e w' => AnyBool e ∧ w' = w := by
  have HV : Hid (Vg w a n R) := hv
  have HM : Hid (∀ i, i < n → (R i).nm.size ≤ 9223372036854775807) := hnm
  clear hv hnm
  by_cases h1 : 1048576 < s.size
  · go_enter Trym.func7, Trym.ntmps7
    go_wp2
    go_ret
    exact ⟨any_bool _, rfl⟩
  by_cases h2 : 1048576 < n
  · go_enter Trym.func7, Trym.ntmps7
    go_wp2
    go_ret
    exact ⟨any_bool _, rfl⟩
  by_cases h3 : 1048576 < s.size + n
  · go_enter Trym.func7, Trym.ntmps7
    go_wp2
    go_ret
    exact ⟨any_bool _, rfl⟩
  go_enter Trym.func7, Trym.ntmps7
  go_wp2
  go_loop [5, 6] (fun z i => ∃ (k : Nat) (q : Int), k ≤ n ∧ i = .int .i64 k ∧ 0 ≤ q ∧ q ≤ 1048576 ∧ z = .int .i64 q) (fun _ i => n - (intOf i).toNat)
  case atStart => exact ⟨0, _, by omega, rfl, by omega, by omega, rfl⟩
  case round =>
    obtain ⟨k, q, hk, rfl, hq0, hq1, rfl⟩ := hrel
    by_cases hlt : k < n
    · obtain ⟨b, off, rfl, hb, hr⟩ := HV.out.at hlt
      have c0 := (at_all hr).1
      have hz := HM.out k hlt
      clear hr
      by_cases hz1 : 1048576 < (R k).nm.size
      · go_wp2
        go_ret
        exact ⟨any_bool _, rfl⟩
      by_cases hz2 : 1048576 < q + (R k).nm.size
      · go_wp2
        go_ret
        exact ⟨any_bool _, rfl⟩
      · go_wp2
        go_round
        case rel => exact ⟨k + 1, _, by omega, by go_num, by omega, by omega, rfl⟩
        case measure => simp [intOf]; omega
    · have hkn : k = n := by omega
      subst hkn
      go_wp2
      go_ret
      exact ⟨any_bool _, rfl⟩

/-! ### The domain -/
/-- The reads of the first k records together. -/
def rs (R : Nat → Rp) : Nat → Int
  | 0 => 0
  | k + 1 => rs R k + (R k).a5
structure Dom (R : Nat → Rp) (k : Nat) : Prop where
  lag : ∀ i, i < k → Fl.nn (R i).lag
  vl : ∀ i, i < k → Fl.nn (R i).vl
  reads : ∀ i, i < k → 0 ≤ (R i).a5
  sum0 : 0 ≤ rs R k
  sum : rs R k ≤ 9223372036854775807
theorem dom_zero (R : Nat → Rp) : Dom R 0 := ⟨fun i hi => by omega, fun i hi => by omega, fun i hi => by omega, by simp [rs], by simp [rs]⟩
theorem dom_step {R : Nat → Rp} {k : Nat} (h : Dom R k) (hl : Fl.nn (R k).lag) (hv : Fl.nn (R k).vl) (hr : 0 ≤ (R k).a5) (hs : rs R k + (R k).a5 ≤ 9223372036854775807) : Dom R (k + 1) where
  lag i hi := by
    by_cases hik : i = k
    · subst hik; exact hl
    · exact h.lag i (by omega)
  vl i hi := by
    by_cases hik : i = k
    · subst hik; exact hv
    · exact h.vl i (by omega)
  reads i hi := by
    by_cases hik : i = k
    · subst hik; exact hr
    · exact h.reads i (by omega)
  sum0 := by have := h.sum0; simp only [rs]; omega
  sum := by simp only [rs]; omega

/-- The answer of the domain's test. -/
def DomRet (R : Nat → Rp) (n : Nat) (e : Ending) : Prop := ∃ r, e = .returned (.bool r) ∧ (r = true → Dom R n)
theorem dom_no {R : Nat → Rp} {n : Nat} : DomRet R n (.returned (.bool false)) := ⟨false, rfl, fun h => by simp at h⟩
theorem dom_yes {R : Nat → Rp} {n : Nat} (h : Dom R n) : DomRet R n (.returned (.bool true)) := ⟨true, rfl, fun _ => h⟩

set_option maxHeartbeats 2000000 in
theorem indom_any (a : Option Addr) (n c : Nat) (R : Nat → Rp) (hn : n ≤ 4096) (w : World) (hv : Vg w a n R) :
    Calls Trym.prog 8 #[.slice a n c] w fun e w' => DomRet R n e ∧ Below w.heap.size w w' := by
  have HV : Hid (Vg w a n R) := hv
  clear hv
  go_enter Trym.func8, Trym.ntmps8
  go_wp2
  go_loopw [3, 4] (fun s i wr => ∃ (k : Nat) (q : Int), k ≤ n ∧ i = .int .i64 k ∧ 0 ≤ q ∧ q ≤ 9223372036854775807 ∧ s = .int .i64 q ∧ Hid (Dom R k ∧ q = rs R k) ∧ Below w.heap.size w wr) (fun _ i _ => n - (intOf i).toNat)
  case atStart => exact ⟨0, 0, by omega, rfl, by omega, by omega, rfl, ⟨dom_zero R, rfl⟩, Below.refl _ _⟩
  case round =>
    obtain ⟨k, q, hk, rfl, hq0, hq1, rfl, HD, hbel⟩ := hrel
    by_cases hlt : k < n
    · obtain ⟨b, off, rfl, hb, hr⟩ := (HV.out.below hbel).at hlt
      obtain ⟨r, hR⟩ : ∃ r, r = R k := ⟨_, rfl⟩
      rw [← hR] at hr
      obtain ⟨c0, c1, c2, c3, c4, c5, c6, c7, c8, c9, c10, c11, c12, c13, c14⟩ := at_all hr
      have HR : Hid (r = R k) := hR
      have HB : Hid (Below w.heap.size w wr) := hbel
      have hle : w.heap.size ≤ wr.heap.size := hbel.size
      clear hR hr hbel
      by_cases hl : FloatKind.f64.format.order r.lag r.lag = some .eq
      · by_cases hvl : FloatKind.f64.format.order r.vl r.vl = some .eq
        · by_cases hr0 : r.a5 < 0
          · go_wp2
            go_ret
            exact ⟨dom_no, HB.out.alloc hle _⟩
          · by_cases hr1 : 9223372036854775807 - q < r.a5
            · go_wp2
              go_ret
              exact ⟨dom_no, HB.out.alloc hle _⟩
            · have HN : Hid (Dom R (k + 1) ∧ q + r.a5 = rs R (k + 1)) := by
                have e := HR.out
                subst e
                have hq := HD.out.2
                exact ⟨dom_step HD.out.1 hl hvl (by omega) (by omega), by simp only [rs]; omega⟩
              go_wp2
              go_roundw
              case rel => exact ⟨k + 1, _, by omega, by go_num, by omega, by omega, rfl, HN, HB.out.alloc hle _⟩
              case measure => simp [intOf]; omega
        · have hvl' : (FloatKind.f64.format.order r.vl r.vl != some .eq) = true := by rw [bne_iff_ne]; exact hvl
          go_wp2
          go_ret
          exact ⟨dom_no, HB.out.alloc hle _⟩
      · have hl' : (FloatKind.f64.format.order r.lag r.lag != some .eq) = true := by rw [bne_iff_ne]; exact hl
        go_wp2
        go_ret
        exact ⟨dom_no, HB.out.alloc hle _⟩
    · have hkn : k = n := by omega
      subst hkn
      have HB : Hid (Below w.heap.size w wr) := hbel
      clear hbel
      go_wp2
      go_ret
      exact ⟨dom_yes HD.out.1, HB.out⟩
end Go.Proofs.Qxb6604119aMods
