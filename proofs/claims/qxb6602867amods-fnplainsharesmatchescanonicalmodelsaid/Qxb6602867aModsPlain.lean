/- The plain mathematics of the shares' texts: no Go in sight. -/
namespace Go.Proofs.Qxb6602867aMods
namespace Sh

/-- A decimal digit's byte. -/
def digB (d : Int) : Bool := decide (48 ≤ d) && decide (d ≤ 57)
def allD (l : List Int) : Bool := l.all digB
/-- The number that a row of digits writes. -/
def val (l : List Int) : Int := l.foldl (fun a d => a * 10 + (d - 48)) 0

theorem getD_at (zs : List Int) (i : Nat) (h : i < zs.length) : zs[i] = zs[i]?.getD 0 := by simp [h]
theorem digB_iff (d : Int) : digB d = true ↔ 48 ≤ d ∧ d ≤ 57 := by simp [digB]
theorem val_snoc (l : List Int) (d : Int) : val (l ++ [d]) = val l * 10 + (d - 48) := by simp [val]
theorem allD_snoc (l : List Int) (d : Int) : allD (l ++ [d]) = (allD l && digB d) := by simp [allD]

theorem val_rbd (r : List Int) : allD r.reverse = true → 0 ≤ val r.reverse ∧ val r.reverse < 10 ^ r.length := by
  induction r with
  | nil => intro _; simp [val]
  | cons d r ih =>
    intro h
    rw [List.reverse_cons, allD_snoc, Bool.and_eq_true, digB_iff] at h
    have := ih h.1
    rw [List.reverse_cons, val_snoc, List.length_cons, Int.pow_succ]
    omega
theorem val_bd (l : List Int) (h : allD l = true) : 0 ≤ val l ∧ val l < 10 ^ l.length := by
  have := val_rbd l.reverse (by rwa [List.reverse_reverse])
  rwa [List.reverse_reverse, List.length_reverse] at this
theorem pow_le {a b : Nat} (h : a ≤ b) : (10 : Int) ^ a ≤ 10 ^ b := by
  obtain ⟨c, rfl⟩ := Nat.le.dest h
  rw [Int.pow_add]
  have h1 : (0 : Int) < 10 ^ a := Int.pow_pos (by omega)
  have h2 : (0 : Int) < 10 ^ c := Int.pow_pos (by omega)
  have := Int.mul_le_mul_of_nonneg_left (show (1 : Int) ≤ 10 ^ c by omega) (Int.le_of_lt h1)
  rwa [Int.mul_one] at this
theorem val_bd_of (l : List Int) (h : allD l = true) (k : Nat) (hl : l.length ≤ k) : 0 ≤ val l ∧ val l < 10 ^ k := by
  have h1 := val_bd l h
  have h2 := pow_le hl
  omega

/-! ### What 'plainShares' computes -/
def psHead (zs : List Int) : Bool :=
  decide (4 ≤ zs.length) && decide (zs.length ≤ 19) && (zs.getD (zs.length - 3) 0 == 46) && !(zs.getD 0 0 == 48 && zs.length != 4)
def psOk (zs : List Int) : Bool :=
  psHead zs && allD (zs.take (zs.length - 3)) && digB (zs.getD (zs.length - 2) 0) && digB (zs.getD (zs.length - 1) 0)
def psV (zs : List Int) : Int :=
  if psOk zs then val (zs.take (zs.length - 3)) * 100 + (zs.getD (zs.length - 2) 0 - 48) * 10 + (zs.getD (zs.length - 1) 0 - 48) else 0
def psB (zs : List Int) : Bool := psOk zs && decide (0 < psV zs)

theorem psV_no {zs : List Int} (h : psOk zs = false) : psV zs = 0 := by simp [psV, h]
theorem psB_no {zs : List Int} (h : psOk zs = false) : psB zs = false := by simp [psB, h]

/-- A field of the good form: its digits, a dot, two digits. -/
theorem ps_form (ds : List Int) (t l : Int) : psOk (ds ++ [46, t, l]) = (decide (1 ≤ ds.length) && decide (ds.length ≤ 16) && !(ds.getD 0 0 == 48 && ds.length != 1) && allD ds && digB t && digB l) := by
  have e0 : (ds ++ [46, t, l]).length = ds.length + 3 := by simp
  have e1 : (ds ++ [46, t, l]).take ((ds ++ [46, t, l]).length - 3) = ds := by rw [e0]; simp
  have e2 : (ds ++ [46, t, l]).getD ((ds ++ [46, t, l]).length - 2) 0 = t := by
    rw [e0, show ds.length + 3 - 2 = ds.length + 1 by omega]; simp [List.getD]
  have e3 : (ds ++ [46, t, l]).getD ((ds ++ [46, t, l]).length - 1) 0 = l := by
    rw [e0, show ds.length + 3 - 1 = ds.length + 2 by omega]; simp [List.getD]
  have e4 : (ds ++ [46, t, l]).getD ((ds ++ [46, t, l]).length - 3) 0 = 46 := by
    rw [e0, show ds.length + 3 - 3 = ds.length by omega]; simp [List.getD]
  unfold psOk psHead
  rw [e1, e2, e3, e4, e0]
  cases ds with
  | nil => simp
  | cons d ds =>
    have h1 : decide (4 ≤ (d :: ds).length + 3) = decide (1 ≤ (d :: ds).length) := by simp
    have h2 : decide ((d :: ds).length + 3 ≤ 19) = decide ((d :: ds).length ≤ 16) := by simp
    have h3 : ((d :: ds).length + 3 != 4) = ((d :: ds).length != 1) := by simp [bne]
    rw [h1, h2, h3]
    simp

theorem ps_formV (ds : List Int) (t l : Int) (h : psOk (ds ++ [46, t, l]) = true) : psV (ds ++ [46, t, l]) = val ds * 100 + (t - 48) * 10 + (l - 48) := by
  have e0 : (ds ++ [46, t, l]).length = ds.length + 3 := by simp
  unfold psV
  rw [if_pos h, e0]
  rw [show ds.length + 3 - 2 = ds.length + 1 by omega, show ds.length + 3 - 1 = ds.length + 2 by omega, show ds.length + 3 - 3 = ds.length by omega]
  simp [List.getD]

/-- Whatever is accepted is of that form. -/
theorem ps_split (zs : List Int) (h : psOk zs = true) : ∃ ds t l, zs = ds ++ [46, t, l] := by
  unfold psOk psHead at h
  simp only [Bool.and_eq_true, decide_eq_true_eq, beq_iff_eq] at h
  obtain ⟨⟨⟨⟨⟨⟨h4, h19⟩, hdot⟩, -⟩, -⟩, -⟩, -⟩ := h
  refine ⟨zs.take (zs.length - 3), zs.getD (zs.length - 2) 0, zs.getD (zs.length - 1) 0, ?_⟩
  apply List.ext_getElem
  · simp; omega
  · intro i h1 h2
    by_cases hi : i < zs.length - 3
    · rw [List.getElem_append_left (by simp; omega)]; simp
    · rw [List.getElem_append_right (by simp; omega)]
      have : i = zs.length - 3 ∨ i = zs.length - 2 ∨ i = zs.length - 1 := by omega
      have el : (zs.take (zs.length - 3)).length = zs.length - 3 := by simp
      rcases this with rfl | rfl | rfl
      · simp only [el, Nat.sub_self]
        have : zs[zs.length - 3] = 46 := by rw [getD_at]; exact hdot
        simpa using this
      · simp only [el, show zs.length - 2 - (zs.length - 3) = 1 by omega]
        simp
        exact getD_at _ _ _
      · simp only [el, show zs.length - 1 - (zs.length - 3) = 2 by omega]
        simp
        exact getD_at _ _ _

/-! ### The text of h hundredths -/
def rdig : Nat → Int → List Int
  | 0, _ => []
  | f + 1, w => if w ≤ 0 then [] else (48 + w % 10) :: rdig f (w / 10)
/-- The text's bytes from the last to the first. -/
def rtext (h : Int) : List Int := [48 + h % 100 % 10, 48 + h % 100 / 10, 46] ++ (if h / 100 = 0 then [48] else rdig 17 (h / 100))
def text (h : Int) : List Int := (rtext h).reverse
def whole (W : Int) : List Int := if W = 0 then [48] else (rdig 17 W).reverse

theorem text_form (h : Int) : text h = whole (h / 100) ++ [46, 48 + h % 100 / 10, 48 + h % 100 % 10] := by
  unfold text rtext whole
  split <;> simp

theorem rdig_all (f : Nat) : ∀ w : Int, allD (rdig f w) = true := by
  induction f with
  | zero => intro w; rfl
  | succ f ih =>
    intro w
    unfold rdig
    split
    · rfl
    · have := ih (w / 10)
      simp only [allD, List.all_cons, Bool.and_eq_true, digB_iff] at this ⊢
      exact ⟨by omega, this⟩

theorem allD_rev (l : List Int) : allD l.reverse = allD l := by simp [allD]

theorem rdig_val (f : Nat) : ∀ w : Int, 0 ≤ w → w < 10 ^ f → val (rdig f w).reverse = w := by
  induction f with
  | zero => intro w h0 h1; simp at h1; simp [rdig, val]; omega
  | succ f ih =>
    intro w h0 h1
    unfold rdig
    split
    · simp [val]; omega
    · rw [List.reverse_cons, val_snoc, ih (w / 10) (by omega) (by rw [Int.pow_succ] at h1; omega)]
      omega

theorem rdig_len (f : Nat) : ∀ (w : Int) (j : Nat), w < 10 ^ j → (rdig f w).length ≤ j := by
  induction f with
  | zero => intro w j _; simp [rdig]
  | succ f ih =>
    intro w j h
    unfold rdig
    split
    · simp
    · cases j with
      | zero => simp at h; omega
      | succ j => have := ih (w / 10) j (by rw [Int.pow_succ] at h; omega); simp; omega

theorem rdig_len_lo (f : Nat) : ∀ (w : Int) (j : Nat), 10 ^ j ≤ w → w < 10 ^ f → j < (rdig f w).length := by
  induction f with
  | zero =>
    intro w j h1 h2
    have : (0 : Int) < 10 ^ j := Int.pow_pos (by omega)
    simp at h2; omega
  | succ f ih =>
    intro w j h1 h2
    have hp : (0 : Int) < 10 ^ j := Int.pow_pos (by omega)
    unfold rdig
    rw [if_neg (by omega)]
    cases j with
    | zero => simp
    | succ j => have := ih (w / 10) j (by rw [Int.pow_succ] at h1; omega) (by rw [Int.pow_succ] at h2; omega); simp; omega

/-- The leading digit is no zero. -/
theorem rdig_lead (f : Nat) : ∀ w : Int, 0 < w → w < 10 ^ f → ∃ l d, rdig f w = l ++ [d] ∧ 49 ≤ d ∧ d ≤ 57 := by
  induction f with
  | zero => intro w h0 h1; simp at h1; omega
  | succ f ih =>
    intro w h0 h1
    unfold rdig
    rw [if_neg (by omega)]
    by_cases h : w / 10 ≤ 0
    · refine ⟨[], 48 + w % 10, ?_, by omega, by omega⟩
      have : rdig f (w / 10) = [] := by cases f with
        | zero => rfl
        | succ f => simp [rdig, h]
      rw [this]; rfl
    · obtain ⟨l, d, e, hd⟩ := ih (w / 10) (by omega) (by rw [Int.pow_succ] at h1; omega)
      exact ⟨(48 + w % 10) :: l, d, by rw [e]; rfl, hd⟩

theorem whole_ok (W : Int) (h0 : 0 ≤ W) (h1 : W < 10 ^ 17) :
    1 ≤ (whole W).length ∧ allD (whole W) = true ∧ val (whole W) = W ∧ (whole W).length ≤ 17 ∧ ((whole W).getD 0 0 = 48 → (whole W).length = 1) := by
  unfold whole
  by_cases h : W = 0
  · subst h; simp [allD, digB, val]
  · rw [if_neg h]
    obtain ⟨l, d, e, hd⟩ := rdig_lead 17 W (by omega) h1
    refine ⟨?_, ?_, rdig_val 17 W h0 h1, ?_, ?_⟩
    · rw [e]; simp
    · rw [allD_rev]; exact rdig_all 17 W
    · rw [List.length_reverse]; exact rdig_len 17 W 17 h1
    · rw [e]; simp; omega

theorem whole_len (W : Int) (h1 : W < 10 ^ 16) : (whole W).length ≤ 16 := by
  unfold whole
  split
  · simp
  · rw [List.length_reverse]; exact rdig_len 17 W 16 h1
theorem whole_len_lo (W : Int) (h0 : 10 ^ 16 ≤ W) (h1 : W < 10 ^ 17) : 16 < (whole W).length := by
  unfold whole
  rw [if_neg (by have : (0 : Int) < 10 ^ 16 := Int.pow_pos (by omega)
                 omega), List.length_reverse]
  exact rdig_len_lo 17 W 16 h0 h1

theorem text_len (h : Int) (h0 : 0 ≤ h) (h1 : h ≤ 9223372036854775807) : 4 ≤ (text h).length ∧ (text h).length ≤ 20 := by
  have := whole_ok (h / 100) (by omega) (by omega)
  rw [text_form]; simp; omega

/-- THE FIRST LAW: below 10^18 the text reads back. -/
theorem reads_back (h : Int) (h0 : 0 < h) (h1 : h < 1000000000000000000) : psB (text h) = true ∧ psV (text h) = h := by
  obtain ⟨a, b, c, -, e⟩ := whole_ok (h / 100) (by omega) (by omega)
  have hl := whole_len (h / 100) (by omega)
  have hok : psOk (text h) = true := by
    rw [text_form, ps_form]
    simp only [Bool.and_eq_true, decide_eq_true_eq, digB_iff, Bool.not_eq_true', Bool.and_eq_false_iff, beq_eq_false_iff_ne, bne_eq_false_iff_eq]
    refine ⟨⟨⟨⟨⟨a, hl⟩, ?_⟩, b⟩, by omega, by omega⟩, by omega, by omega⟩
    by_cases hh : (whole (h / 100)).getD 0 0 = 48
    · exact .inr (e hh)
    · exact .inl hh
  have hv : psV (text h) = h := by
    rw [text_form] at hok ⊢
    rw [ps_formV _ _ _ hok, c]
    omega
  exact ⟨by simp [psB, hok, hv, h0], hv⟩

/-- From 10^18 on it is refused. -/
theorem reads_not (h : Int) (h0 : 1000000000000000000 ≤ h) (h1 : h ≤ 9223372036854775807) : psB (text h) = false ∧ psV (text h) = 0 := by
  have hl := whole_len_lo (h / 100) (by omega) (by omega)
  have hok : psOk (text h) = false := by
    rw [text_form, ps_form]
    simp; omega
  exact ⟨psB_no hok, psV_no hok⟩

/-! ### The model of 'zzSharesModel' -/
/-- A byte that the model reads: a dot or a digit. -/
def okB (d : Int) : Bool := d == 46 || digB d
/-- The digits among the bytes. -/
def dgs (l : List Int) : List Int := l.filter (fun d => d != 46)
def mOk (zs : List Int) : Bool := zs.all okB && decide ((dgs zs).length ≤ 18)
def mB (zs : List Int) : Bool := mOk zs && decide (0 < val (dgs zs)) && (text (val (dgs zs)) == zs)
def mV (zs : List Int) : Int := if mB zs then val (dgs zs) else 0

theorem dgs_snoc (l : List Int) (d : Int) : dgs (l ++ [d]) = if d = 46 then dgs l else dgs l ++ [d] := by
  unfold dgs
  by_cases h : d = 46 <;> simp [h]
theorem dgs_len (l : List Int) : (dgs l).length ≤ l.length := List.length_filter_le _ _
theorem dgs_all (l : List Int) (h : l.all okB = true) : allD (dgs l) = true := by
  unfold allD dgs
  rw [List.all_eq_true] at h ⊢
  intro d hd
  rw [List.mem_filter] at hd
  have := h d hd.1
  unfold okB at this
  simpa [show d ≠ 46 by simpa using hd.2] using this
theorem dgs_of_all (l : List Int) (h : allD l = true) : dgs l = l := by
  unfold dgs
  rw [List.filter_eq_self]
  intro d hd
  unfold allD at h
  rw [List.all_eq_true] at h
  have := (digB_iff d).1 (h d hd)
  simp; omega

/-- The one text of a number: digits without a leading zero. -/
theorem rdig_canon (r : List Int) : ∀ f : Nat, allD r.reverse = true → r.length ≤ f → r.reverse.getD 0 0 ≠ 48 → rdig f (val r.reverse) = r := by
  induction r with
  | nil => intro f _ _ _; cases f <;> simp [rdig, val]
  | cons d r ih =>
    intro f hd hl hz
    cases f with
    | zero => simp at hl
    | succ f =>
      rw [List.reverse_cons, allD_snoc, Bool.and_eq_true, digB_iff] at hd
      rw [List.reverse_cons, val_snoc]
      have hb := val_rbd r hd.1
      have hpos : 0 < val r.reverse ∨ (r = [] ∧ d ≠ 48) := by
        cases r with
        | nil => right; exact ⟨rfl, by simpa using hz⟩
        | cons c r =>
          left
          have hz' : (c :: r).reverse.getD 0 0 ≠ 48 := by
            rw [List.reverse_cons] at hz
            have e : ((c :: r).reverse ++ [d]).getD 0 0 = (c :: r).reverse.getD 0 0 := by
              cases h : (c :: r).reverse with
              | nil => simp at h
              | cons a b => simp
            rwa [e] at hz
          rcases Int.lt_or_eq_of_le hb.1 with h | h
          · exact h
          · have := ih f hd.1 (by simpa using hl) hz'
            rw [← h] at this
            cases f <;> simp [rdig] at this
      unfold rdig
      rcases hpos with hp | ⟨rfl, hn⟩
      · rw [if_neg (by omega)]
        have hz' : r.reverse.getD 0 0 ≠ 48 := by
          cases h : r.reverse with
          | nil => simp
          | cons a b =>
            rw [List.reverse_cons, h] at hz
            simpa using hz
        rw [show (val r.reverse * 10 + (d - 48)) / 10 = val r.reverse by omega, ih f hd.1 (by simpa using hl) hz']
        rw [show 48 + (val r.reverse * 10 + (d - 48)) % 10 = d by omega]
      · rw [if_neg (by simp [val]; omega)]
        have e : val ([] : List Int).reverse = 0 := rfl
        rw [e, show ((0 : Int) * 10 + (d - 48)) / 10 = 0 by omega, show (48 : Int) + (0 * 10 + (d - 48)) % 10 = d by omega]
        cases f <;> simp [rdig]

theorem whole_canon (ds : List Int) (h0 : 1 ≤ ds.length) (h1 : ds.length ≤ 17) (hd : allD ds = true) (hz : ds.getD 0 0 = 48 → ds.length = 1) : whole (val ds) = ds := by
  by_cases h : ds.getD 0 0 = 48
  · have hl := hz h
    match ds, hl with
    | [d], _ =>
      have : d = 48 := by simpa using h
      subst this
      simp [whole, val]
  · have hc := rdig_canon ds.reverse 17 (by rwa [List.reverse_reverse]) (by simpa using h1) (by rwa [List.reverse_reverse])
    rw [List.reverse_reverse] at hc
    unfold whole
    rw [if_neg, hc, List.reverse_reverse]
    intro hv
    rw [hv] at hc
    have : rdig 17 0 = [] := by simp [rdig]
    rw [this] at hc
    have := congrArg List.length hc
    simp at this
    rw [← this] at h0
    simp at h0

/-- THE SECOND LAW: the two readings agree. -/
theorem ps_is_model (zs : List Int) : psB zs = mB zs ∧ psV zs = mV zs := by
  by_cases hm : mB zs = true
  · have h := hm
    unfold mB mOk at h
    simp only [Bool.and_eq_true, decide_eq_true_eq, beq_iff_eq] at h
    obtain ⟨⟨⟨hall, hlen⟩, hpos⟩, htext⟩ := h
    have hb := val_bd_of (dgs zs) (dgs_all zs hall) 18 hlen
    have hr := reads_back (val (dgs zs)) hpos (by omega)
    rw [htext] at hr
    exact ⟨by rw [hr.1, hm], by rw [hr.2]; simp [mV, hm]⟩
  · have hm' : mB zs = false := by simpa using hm
    have hV : mV zs = 0 := by simp [mV, hm']
    rw [hm', hV]
    by_cases hok : psOk zs = true
    · by_cases hp : 0 < psV zs
      · exfalso
        apply hm
        obtain ⟨ds, t, l, rfl⟩ := ps_split zs hok
        rw [ps_formV _ _ _ hok] at hp
        rw [ps_form] at hok
        simp only [Bool.and_eq_true, decide_eq_true_eq, Bool.not_eq_true', Bool.and_eq_false_iff, beq_eq_false_iff_ne, bne_eq_false_iff_eq] at hok
        obtain ⟨⟨⟨⟨⟨h1, h16⟩, hz⟩, hd⟩, ht⟩, hl⟩ := hok
        have ht' := (digB_iff t).1 ht
        have hl' := (digB_iff l).1 hl
        have hb := val_bd ds hd
        have ed : dgs (ds ++ [46, t, l]) = ds ++ [t, l] := by
          unfold dgs
          rw [List.filter_append]
          have e1 : ds.filter (fun d => d != 46) = ds := dgs_of_all ds hd
          rw [e1]
          simp [show t ≠ 46 by omega, show l ≠ 46 by omega]
        have ev : val (ds ++ [t, l]) = val ds * 100 + (t - 48) * 10 + (l - 48) := by
          rw [show ds ++ [t, l] = (ds ++ [t]) ++ [l] by simp, val_snoc, val_snoc]; omega
        unfold mB mOk
        rw [ed, ev]
        simp only [Bool.and_eq_true, decide_eq_true_eq, beq_iff_eq]
        refine ⟨⟨⟨?_, by simp; omega⟩, hp⟩, ?_⟩
        · rw [List.all_append, Bool.and_eq_true]
          refine ⟨?_, by simp [okB, ht, hl]⟩
          unfold allD at hd
          rw [List.all_eq_true] at hd ⊢
          intro d h
          simp [okB, hd d h]
        · rw [text_form, show (val ds * 100 + (t - 48) * 10 + (l - 48)) / 100 = val ds by omega,
            show 48 + (val ds * 100 + (t - 48) * 10 + (l - 48)) % 100 / 10 = t by omega,
            show 48 + (val ds * 100 + (t - 48) * 10 + (l - 48)) % 100 % 10 = l by omega,
            whole_canon ds h1 (by omega) hd (by intro h; rcases hz with hz | hz
                                                · exact absurd h hz
                                                · exact hz)]
      · refine ⟨by simp [psB, hp], ?_⟩
        obtain ⟨ds, t, l, rfl⟩ := ps_split zs hok
        rw [ps_formV _ _ _ hok] at hp ⊢
        rw [ps_form] at hok
        simp only [Bool.and_eq_true] at hok
        have ht' := (digB_iff t).1 hok.1.2
        have hl' := (digB_iff l).1 hok.2
        have hb := val_bd ds hok.1.1.2
        omega
    · have hok' : psOk zs = false := by simpa using hok
      exact ⟨psB_no hok', psV_no hok'⟩

end Sh
end Go.Proofs.Qxb6602867aMods
