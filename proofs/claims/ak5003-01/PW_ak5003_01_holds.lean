import PyProof.Rows.All
import Wide.All
import OpenK.AllK
import Wide.FinOn
import PySem.Challenge.RW_ak5003_01
open PySem PySem.W PyProof.Rows
set_option Elab.async false
set_option maxRecDepth 100000
set_option maxHeartbeats 4000000
namespace Mine

/-! ## The calendar in plain ints -/

/-- leap -/
def lp (y : Int) : Bool := decide ((y * 7 + 1) % 19 < 7)
/-- year_months -/
def YM (y : Int) : Int := if lp y = true then 13 else 12
def mo (y : Int) : Int := (235 * y - 234) / 19
def d0 (y : Int) : Int := mo y * 29 + (12084 + 13753 * mo y) / 25920
/-- delay_1 -/
def D1 (y : Int) : Int := if 3 * (d0 y + 1) % 7 < 3 then d0 y + 1 else d0 y
/-- delay_2 -/
def D2 (y : Int) : Int := if D1 (y + 1) - D1 y = 356 then 2 else if D1 y - D1 (y - 1) = 382 then 1 else 0
/-- to_jd(y, 7, 1), rounded down -/
def NY (y : Int) : Int := 347997 + D1 y + D2 y
/-- year_days -/
def YD (y : Int) : Int := NY (y + 1) - NY y
/-- month_length -/
def ML (y m : Int) : Int :=
  if m = 2 ∨ m = 4 ∨ m = 6 ∨ m = 10 ∨ m = 13 then 29
  else if m = 12 ∧ lp y = false then 29
  else if m = 8 ∧ YD y % 10 ≠ 5 then 29
  else if m = 9 ∧ YD y % 10 = 3 then 29
  else 30
/-- the days of n months from a on -/
def SM (y a : Int) : Nat → Int
  | 0 => 0
  | n + 1 => SM y a n + ML y (a + n)
/-- to_jd, rounded down -/
def JD (y m d : Int) : Int := NY y - 1 + d + (if m < 7 then SM y 7 (YM y + 1 - 7).toNat + SM y 1 (m - 1).toNat else SM y 7 (m - 7).toNat)

theorem D1_bd {y : Int} (h0 : 0 ≤ y) (h : y ≤ 30010) : -400 ≤ D1 y ∧ D1 y ≤ 11000000 := by
  unfold D1 d0 mo
  constructor <;> split <;> omega
theorem D2_bd (y : Int) : 0 ≤ D2 y ∧ D2 y ≤ 2 := by
  unfold D2
  constructor <;> (repeat' split) <;> omega
theorem NY_bd {y : Int} (h0 : 0 ≤ y) (h : y ≤ 30010) : 347000 ≤ NY y ∧ NY y ≤ 11400000 := by
  have h1 := D1_bd h0 h
  have h2 := D2_bd y
  unfold NY
  omega
theorem ML_bd (y m : Int) : 29 ≤ ML y m ∧ ML y m ≤ 30 := by
  unfold ML
  constructor <;> (repeat' split) <;> omega
theorem SM_bd (y a : Int) (n : Nat) : 29 * (n : Int) ≤ SM y a n ∧ SM y a n ≤ 30 * (n : Int) := by
  induction n with
  | zero => simp [SM]
  | succ n ih =>
    have := ML_bd y (a + n)
    simp only [SM]
    omega
theorem YM_or (y : Int) : YM y = 12 ∨ YM y = 13 := by
  unfold YM
  split <;> omega
theorem JD_bd {y m d : Int} (h0 : 0 ≤ y) (h : y ≤ 30010) (hm : 1 ≤ m ∧ m ≤ 13) (hd : 0 ≤ d ∧ d ≤ 1000) : 346000 ≤ JD y m d ∧ JD y m d ≤ 11500000 := by
  have h1 := NY_bd h0 h
  have h2 := YM_or y
  have h3 := SM_bd y 7 (YM y + 1 - 7).toNat
  have h4 := SM_bd y 1 (m - 1).toNat
  have h5 := SM_bd y 7 (m - 7).toNat
  unfold JD
  split <;> omega

def fr (y : Int) : Int := (12084 + 13753 * mo y) % 25920

theorem mo_is (y : Int) : mo y = 12 * (y - 1) + (7 * y + 1 - 7) / 19 := by unfold mo; omega
theorem mo_leap {y : Int} (h : lp y = true) : mo (y + 1) = mo y + 13 := by
  have h1 := of_decide_eq_true h
  rw [mo_is, mo_is, show 7 * (y + 1) + 1 - 7 = 7 * y + 1 by omega]
  rw [show y * 7 + 1 = 7 * y + 1 by omega] at h1
  generalize 7 * y + 1 = z at *
  omega
theorem mo_common {y : Int} (h : lp y = false) : mo (y + 1) = mo y + 12 := by
  have h1 := of_decide_eq_false h
  rw [mo_is, mo_is, show 7 * (y + 1) + 1 - 7 = 7 * y + 1 by omega]
  rw [show y * 7 + 1 = 7 * y + 1 by omega] at h1
  generalize 7 * y + 1 = z at *
  omega
theorem lp_next {y : Int} (h : lp y = true) : lp (y + 1) = false := by
  have h1 := of_decide_eq_true h
  refine decide_eq_false ?_
  rw [show (y + 1) * 7 + 1 = y * 7 + 1 + 7 by omega]
  generalize y * 7 + 1 = z at *
  omega
theorem fr_bd (y : Int) : 0 ≤ fr y ∧ fr y < 25920 := by unfold fr; omega

def pst (z : Int) : Int := if 3 * (z + 1) % 7 < 3 then 1 else 0
theorem pst_add (k z : Int) : pst (7 * k + z) = pst z := by
  unfold pst
  rw [show 3 * (7 * k + z + 1) % 7 = 3 * (z + 1) % 7 by omega]
theorem D1_pst (y : Int) : D1 y = d0 y + pst (d0 y) := by
  unfold D1 pst
  split <;> omega
def inc (l c : Bool) : Int := (if l = true then 383 else 354) + (if c = true then 1 else 0)
def fin (l c : Bool) (f : Int) : Int := f + (if l = true then 23269 else 9516) - (if c = true then 25920 else 0)
theorem step (y : Int) : ∃ c, d0 (y + 1) = d0 y + inc (lp y) c ∧ fr (y + 1) = fin (lp y) c (fr y) := by
  cases h : lp y with
  | true =>
    have e := mo_leap h
    unfold fr d0
    rw [e]
    generalize mo y = m
    by_cases hc : (12084 + 13753 * m) % 25920 + 23269 < 25920
    · exact ⟨false, by unfold inc; simp; omega, by unfold fin; simp; omega⟩
    · exact ⟨true, by unfold inc; simp; omega, by unfold fin; simp; omega⟩
  | false =>
    have e := mo_common h
    unfold fr d0
    rw [e]
    generalize mo y = m
    by_cases hc : (12084 + 13753 * m) % 25920 + 9516 < 25920
    · exact ⟨false, by unfold inc; simp; omega, by unfold fin; simp; omega⟩
    · exact ⟨true, by unfold inc; simp; omega, by unfold fin; simp; omega⟩

/-- the two years' carries that may stand side by side -/
def pairs (l c l' c' : Bool) : Bool := !(l && l') && !(!l && c && !l' && c') && !(l && !c && !c') && !(!l && !c && l' && !c')
theorem pairs_of {y : Int} {c c' : Bool} (h : fr (y + 1) = fin (lp y) c (fr y)) (h' : fr (y + 1 + 1) = fin (lp (y + 1)) c' (fr (y + 1))) : pairs (lp y) c (lp (y + 1)) c' = true := by
  have b0 := fr_bd y
  have b1 := fr_bd (y + 1)
  have b2 := fr_bd (y + 1 + 1)
  have hn := @lp_next y
  generalize fr y = f0 at *
  generalize fr (y + 1) = f1 at *
  generalize fr (y + 1 + 1) = f2 at *
  generalize lp y = l at *
  generalize lp (y + 1) = l' at *
  cases l <;> cases l' <;> cases c <;> cases c' <;> first | rfl | (exfalso; simp [fin] at h h' hn; omega) | (exfalso; simp [fin] at h h'; omega) | (simp at hn)

def lenOf (r : Int) (l0 c0 l1 c1 l2 c2 : Bool) : Int :=
  let a1 := r + inc l0 c0
  let a2 := a1 + inc l1 c1
  let a3 := a2 + inc l2 c2
  let A0 := r + pst r
  let A1 := a1 + pst a1
  let A2 := a2 + pst a2
  let A3 := a3 + pst a3
  let E1 : Int := if A2 - A1 = 356 then 2 else if A1 - A0 = 382 then 1 else 0
  let E2 : Int := if A3 - A2 = 356 then 2 else if A2 - A1 = 382 then 1 else 0
  A2 + E2 - A1 - E1
theorem lenOf_add (k r : Int) (l0 c0 l1 c1 l2 c2 : Bool) : lenOf (7 * k + r) l0 c0 l1 c1 l2 c2 = lenOf r l0 c0 l1 c1 l2 c2 := by
  unfold lenOf
  simp only [Int.add_assoc, pst_add]
  simp only [Int.add_sub_add_left]
def okLen (l : Bool) (n : Int) : Bool := if l = true then decide (n = 383 ∨ n = 384 ∨ n = 385) else decide (n = 353 ∨ n = 354 ∨ n = 355)
theorem len_tab : ∀ r : Fin 7, ∀ l0 c0 l1 c1 l2 c2 : Bool, (!(pairs l0 c0 l1 c1 && pairs l1 c1 l2 c2) || okLen l1 (lenOf (r.val : Int) l0 c0 l1 c1 l2 c2)) = true := by decide +kernel

theorem YD_ok (y : Int) : okLen (lp y) (YD y) = true := by
  obtain ⟨c0, e0, g0⟩ := step (y - 1)
  obtain ⟨c1, e1, g1⟩ := step y
  obtain ⟨c2, e2, g2⟩ := step (y + 1)
  have ey : y - 1 + 1 = y := by omega
  have p01 := pairs_of (y := y - 1) g0 (by rw [ey]; exact g1)
  have p12 := pairs_of (y := y) g1 g2
  rw [ey] at e0 g0 p01
  have hl : YD y = lenOf (d0 (y - 1)) (lp (y - 1)) c0 (lp y) c1 (lp (y + 1)) c2 := by
    unfold YD NY D2 lenOf
    rw [show y + 1 - 1 = y by omega, D1_pst (y - 1), D1_pst y, D1_pst (y + 1), D1_pst (y + 1 + 1), e2, e1, e0]
    simp only
    omega
  rw [hl, show d0 (y - 1) = 7 * (d0 (y - 1) / 7) + d0 (y - 1) % 7 by omega, lenOf_add]
  have hr : (0 : Int) ≤ d0 (y - 1) % 7 ∧ d0 (y - 1) % 7 < 7 := by omega
  have ht := len_tab ⟨(d0 (y - 1) % 7).toNat, by omega⟩ (lp (y - 1)) c0 (lp y) c1 (lp (y + 1)) c2
  rw [p01, p12] at ht
  simp only [Bool.and_self, Bool.not_true, Bool.false_or] at ht
  rw [Int.toNat_of_nonneg hr.1] at ht
  exact ht
theorem YD_leap {y : Int} (h : lp y = true) : YD y = 383 ∨ YD y = 384 ∨ YD y = 385 := by
  have := YD_ok y
  rw [h] at this
  simpa [okLen] using this
theorem YD_common {y : Int} (h : lp y = false) : YD y = 353 ∨ YD y = 354 ∨ YD y = 355 := by
  have := YD_ok y
  rw [h] at this
  simpa [okLen] using this
theorem YD_bd (y : Int) : 353 ≤ YD y ∧ YD y ≤ 385 := by
  cases h : lp y with
  | true => have := YD_leap h; omega
  | false => have := YD_common h; omega
theorem NY_next (y : Int) : NY (y + 1) = NY y + YD y := by unfold YD; omega

theorem JD_lin (y m d : Int) : JD y m d = JD y m 1 + d - 1 := by unfold JD; omega
theorem SM_succ (y a : Int) (n : Nat) : SM y a (n + 1) = SM y a n + ML y (a + n) := rfl
theorem SM_mono (y a : Int) {n n' : Nat} (h : n ≤ n') : SM y a n ≤ SM y a n' := by
  induction h with
  | refl => exact Int.le_refl _
  | @step q _ ih =>
    have := ML_bd y (a + (q : Int))
    rw [SM_succ]
    omega
theorem JD_low {y m : Int} (hm : m < 7) (d : Int) : JD y m d = NY y - 1 + d + SM y 7 (YM y + 1 - 7).toNat + SM y 1 (m - 1).toNat := by unfold JD; rw [if_pos hm]; omega
theorem JD_high {y m : Int} (hm : 7 ≤ m) (d : Int) : JD y m d = NY y - 1 + d + SM y 7 (m - 7).toNat := by unfold JD; rw [if_neg (by omega)]
theorem SM_next {y a m : Int} (h : a ≤ m) : SM y a (m + 1 - a).toNat = SM y a (m - a).toNat + ML y m := by
  have e : (m + 1 - a).toNat = (m - a).toNat + 1 := by omega
  rw [e, SM_succ]
  congr 2
  omega
theorem JD_succ {y m : Int} (h1 : 1 ≤ m) (h6 : m ≠ 6) : JD y (m + 1) 1 = JD y m (ML y m) + 1 := by
  rcases Int.lt_or_le m 7 with h | h
  · rw [JD_low (by omega), JD_low h, SM_next h1]; omega
  · rw [JD_high (by omega), JD_high h, SM_next h]; omega
theorem JD_adar (y : Int) : JD y 1 1 = JD y (YM y) (ML y (YM y)) + 1 := by
  have := YM_or y
  rw [JD_low (by decide), JD_high (by omega), SM_next (show 7 ≤ YM y by omega)]
  have e : ((1 : Int) - 1).toNat = 0 := by decide
  rw [e]
  show _ + SM y 1 0 = _
  simp only [SM]
  omega
theorem ML_fix (y m : Int) : (m = 2 ∨ m = 4 ∨ m = 6 ∨ m = 10 ∨ m = 13 → ML y m = 29) ∧ (m = 1 ∨ m = 3 ∨ m = 5 ∨ m = 7 ∨ m = 11 → ML y m = 30) := by
  unfold ML
  constructor
  · intro h; rw [if_pos h]
  · intro h; rw [if_neg (by omega), if_neg (by omega), if_neg (by omega), if_neg (by omega)]
theorem ML_8 (y : Int) : ML y 8 = if YD y % 10 = 5 then 30 else 29 := by
  unfold ML
  rw [if_neg (by decide), if_neg (by intro h; exact absurd h.1 (by decide))]
  by_cases h : YD y % 10 = 5
  · rw [if_neg (by omega), if_neg (by omega), if_pos h]
  · rw [if_pos ⟨rfl, h⟩, if_neg h]
theorem ML_9 (y : Int) : ML y 9 = if YD y % 10 = 3 then 29 else 30 := by
  unfold ML
  rw [if_neg (by decide), if_neg (by intro h; exact absurd h.1 (by decide)), if_neg (by omega)]
  by_cases h : YD y % 10 = 3
  · rw [if_pos ⟨rfl, h⟩, if_pos h]
  · rw [if_neg (by omega), if_neg h]
theorem ML_12 (y : Int) : ML y 12 = if lp y = true then 30 else 29 := by
  unfold ML
  rw [if_neg (by decide)]
  cases h : lp y with
  | true => rw [if_neg (by simp), if_neg (by omega), if_neg (by omega)]; rfl
  | false => rw [if_pos ⟨rfl, rfl⟩]; rfl
theorem JD_elul (y : Int) : NY (y + 1) = JD y 6 (ML y 6) + 1 := by
  rw [NY_next, JD_low (by decide)]
  have e : ((6 : Int) - 1).toNat = 5 := by decide
  rw [e, (ML_fix y 6).1 (by decide)]
  have s5 : SM y 1 5 = 30 + 29 + 30 + 29 + 30 := by
    have a1 := (ML_fix y 1).2 (by decide)
    have a2 := (ML_fix y 2).1 (by decide)
    have a3 := (ML_fix y 3).2 (by decide)
    have a4 := (ML_fix y 4).1 (by decide)
    have a5 := (ML_fix y 5).2 (by decide)
    have s : SM y 1 5 = 0 + ML y 1 + ML y 2 + ML y 3 + ML y 4 + ML y 5 := rfl
    rw [s, a1, a2, a3, a4, a5]
    decide
  rw [s5]
  have b7 := (ML_fix y 7).2 (by decide)
  have b8 := ML_8 y
  have b9 := ML_9 y
  have b10 := (ML_fix y 10).1 (by decide)
  have b11 := (ML_fix y 11).2 (by decide)
  have b12 := ML_12 y
  have b13 := (ML_fix y 13).1 (by decide)
  have s6 : SM y 7 6 = 0 + ML y 7 + ML y 8 + ML y 9 + ML y 10 + ML y 11 + ML y 12 := rfl
  have s7 : SM y 7 7 = 0 + ML y 7 + ML y 8 + ML y 9 + ML y 10 + ML y 11 + ML y 12 + ML y 13 := rfl
  cases hl : lp y with
  | true =>
    have hy : YM y = 13 := by unfold YM; rw [hl]; rfl
    have e2 : (YM y + 1 - 7).toNat = 7 := by omega
    rw [hl] at b12
    simp only [if_true] at b12
    rw [e2, s7, b7, b8, b9, b10, b11, b12, b13]
    have := YD_leap hl
    (repeat' split) <;> omega
  | false =>
    have hy : YM y = 12 := by unfold YM; rw [hl]; rfl
    have e2 : (YM y + 1 - 7).toNat = 6 := by omega
    rw [hl] at b12
    simp only [Bool.false_eq_true, if_false] at b12
    rw [e2, s6, b7, b8, b9, b10, b11, b12]
    have := YD_common hl
    (repeat' split) <;> omega

theorem NY_mono {y y' : Int} (h : y ≤ y') : NY y ≤ NY y' := by
  have e : ∀ n : Nat, NY y ≤ NY (y + n) := by
    intro n
    induction n with
    | zero => simp
    | succ n ih =>
      have h1 := NY_next (y + n)
      have h2 := YD_bd (y + n)
      have h3 : y + ((n + 1 : Nat) : Int) = y + n + 1 := by omega
      rw [h3]
      omega
  have := e (y' - y).toNat
  rw [show y + ((y' - y).toNat : Int) = y' by omega] at this
  exact this

/-- k is the day d of the month m of the year y -/
structure IsDate (k y m d : Int) : Prop where
  m1 : 1 ≤ m
  m2 : m ≤ YM y
  d1 : 1 ≤ d
  d2 : d ≤ ML y m
  at_ : JD y m d = k

theorem IsDate.low {k y m d : Int} (h : IsDate k y m d) : NY y ≤ k := by
  obtain ⟨m1, m2, d1, d2, rfl⟩ := h
  rcases Int.lt_or_le m 7 with hm | hm
  · rw [JD_low hm]
    have h3 := SM_bd y 7 (YM y + 1 - 7).toNat
    have h4 := SM_bd y 1 (m - 1).toNat
    omega
  · rw [JD_high hm]
    have h5 := SM_bd y 7 (m - 7).toNat
    omega
theorem IsDate.up {k y m d : Int} (h : IsDate k y m d) : k < NY (y + 1) := by
  obtain ⟨m1, m2, d1, d2, rfl⟩ := h
  rw [JD_elul, JD_low (m := 6) (by decide)]
  have hM := YM_or y
  have b6 := ML_bd y 6
  rcases Int.lt_or_le m 7 with hm | hm
  · rw [JD_low hm]
    by_cases h6 : m = 6
    · subst h6; omega
    · have h4 := SM_mono y 1 (n := (m + 1 - 1).toNat) (n' := ((6 : Int) - 1).toNat) (by omega)
      rw [SM_next m1] at h4
      omega
  · rw [JD_high hm]
    have h4 := SM_mono y 7 (n := (m + 1 - 7).toNat) (n' := (YM y + 1 - 7).toNat) (by omega)
    have h5 := SM_bd y 1 ((6 : Int) - 1).toNat
    rw [SM_next hm] at h4
    omega
theorem IsDate.year {k y m d y' m' d' : Int} (h : IsDate k y m d) (h' : IsDate k y' m' d') : y = y' := by
  have a := h.low
  have b := h.up
  have a' := h'.low
  have b' := h'.up
  rcases Int.lt_trichotomy y y' with c | c | c
  · have := NY_mono (y := y + 1) (y' := y') (by omega); omega
  · exact c
  · have := NY_mono (y := y' + 1) (y' := y) (by omega); omega
theorem month_apart {k y m d m' d' : Int} (h : IsDate k y m d) (h' : IsDate k y m' d') (hlt : m < m') : m < 7 ∧ 7 ≤ m' := by
  obtain ⟨m1, m2, d1, d2, rfl⟩ := h
  obtain ⟨m1', m2', d1', d2', e⟩ := h'
  rcases Int.lt_or_le m 7 with hm | hm
  · rcases Int.lt_or_le m' 7 with hm' | hm'
    · exfalso
      rw [JD_low hm, JD_low hm'] at e
      have h4 := SM_mono y 1 (n := (m + 1 - 1).toNat) (n' := (m' - 1).toNat) (by omega)
      rw [SM_next m1] at h4
      omega
    · exact ⟨hm, hm'⟩
  · exfalso
    rw [JD_high hm, JD_high (by omega)] at e
    have h4 := SM_mono y 7 (n := (m + 1 - 7).toNat) (n' := (m' - 7).toNat) (by omega)
    rw [SM_next hm] at h4
    omega
theorem halves_apart {k y m d m' d' : Int} (h : IsDate k y m d) (h' : IsDate k y m' d') (hm : m < 7) (hm' : 7 ≤ m') : False := by
  obtain ⟨m1, m2, d1, d2, rfl⟩ := h
  obtain ⟨m1', m2', d1', d2', e⟩ := h'
  rw [JD_low hm, JD_high hm'] at e
  have h4 := SM_mono y 7 (n := (m' + 1 - 7).toNat) (n' := (YM y + 1 - 7).toNat) (by omega)
  have h5 := SM_bd y 1 (m - 1).toNat
  rw [SM_next hm'] at h4
  omega
theorem IsDate.uniq {k y m d y' m' d' : Int} (h : IsDate k y m d) (h' : IsDate k y' m' d') : y = y' ∧ m = m' ∧ d = d' := by
  have e := h.year h'
  subst e
  have em : m = m' := by
    rcases Int.lt_trichotomy m m' with c | c | c
    · have := month_apart h h' c
      exact (halves_apart h h' this.1 this.2).elim
    · exact c
    · have := month_apart h' h c
      exact (halves_apart h' h this.1 this.2).elim
  subst em
  refine ⟨rfl, rfl, ?_⟩
  have e1 := h.at_
  have e2 := h'.at_
  rw [JD_lin] at e1 e2
  omega

theorem D1_up (y : Int) : D1 y ≤ mo y * 29 + (12084 + 13753 * mo y) / 25920 + 1 := by
  rw [D1_pst]; unfold d0 pst
  split <;> omega
theorem D1_low (y : Int) : mo y * 29 + (12084 + 13753 * mo y) / 25920 ≤ D1 y := by
  rw [D1_pst]; unfold d0 pst
  split <;> omega
theorem mo_bds (y : Int) : 19 * mo y ≤ 235 * y - 234 ∧ 235 * y - 234 < 19 * mo y + 19 := by unfold mo; omega
theorem NY_small {y : Int} (h : NY y ≤ 10400000) : y ≤ 29000 := by
  have h1 := D1_low y
  have h2 := D2_bd y
  have h3 := mo_bds y
  unfold NY at h
  generalize D1 y = a at *
  generalize D2 y = b at *
  generalize mo y = m at *
  omega
theorem guess_ok {k : Int} (h0 : 348399 ≤ k) (h1 : k ≤ 10348500) : 1 ≤ (2 * k + 1 - 695991) * 98496 / 71950702 ∧ (2 * k + 1 - 695991) * 98496 / 71950702 ≤ 29000 ∧ NY ((2 * k + 1 - 695991) * 98496 / 71950702 - 1) ≤ k := by
  have hc : 71950702 * ((2 * k + 1 - 695991) * 98496 / 71950702) ≤ (2 * k + 1 - 695991) * 98496 ∧ (2 * k + 1 - 695991) * 98496 < 71950702 * ((2 * k + 1 - 695991) * 98496 / 71950702) + 71950702 := by omega
  generalize (2 * k + 1 - 695991) * 98496 / 71950702 = c at *
  refine ⟨by omega, by omega, ?_⟩
  have h4 := D1_up (c - 1)
  have h2 := D2_bd (c - 1)
  have h3 := mo_bds (c - 1)
  unfold NY
  generalize D1 (c - 1) = a at *
  generalize D2 (c - 1) = b at *
  generalize mo (c - 1) = m at *
  omega
theorem NY_first : NY 1 = 347997 ∧ NY 2 = 348352 := by decide +kernel
theorem third {k i : Int} (h0 : 348399 ≤ k) (h1 : 1 ≤ i) (h : k < NY i) : 3 ≤ i := by
  have e := NY_first
  by_cases a : i = 1
  · subst a; omega
  · by_cases b : i = 2
    · subst b; omega
    · omega

/-- what holds of the month's number while from_jd seeks it -/
def Seek (k y m : Int) : Prop := (7 ≤ m ∧ m ≤ YM y ∧ k < JD y 1 1 ∧ JD y m 1 ≤ k) ∨ (1 ≤ m ∧ m ≤ 6 ∧ k < NY (y + 1) ∧ JD y m 1 ≤ k)
theorem Seek.bd {k y m : Int} (h : Seek k y m) : 1 ≤ m ∧ m ≤ 13 := by
  have := YM_or y
  rcases h with h | h <;> omega
theorem Seek.first7 {k y : Int} (h : NY y ≤ k) (h1 : k < JD y 1 1) : Seek k y 7 := by
  have := YM_or y
  refine .inl ⟨by omega, by omega, h1, ?_⟩
  rw [JD_high (by decide)]
  show _ + SM y 7 0 ≤ k
  simp only [SM]
  omega
theorem Seek.first1 {k y : Int} (h : k < NY (y + 1)) (h1 : ¬ k < JD y 1 1) : Seek k y 1 := .inr ⟨by omega, by omega, h, by omega⟩
theorem Seek.next {k y m : Int} (h : Seek k y m) (h1 : JD y m (ML y m) < k) : Seek k y (m + 1) := by
  rcases h with ⟨a, b, c, d⟩ | ⟨a, b, c, d⟩
  · have hne : m ≠ YM y := by
      rintro rfl
      have := JD_adar y
      omega
    refine .inl ⟨by omega, by omega, c, ?_⟩
    rw [JD_succ (by omega) (by omega)]
    omega
  · have hne : m ≠ 6 := by
      rintro rfl
      have := JD_elul y
      omega
    refine .inr ⟨by omega, by omega, c, ?_⟩
    rw [JD_succ (by omega) (by omega)]
    omega
theorem Seek.found {k y m : Int} (h : Seek k y m) (h1 : ¬ JD y m (ML y m) < k) : IsDate k y m (k - JD y m 1 + 1) := by
  have hM := YM_or y
  have e := JD_lin y m (ML y m)
  have e2 := JD_lin y m (k - JD y m 1 + 1)
  rcases h with ⟨a, b, c, d⟩ | ⟨a, b, c, d⟩
  · exact ⟨by omega, by omega, by omega, by omega, by omega⟩
  · exact ⟨by omega, by omega, by omega, by omega, by omega⟩

/-- the day behind a month's last is the next month's first -/
theorem IsDate.over6 {k y m d : Int} (h : IsDate k y m d) (hm : m = 6) : IsDate (k + (ML y m - d) + 1) (y + 1) 7 1 := by
  subst hm
  have e := JD_elul y
  have e1 := h.at_
  have e2 := JD_lin y 6 d
  have e3 := JD_lin y 6 (ML y 6)
  have hM := YM_or (y + 1)
  have hb := ML_bd (y + 1) 7
  refine ⟨by decide, by omega, by decide, by omega, ?_⟩
  rw [JD_high (by decide)]
  show _ + SM (y + 1) 7 0 = _
  simp only [SM]
  omega
theorem IsDate.overYM {k y m d : Int} (h : IsDate k y m d) (hm : m = 13 ∨ (m = 12 ∧ lp y = false)) : IsDate (k + (ML y m - d) + 1) y 1 1 := by
  have hy : m = YM y := by
    have h2 := h.m2
    rcases hm with rfl | ⟨rfl, hl⟩
    · have := YM_or y; omega
    · unfold YM; rw [hl]; rfl
  have e := JD_adar y
  rw [← hy] at e
  have e1 := h.at_
  have e2 := JD_lin y m d
  have e3 := JD_lin y m (ML y m)
  have hM := YM_or y
  have hb := ML_bd y 1
  exact ⟨by decide, by omega, by decide, by omega, by omega⟩
theorem IsDate.overM {k y m d : Int} (h : IsDate k y m d) (h6 : m ≠ 6) (h13 : m ≠ 13) (h12 : m ≠ 12 ∨ lp y = true) : IsDate (k + (ML y m - d) + 1) y (m + 1) 1 := by
  have hy : m + 1 ≤ YM y := by
    have h2 := h.m2
    have hM := YM_or y
    rcases h12 with h12 | h12
    · omega
    · have : YM y = 13 := by unfold YM; rw [h12]; rfl
      omega
  have h1 := h.m1
  have e := JD_succ (y := y) h1 h6
  have e1 := h.at_
  have e2 := JD_lin y m d
  have e3 := JD_lin y m (ML y m)
  have hb := ML_bd y (m + 1)
  exact ⟨by omega, hy, by decide, by omega, by omega⟩
theorem IsDate.later {k y m d n : Int} (h : IsDate k y m d) (h0 : 0 ≤ n) (h1 : n ≤ ML y m - d) : IsDate (k + n) y m (d + n) := by
  have e1 := h.at_
  have e2 := JD_lin y m d
  have e3 := JD_lin y m (d + n)
  have := h.d1
  exact ⟨h.m1, h.m2, by omega, by omega, by omega⟩
theorem IsDate.yearBd {k y m d : Int} (h : IsDate k y m d) (h1 : k ≤ 10400000) : y ≤ 29000 := NY_small (Int.le_trans h.low h1)
theorem IsDate.m13 {k y m d : Int} (h : IsDate k y m d) : m ≤ 13 := by
  have := YM_or y
  have := h.m2
  omega

/-! ## Floats that are halves of ints -/
section
open PySem.Float64

/-- the float of n halves -/
@[irreducible] def fh (n : Int) : UInt64 := Float64.ofFrac false n.toNat 2

theorem V_inj {t t' : Nat} (h : V t = V t') : t = t' := by
  rcases Nat.lt_trichotomy t t' with h1 | h1 | h1
  · have := V_lt h1; omega
  · exact h1
  · have := V_lt h1; omega

/-- n * 2^j is met by a float, and by which -/
theorem V_hits {n j : Nat} (h0 : 0 < n) (h : n < 2 ^ 53) (hj : 52 ≤ j) (hj2 : j ≤ 1100) : ∃ t, V t = n * 2 ^ j ∧ t < infMag ∧ 0 < t ∧ ∃ k, V t = V (t - 1) + 2 ^ k ∧ 2 ^ k * 2 ^ 52 ≤ n * 2 ^ j := by
  have hl : n.log2 ≤ 52 := by
    have := (Nat.log2_lt (by omega : n ≠ 0)).mpr h
    omega
  have h1 : 2 ^ n.log2 ≤ n := Nat.log2_self_le (by omega)
  have h2 : n < 2 ^ (n.log2 + 1) := Nat.lt_log2_self
  generalize n.log2 = l at *
  have e1 : (2 : Nat) ^ 52 = 2 ^ l * 2 ^ (52 - l) := by rw [← Nat.pow_add]; congr 1; omega
  have e2 : (2 : Nat) ^ 53 = 2 ^ (l + 1) * 2 ^ (52 - l) := by rw [← Nat.pow_add]; congr 1; omega
  have ej : (2 : Nat) ^ j = 2 ^ (52 - l) * 2 ^ (j - (52 - l)) := by rw [← Nat.pow_add]; congr 1; omega
  have g1 : 2 ^ 52 ≤ n * 2 ^ (52 - l) := by rw [e1]; exact Nat.mul_le_mul_right _ h1
  have g2 : n * 2 ^ (52 - l) < 2 ^ 53 := by rw [e2]; exact Nat.mul_lt_mul_of_pos_right h2 (Nat.two_pow_pos _)
  have hV : V ((j - (52 - l)) * 2 ^ 52 + n * 2 ^ (52 - l)) = n * 2 ^ (52 - l) * 2 ^ (j - (52 - l)) := V_at (Nat.le_of_lt g2) (.inl g1)
  have hV' : V ((j - (52 - l)) * 2 ^ 52 + n * 2 ^ (52 - l)) = n * 2 ^ j := by rw [hV, ej, Nat.mul_assoc]
  have hinf : infMag = 2047 * 2 ^ 52 := rfl
  refine ⟨_, hV', by omega, by omega, ?_⟩
  by_cases hq : 2 ^ 52 < n * 2 ^ (52 - l)
  · refine ⟨j - (52 - l), ?_, ?_⟩
    · have e3 : (j - (52 - l)) * 2 ^ 52 + n * 2 ^ (52 - l) - 1 = (j - (52 - l)) * 2 ^ 52 + (n * 2 ^ (52 - l) - 1) := by omega
      rw [hV, e3, V_at (by omega) (.inl (by omega)), Nat.sub_mul, Nat.one_mul]
      have : 2 ^ (j - (52 - l)) ≤ n * 2 ^ (52 - l) * 2 ^ (j - (52 - l)) := by
        calc 2 ^ (j - (52 - l)) = 1 * 2 ^ (j - (52 - l)) := by omega
          _ ≤ _ := Nat.mul_le_mul_right _ (by omega)
      omega
    · rw [ej, Nat.mul_comm, ← Nat.mul_assoc]
      exact Nat.mul_le_mul_right _ g1
  · have hq2 : n * 2 ^ (52 - l) = 2 ^ 52 := by omega
    by_cases hz : j - (52 - l) = 0
    · refine ⟨0, ?_, ?_⟩
      · have e3 : (j - (52 - l)) * 2 ^ 52 + n * 2 ^ (52 - l) - 1 = 0 * 2 ^ 52 + (2 ^ 52 - 1) := by rw [hz, hq2]
        rw [hV, e3, V_at (by omega) (.inr rfl), hz, hq2]
      · rw [ej, hz, ← Nat.mul_assoc, hq2]; exact Nat.le_of_eq (Nat.mul_comm _ _)
    · refine ⟨j - (52 - l) - 1, ?_, ?_⟩
      · have e3 : (j - (52 - l)) * 2 ^ 52 + n * 2 ^ (52 - l) - 1 = (j - (52 - l) - 1) * 2 ^ 52 + (2 ^ 53 - 1) := by rw [hq2]; omega
        have e4 : (2 : Nat) ^ (j - (52 - l)) = 2 * 2 ^ (j - (52 - l) - 1) := by rw [← Nat.pow_succ']; congr 1; omega
        rw [hV, e3, V_at (by omega) (.inl (by omega)), hq2, e4]
        generalize 2 ^ (j - (52 - l) - 1) = z
        omega
      · have e4 : (2 : Nat) ^ (j - (52 - l)) = 2 * 2 ^ (j - (52 - l) - 1) := by rw [← Nat.pow_succ']; congr 1; omega
        rw [ej, ← Nat.mul_assoc, hq2, e4]
        generalize 2 ^ (j - (52 - l) - 1) = z
        omega

@[irreducible] def U : Nat := 2 ^ 1073
theorem U_is : U = 2 ^ 1073 := by unfold U; rfl
theorem U_two : (2 : Nat) ^ 1074 = 2 * U := by rw [U_is, ← Nat.pow_succ']
theorem U_pos : 0 < U := by rw [U_is]; exact Nat.two_pow_pos _
theorem U_posI : (0 : Int) < (U : Int) := Int.ofNat_lt.mpr U_pos

theorem dist_self (a : Nat) : dist a a = 0 := by unfold dist; omega
theorem dist_zero {a b : Nat} (h : dist a b = 0) : a = b := by unfold dist at h; omega
theorem big_lt : 2 * (2 ^ 53 * 2 ^ 1100) < (2 ^ 54 - 1) * 2 ^ 2045 := by decide +kernel

/-- an exact result is met -/
theorem right_exact {neg : Bool} {r : UInt64} {W D n j : Nat} (hr : Right r neg W D) (hD : 0 < D) (h0 : 0 < n) (h : n < 2 ^ 53) (hj : 52 ≤ j) (hj2 : j ≤ 1100) (hW : W = D * (n * 2 ^ j)) :
    ∃ t, r = pack neg t ∧ t < infMag ∧ V t = n * 2 ^ j := by
  obtain ⟨t, rfl, hle, hov, hnear⟩ := hr
  obtain ⟨t', hV, _, _, _⟩ := V_hits h0 h hj hj2
  have hlt : t < infMag := by
    refine Nat.lt_of_le_of_ne hle fun e => ?_
    have h1 := hov.mp e
    have h4 := big_lt
    have h3 : 2 * (n * 2 ^ j) ≤ 2 * (2 ^ 53 * 2 ^ 1100) := Nat.mul_le_mul_left _ (Nat.mul_le_mul (Nat.le_of_lt h) (Nat.pow_le_pow_right (by decide) hj2))
    generalize (2 ^ 54 - 1) * 2 ^ 2045 = big at *
    generalize 2 * (2 ^ 53 * 2 ^ 1100) = mid at *
    generalize n * 2 ^ j = z at *
    rw [hW, Nat.mul_left_comm] at h1
    have h2 := Nat.le_of_mul_le_mul_left h1 hD
    omega
  refine ⟨t, rfl, hlt, ?_⟩
  have h1 := (hnear hlt t').1
  rw [hV, hW, dist_self] at h1
  have h2 := dist_zero (Nat.le_zero.mp h1)
  exact (Nat.eq_of_mul_eq_mul_left hD h2).symm

theorem fh_pack {n : Int} (h0 : 0 < n) (h : n < 2 ^ 53) : ∃ t, fh n = pack false t ∧ t < infMag ∧ V t = n.toNat * U := by
  rw [U_is]
  unfold fh
  refine right_exact (D := 2) (W := n.toNat * 2 ^ 1074) (ofFrac_right (by decide) (by generalize (2 : Nat) ^ 1074 = K; exact rfl) (by decide)) (by decide) (by omega) (by omega) (by decide) (by decide) ?_
  rw [← U_is, U_two]
  generalize U = K
  ac_rfl
theorem fh_zero : fh 0 = zero false := by decide +kernel
theorem fh_pack0 {n : Int} (h0 : 0 ≤ n) (h : n < 2 ^ 53) : ∃ t, fh n = pack false t ∧ t < infMag ∧ V t = n.toNat * U := by
  rcases Int.lt_or_eq_of_le h0 with h1 | h1
  · exact fh_pack h1 h
  · subst h1
    exact ⟨0, fh_zero, by decide, by rw [V_zero]; simp⟩

theorem fh_val {n : Int} (h0 : 0 ≤ n) (h : n < 2 ^ 53) : val (fh n) = n * (U : Int) := by
  obtain ⟨t, e, ht, hV⟩ := fh_pack0 h0 h
  rw [e, val_pack false ht, hV]
  unfold sgn
  simp only [Bool.false_eq_true, if_false]
  rw [Int.natCast_mul, Int.toNat_of_nonneg h0]
theorem fh_dec {n : Int} (h0 : 0 ≤ n) (h : n < 2 ^ 53) : ∃ m e, decode (fh n) = .fin false m e ∧ m * 2 ^ (e + 1074).toNat = n.toNat * U := by
  obtain ⟨t, e, ht, hV⟩ := fh_pack0 h0 h
  obtain ⟨m, e', hd, hv⟩ := decode_pack false ht
  exact ⟨m, e', by rw [e]; exact hd, by rw [hv, hV]⟩

/-- the right float is that float -/
theorem fh_of_right {r : UInt64} {W D : Nat} {n : Int} (hr : Right r false W D) (hD : 0 < D) (h0 : 0 < n) (h : n < 2 ^ 53) (hW : W = D * (n.toNat * U)) : r = fh n := by
  obtain ⟨t, e, _, hV⟩ := right_exact hr hD (n := n.toNat) (j := 1073) (by omega) (by omega) (by decide) (by decide) (by rw [hW, U_is])
  obtain ⟨t', e', _, hV'⟩ := fh_pack h0 h
  rw [← U_is] at hV
  rw [e, e', V_inj (hV.trans hV'.symm)]

theorem ofInt_fh {k : Int} (h0 : 0 ≤ k) (h : k < 2 ^ 52) : ofInt k = fh (2 * k) := by
  rcases Int.lt_or_eq_of_le h0 with h1 | h1
  · have hr := ofInt_right k
    rw [decide_eq_false (by omega)] at hr
    refine fh_of_right hr (by decide) (by omega) (by omega) ?_
    rw [U_two]
    have e2 : (2 * k).toNat = 2 * k.natAbs := by omega
    rw [e2]
    generalize U = K
    ac_rfl
  · subst h1; decide +kernel

theorem natAbs_scale {n : Int} (h0 : 0 ≤ n) (K : Nat) : (n * (K : Int)).natAbs = 1 * (n.toNat * K) := by
  rw [Int.natAbs_mul, Int.natAbs_natCast, Nat.one_mul]
  congr 1
  omega

theorem add_fh {a b : Int} (ha : 0 ≤ a) (hb : 0 ≤ b) (h : a + b < 2 ^ 53) : Float64.add (fh a) (fh b) = fh (a + b) := by
  obtain ⟨m, e, hd, _⟩ := fh_dec ha (by omega)
  obtain ⟨m', e', hd', _⟩ := fh_dec hb (by omega)
  have hr := add_right hd hd'
  rw [fh_val ha (by omega), fh_val hb (by omega), ← Int.add_mul] at hr
  rcases Int.lt_or_eq_of_le (show 0 ≤ a + b by omega) with h1 | h1
  · have h2 : 0 < (a + b) * (U : Int) := Int.mul_pos h1 U_posI
    have h3 := hr.2 (by omega)
    rw [decide_eq_false (by omega)] at h3
    exact fh_of_right h3 (by decide) h1 h (natAbs_scale (by omega) _)
  · rw [← h1, fh_zero]
    exact hr.1 (by rw [← h1]; omega)
theorem sub_fh {a b : Int} (hb : 0 ≤ b) (hab : b ≤ a) (h : a < 2 ^ 53) : Float64.sub (fh a) (fh b) = fh (a - b) := by
  obtain ⟨m, e, hd, _⟩ := fh_dec (n := a) (by omega) (by omega)
  obtain ⟨m', e', hd', _⟩ := fh_dec hb (by omega)
  have hr := sub_right hd hd'
  rw [fh_val (by omega) (by omega), fh_val hb (by omega), ← Int.sub_mul] at hr
  rcases Int.lt_or_eq_of_le (show 0 ≤ a - b by omega) with h1 | h1
  · have h2 : 0 < (a - b) * (U : Int) := Int.mul_pos h1 U_posI
    have h3 := hr.2 (by omega)
    rw [decide_eq_false (by omega)] at h3
    exact fh_of_right h3 (by decide) h1 (by omega) (natAbs_scale (by omega) _)
  · rw [← h1, fh_zero]
    exact hr.1 (by rw [← h1]; omega)

theorem cmp_scale (p q : Int) {K : Int} (hK : 0 < K) : compare (p * K) (q * K) = compare p q := by
  rcases Int.lt_trichotomy p q with h | h | h
  · rw [Int.compare_eq_lt.mpr h, Int.compare_eq_lt.mpr (Int.mul_lt_mul_of_pos_right h hK)]
  · subst h; simp
  · rw [Int.compare_eq_gt.mpr h, Int.compare_eq_gt.mpr (Int.mul_lt_mul_of_pos_right h hK)]
theorem cmp_fh {a b : Int} (ha : 0 ≤ a) (ha2 : a < 2 ^ 53) (hb : 0 ≤ b) (hb2 : b < 2 ^ 53) : Float64.cmp (fh a) (fh b) = some (compare a b) := by
  obtain ⟨m, e, hd, _⟩ := fh_dec ha ha2
  obtain ⟨m', e', hd', _⟩ := fh_dec hb hb2
  rw [cmp_right hd hd', fh_val ha ha2, fh_val hb hb2, cmp_scale _ _ U_posI]
theorem cmpInt_fh {a : Int} (ha : 0 ≤ a) (ha2 : a < 2 ^ 53) (k : Int) : Float64.cmpInt (fh a) k = some (compare a (2 * k)) := by
  obtain ⟨m, e, hd, _⟩ := fh_dec ha ha2
  have e1 : k * (2 : Int) ^ 1074 = (2 * k) * (U : Int) := by
    have h1 : ((2 ^ 1074 : Nat) : Int) = ((2 * U : Nat) : Int) := congrArg _ U_two
    rw [Int.natCast_pow, Int.natCast_mul] at h1
    rw [show ((2 : Nat) : Int) = 2 from rfl] at h1
    rw [h1, ← Int.mul_assoc, Int.mul_comm k 2]
  rw [cmpInt_right hd, fh_val ha ha2, e1, cmp_scale _ _ U_posI]

/-- floor by the value -/
theorem floorOf_val {m : Nat} {e : Int} {n q : Nat} (he : -1074 ≤ e) (h : m * 2 ^ (e + 1074).toNat = n) (h1 : q * (2 * U) ≤ n) (h2 : n < (q + 1) * (2 * U)) : floorOf false m e = (q : Int) := by
  rw [← U_two] at h1 h2
  unfold floorOf sgn
  simp only [Bool.false_eq_true, if_false]
  split
  · rename_i hp
    have e1 : (e + 1074).toNat = e.toNat + 1074 := by omega
    rw [e1, Nat.pow_add, ← Nat.mul_assoc] at h
    rw [← h] at h1 h2
    have hK : 0 < (2 : Nat) ^ 1074 := Nat.two_pow_pos _
    generalize (2 : Nat) ^ 1074 = K at *
    have a1 := Nat.le_of_mul_le_mul_right h1 hK
    have a2 := Nat.lt_of_mul_lt_mul_right h2
    have a3 : m * 2 ^ e.toNat = q := by omega
    rw [← a3]
    simp
  · rename_i hp
    have e1 : (2 : Nat) ^ 1074 = 2 ^ (-e).toNat * 2 ^ (e + 1074).toNat := by rw [← Nat.pow_add]; congr 1; omega
    rw [e1, ← Nat.mul_assoc, ← h] at h1 h2
    have hK : 0 < (2 : Nat) ^ (e + 1074).toNat := Nat.two_pow_pos _
    generalize (2 : Nat) ^ (e + 1074).toNat = K at *
    have a1 := Nat.le_of_mul_le_mul_right h1 hK
    have a2 := Nat.lt_of_mul_lt_mul_right h2
    have hK2 : 0 < (2 : Nat) ^ (-e).toNat := Nat.two_pow_pos _
    have e2 : (2 : Int) ^ (-e).toNat = ((2 ^ (-e).toNat : Nat) : Int) := by simp
    rw [e2]
    generalize (2 : Nat) ^ (-e).toNat = J at *
    rw [Int.fdiv_eq_ediv_of_nonneg _ (by omega), ← Int.natCast_ediv]
    congr 1
    exact (Nat.div_eq_iff hK2).mpr ⟨by omega, by rw [Nat.add_mul] at a2; omega⟩

/-- a float between two ints has the lower one as its floor -/
theorem floor_between {r : UInt64} {W D q : Nat} (hr : Right r false W D) (hD : 0 < D) (hq : (q + 1) * D < 2 ^ 52) (hlo : D * (q * (2 * U)) ≤ W) (hhi : W + 2 * U ≤ D * ((q + 1) * (2 * U))) : ∃ m e, decode r = .fin false m e ∧ floorOf false m e = (q : Int) := by
  have hq53 : q + 1 < 2 ^ 53 := by
    have : q + 1 ≤ (q + 1) * D := Nat.le_mul_of_pos_right _ hD
    omega
  obtain ⟨t1, hV1, hi1, hp1, k, hk, hk2⟩ := V_hits (n := q + 1) (j := 1074) (by omega) hq53 (by decide) (by decide)
  rw [U_two] at hV1 hk2
  have hU := U_pos
  obtain ⟨t, rfl, hle, hov, hnear⟩ := hr
  have hb : D * 2 ^ k ≤ 2 * U := by
    have h1 : D * 2 ^ k * 2 ^ 52 ≤ (q + 1) * D * (2 * U) := by
      calc D * 2 ^ k * 2 ^ 52 = D * (2 ^ k * 2 ^ 52) := Nat.mul_assoc _ _ _
        _ ≤ D * ((q + 1) * (2 * U)) := Nat.mul_le_mul_left _ hk2
        _ = (q + 1) * D * (2 * U) := by ac_rfl
    have h2 : (q + 1) * D * (2 * U) ≤ 2 ^ 52 * (2 * U) := Nat.mul_le_mul_right _ (Nat.le_of_lt hq)
    rw [Nat.mul_comm _ (2 ^ 52)] at h1
    exact Nat.le_of_mul_le_mul_left (Nat.le_trans h1 h2) (by decide)
  have hpred : W ≤ D * V (t1 - 1) := by
    have h1 : D * V t1 = D * V (t1 - 1) + D * 2 ^ k := by rw [hk, Nat.mul_add]
    rw [hV1] at h1
    omega
  have hlt : t < infMag := by
    refine Nat.lt_of_le_of_ne hle fun e => ?_
    have h1 := hov.mp e
    have h4 := big_lt
    have h3 : 2 * ((q + 1) * (2 * U)) ≤ 2 * (2 ^ 53 * 2 ^ 1100) := by
      rw [← U_two]
      exact Nat.mul_le_mul_left _ (Nat.mul_le_mul (Nat.le_of_lt hq53) (Nat.pow_le_pow_right (by decide) (by decide)))
    generalize (2 ^ 54 - 1) * 2 ^ 2045 = big at *
    generalize 2 * (2 ^ 53 * 2 ^ 1100) = mid at *
    have h5 : D * big ≤ D * (2 * ((q + 1) * (2 * U))) := by
      rw [Nat.mul_left_comm]
      omega
    have h6 := Nat.le_of_mul_le_mul_left h5 hD
    omega
  have up : V t < (q + 1) * (2 * U) := by
    refine Nat.lt_of_not_le fun hc => ?_
    have h1 := (hnear hlt (t1 - 1)).1
    have h2 : V (t1 - 1) < V t1 := V_lt (by omega)
    have h3 : D * V (t1 - 1) < D * V t1 := Nat.mul_lt_mul_of_pos_left h2 hD
    have h4 : D * V t1 ≤ D * V t := Nat.mul_le_mul_left _ (by omega)
    unfold dist at h1
    omega
  have low : q * (2 * U) ≤ V t := by
    refine Nat.le_of_not_lt fun hc => ?_
    by_cases hz : q = 0
    · subst hz; omega
    · obtain ⟨t0, hV0, _, _, _⟩ := V_hits (n := q) (j := 1074) (by omega) (by omega) (by decide) (by decide)
      rw [U_two] at hV0
      have h1 := (hnear hlt t0).1
      rw [hV0] at h1
      have h3 : D * V t < D * (q * (2 * U)) := Nat.mul_lt_mul_of_pos_left hc hD
      unfold dist at h1
      omega
  obtain ⟨m, e, hd, hv⟩ := decode_pack false hlt
  exact ⟨m, e, hd, floorOf_val (decode_ge hd) hv low up⟩

theorem dec_isFin {x : UInt64} {a : Bool} {m : Nat} {e : Int} (h : decode x = .fin a m e) : Float64.isFinite x = true ∧ Float64.isNaN x = false ∧ Float64.isInf x = false := by
  unfold Float64.isFinite Float64.isNaN Float64.isInf
  rw [h]
  exact ⟨rfl, rfl, rfl⟩

/-- what the walk asks of a float's floor -/
def FloorIs (x : UInt64) (q : Int) : Prop := Float64.isNaN x = false ∧ Float64.isInf x = false ∧ Flt.toInt floorOf x = q
theorem floorIs_of {x : UInt64} {m : Nat} {e q : Int} (h : decode x = .fin false m e) (hq : floorOf false m e = q) : FloorIs x q :=
  ⟨(dec_isFin h).2.1, (dec_isFin h).2.2, by rw [Flt.toInt_fin h, hq]⟩

theorem nat_div_bounds (n d : Nat) (hd : 0 < d) : d * (n / d) ≤ n ∧ n + 1 ≤ d * (n / d + 1) := by
  have h1 := Nat.div_add_mod n d
  have h2 := Nat.mod_lt n hd
  rw [Nat.mul_add, Nat.mul_one]
  omega

theorem floor_fh {n : Int} (h0 : 0 ≤ n) (h : n < 2 ^ 53) : FloorIs (fh n) (n / 2) := by
  obtain ⟨m, e, hd, hv⟩ := fh_dec h0 h
  refine floorIs_of hd ?_
  have hU := U_pos
  have e1 : n / 2 = ((n.toNat / 2 : Nat) : Int) := by omega
  rw [e1]
  have hb := nat_div_bounds n.toNat 2 (by decide)
  refine floorOf_val (decode_ge hd) hv ?_ ?_
  · rw [← Nat.mul_assoc]
    exact Nat.mul_le_mul_right _ (by omega)
  · rw [← Nat.mul_assoc]
    exact Nat.mul_lt_mul_of_pos_right (by omega) hU
theorem trunc_fh {n : Int} (h0 : 0 ≤ n) (h : n < 2 ^ 53) : Flt.toInt truncOf (fh n) = n / 2 := by
  obtain ⟨m, e, hd, hv⟩ := fh_dec h0 h
  have h1 := (floor_fh h0 h).2.2
  rw [Flt.toInt_fin hd] at h1 ⊢
  exact h1

theorem floor_div_fh {a b : Int} (ha : 0 ≤ a) (hb : 0 < b) (hb2 : b < 2 ^ 40) (h : a + b < 2 ^ 52) : FloorIs (Float64.div (fh a) (fh b)) (a / b) := by
  obtain ⟨m, e, hd, _⟩ := fh_dec ha (by omega)
  obtain ⟨m', e', hd', hv'⟩ := fh_dec (n := b) (by omega) (by omega)
  have hU := U_pos
  have hk : m' ≠ 0 := by
    rintro rfl
    rw [Nat.zero_mul] at hv'
    have := Nat.mul_pos (show 0 < b.toNat by omega) hU
    omega
  have hr := div_right hd hd' hk
  rw [fh_val ha (by omega), fh_val (n := b) (by omega) (by omega), natAbs_scale ha, natAbs_scale (by omega), Nat.one_mul, Nat.one_mul] at hr
  have e1 : a / b = ((a.toNat / b.toNat : Nat) : Int) := by
    rw [Int.natCast_ediv, Int.toNat_of_nonneg ha, Int.toNat_of_nonneg (by omega)]
  rw [e1]
  have hbn : 0 < b.toNat := by omega
  have hbd := nat_div_bounds a.toNat b.toNat hbn
  have hc : (a.toNat / b.toNat + 1) * b.toNat < 2 ^ 52 := by
    rw [Nat.add_mul, Nat.one_mul, Nat.mul_comm]
    omega
  generalize a.toNat = n at *
  generalize b.toNat = d at *
  generalize n / d = q at *
  rw [U_two] at hr
  have hr2 : Right (Float64.div (fh a) (fh b)) false (n * (2 * U)) d := by
    obtain ⟨t, ht, hle, hov, hnear⟩ := hr
    refine ⟨t, by simpa using ht, hle, ?_, ?_⟩
    · rw [hov]
      generalize (2 ^ 54 - 1) * 2 ^ 2045 = big
      constructor
      · intro h9
        refine Nat.le_of_mul_le_mul_left (c := U) ?_ hU
        calc U * (d * big) = d * U * big := by ac_rfl
          _ ≤ _ := h9
          _ = U * (2 * (n * (2 * U))) := by ac_rfl
      · intro h9
        calc d * U * big = U * (d * big) := by ac_rfl
          _ ≤ U * (2 * (n * (2 * U))) := Nat.mul_le_mul_left _ h9
          _ = _ := by ac_rfl
    · intro hlt t'
      have hs : ∀ v, dist (n * U * (2 * U)) (d * U * v) = U * dist (n * (2 * U)) (d * v) := by
        intro v
        rw [← dist_mul]
        congr 1 <;> ac_rfl
      have h9 := hnear hlt t'
      rw [hs, hs] at h9
      refine ⟨Nat.le_of_mul_le_mul_left h9.1 hU, fun hne he => h9.2 hne (by rw [he])⟩
  obtain ⟨m2, e2, hd2, hf⟩ := floor_between (q := q) hr2 hbn hc (by
    calc d * (q * (2 * U)) = d * q * (2 * U) := by ac_rfl
      _ ≤ n * (2 * U) := Nat.mul_le_mul_right _ hbd.1) (by
    calc n * (2 * U) + 2 * U = (n + 1) * (2 * U) := by rw [Nat.add_mul, Nat.one_mul]
      _ ≤ d * (q + 1) * (2 * U) := Nat.mul_le_mul_right _ hbd.2
      _ = d * ((q + 1) * (2 * U)) := by ac_rfl)
  exact floorIs_of hd2 hf

/-- the float of a quotient of ints -/
@[irreducible] def qf (a b : Int) : UInt64 := Float64.ofFrac (decide (a < 0) != decide (b < 0)) a.natAbs b.natAbs
theorem floor_qf {a b : Int} (hb : 0 < b) (hb2 : b < 2 ^ 40) (ha : a = -234 ∧ b = 19 ∨ a = -166705 ∧ b = 25920 ∨ 0 ≤ a) (h : a + b < 2 ^ 52) : FloorIs (qf a b) (a / b) := by
  rcases ha with ⟨rfl, rfl⟩ | ⟨rfl, rfl⟩ | ha
  · unfold FloorIs; decide +kernel
  · unfold FloorIs; decide +kernel
  · have hr : Right (qf a b) false (a.toNat * (2 * U)) b.toNat := by
      unfold qf
      rw [decide_eq_false (by omega), decide_eq_false (by omega)]
      have e1 : a.natAbs = a.toNat := by omega
      have e2 : b.natAbs = b.toNat := by omega
      rw [e1, e2, ← U_two]
      refine ofFrac_right (by omega) ?_ (by omega)
      generalize (2 : Nat) ^ 1074 = K
      ac_rfl
    have e1 : a / b = ((a.toNat / b.toNat : Nat) : Int) := by
      rw [Int.natCast_ediv, Int.toNat_of_nonneg ha, Int.toNat_of_nonneg (by omega)]
    rw [e1]
    have hbn : 0 < b.toNat := by omega
    have hbd := nat_div_bounds a.toNat b.toNat hbn
    have hc : (a.toNat / b.toNat + 1) * b.toNat < 2 ^ 52 := by
      rw [Nat.add_mul, Nat.one_mul, Nat.mul_comm]
      omega
    generalize a.toNat = n at *
    generalize b.toNat = d at *
    generalize n / d = q at *
    obtain ⟨m2, e2, hd2, hf⟩ := floor_between (q := q) hr hbn hc (by
      calc d * (q * (2 * U)) = d * q * (2 * U) := by ac_rfl
        _ ≤ n * (2 * U) := Nat.mul_le_mul_right _ hbd.1) (by
      calc n * (2 * U) + 2 * U = (n + 1) * (2 * U) := by rw [Nat.add_mul, Nat.one_mul]
        _ ≤ d * (q + 1) * (2 * U) := Nat.mul_le_mul_right _ hbd.2
        _ = d * ((q + 1) * (2 * U)) := by ac_rfl)
    exact floorIs_of hd2 hf

theorem ofInt_any {k : Int} (h : -(2 ^ 52) < k) (h2 : k < 2 ^ 52) : ∃ sg m e, decode (ofInt k) = .fin sg m e ∧ val (ofInt k) = 2 * k * (U : Int) ∧ (0 ≤ k → sg = false) := by
  rcases Int.lt_or_le k 0 with hn | hp
  · have hr := ofInt_right k
    rw [decide_eq_true hn] at hr
    obtain ⟨t, e, hlt, hV⟩ := right_exact hr (n := k.natAbs) (j := 1074) (by decide) (by omega) (by omega) (by decide) (by decide) (by rw [Nat.one_mul])
    obtain ⟨m, e', hd, hv⟩ := decode_pack true hlt
    refine ⟨true, m, e', by rw [e]; exact hd, ?_, fun h9 => by omega⟩
    rw [e, val_pack true hlt, hV, U_two]
    unfold sgn
    simp only [if_true]
    rw [Int.natCast_mul, Int.natCast_mul, ← Int.mul_assoc, ← Int.neg_mul]
    congr 1
    omega
  · rw [ofInt_fh hp h2]
    obtain ⟨m, e, hd, _⟩ := fh_dec (n := 2 * k) (by omega) (by omega)
    exact ⟨false, m, e, hd, fh_val (by omega) (by omega), fun _ => rfl⟩
theorem addInt_fh {a k : Int} (ha : 0 ≤ a) (ha2 : a < 2 ^ 53) (hk : -(2 ^ 52) < k) (hk2 : k < 2 ^ 52) (h0 : 0 < a + 2 * k) (h : a + 2 * k < 2 ^ 53) : Float64.add (fh a) (ofInt k) = fh (a + 2 * k) := by
  obtain ⟨m, e, hd, _⟩ := fh_dec ha ha2
  obtain ⟨sg, m', e', hd', hv, _⟩ := ofInt_any hk hk2
  have hr := add_right hd hd'
  rw [fh_val ha (by omega), hv, ← Int.add_mul] at hr
  have h2 : 0 < (a + 2 * k) * (U : Int) := Int.mul_pos h0 U_posI
  have h3 := hr.2 (by omega)
  rw [decide_eq_false (by omega)] at h3
  exact fh_of_right h3 (by decide) h0 h (natAbs_scale (by omega) _)
theorem intAdd_fh {a k : Int} (ha : 0 ≤ a) (ha2 : a < 2 ^ 53) (hk : 0 ≤ k) (hk2 : k < 2 ^ 52) (h : a + 2 * k < 2 ^ 53) : Float64.add (ofInt k) (fh a) = fh (2 * k + a) := by
  rw [ofInt_fh hk hk2]
  exact add_fh (by omega) ha (by omega)

theorem mul_fh {a : Int} (ha : 0 < a) (h : a * 98496 < 2 ^ 53) : Float64.mul (fh a) (fh 196992) = fh (a * 98496) := by
  obtain ⟨m, e, hd, _⟩ := fh_dec (n := a) (by omega) (by omega)
  obtain ⟨m', e', hd', _⟩ := fh_dec (n := 196992) (by decide) (by decide)
  have hr := mul_right hd hd'
  rw [fh_val (by omega) (by omega), fh_val (n := 196992) (by decide) (by decide), natAbs_scale (by omega), natAbs_scale (by decide), Nat.one_mul, Nat.one_mul, U_two] at hr
  refine fh_of_right hr (Nat.mul_pos (by decide) U_pos) (by omega) h ?_
  have e1 : (a * 98496).toNat = a.toNat * 98496 := by omega
  have e2 : (196992 : Int).toNat = 2 * 98496 := by decide
  rw [e1, e2]
  generalize U = K
  ac_rfl

theorem ofBin_zero (g : Int) : ofBin false 0 g = zero false := by
  have e1 : (shift 0 1 g).1 = 0 := by unfold shift; split <;> simp
  have e2 : ∀ d, roundMag 0 d = 0 := fun d => rfl
  unfold ofBin ofFrac zero
  simp only
  rw [e1, e2]
theorem fmod_fh {a b : Int} (ha : 0 ≤ a) (ha2 : a < 2 ^ 53) (hb : 0 < b) (hb2 : b < 2 ^ 53) : Float64.fmod (fh a) (fh b) = fh (a % b) := by
  obtain ⟨m, e, hd, hv⟩ := fh_dec ha ha2
  obtain ⟨k, f, hd', hv'⟩ := fh_dec (n := b) (by omega) hb2
  have he := decode_ge hd
  have hf := decode_ge hd'
  have hU := U_pos
  have hk : k ≠ 0 := by
    rintro rfl
    rw [Nat.zero_mul] at hv'
    have := Nat.mul_pos (show 0 < b.toNat by omega) hU
    omega
  have hfm : Float64.fmod (fh a) (fh b) = ofBin false ((m * 2 ^ (e - min e f).toNat) % (k * 2 ^ (f - min e f).toNat)) (min e f) := by
    unfold Float64.fmod
    rw [hd, hd']
    simp only
    rw [if_neg (by simpa using hk)]
    unfold align sgn
    simp only [Bool.false_eq_true, if_false, Int.toNat_natCast]
  have hM : (m * 2 ^ (e - min e f).toNat) % (k * 2 ^ (f - min e f).toNat) * 2 ^ (min e f + 1074).toNat = (a % b).toNat * U := by
    have e1 : (e - min e f).toNat + (min e f + 1074).toNat = (e + 1074).toNat := by omega
    have e2 : (f - min e f).toNat + (min e f + 1074).toNat = (f + 1074).toNat := by omega
    have e3 : a % b = ((a.toNat % b.toNat : Nat) : Int) := by
      rw [Int.natCast_emod, Int.toNat_of_nonneg ha, Int.toNat_of_nonneg (by omega)]
    have e4 : (a % b).toNat = a.toNat % b.toNat := by rw [e3, Int.toNat_natCast]
    rw [← Nat.mul_mod_mul_right, Nat.mul_assoc, Nat.mul_assoc, ← Nat.pow_add, ← Nat.pow_add, e1, e2, hv, hv', Nat.mul_mod_mul_right, e4]
  have hr : Right (ofBin false ((m * 2 ^ (e - min e f).toNat) % (k * 2 ^ (f - min e f).toNat)) (min e f)) false ((a % b).toNat * U) 1 := by
    unfold ofBin
    refine ofFrac_right (shift_pos _ _ _ (by decide)) ?_ (by decide)
    have := shift_one ((m * 2 ^ (e - min e f).toNat) % (k * 2 ^ (f - min e f).toNat)) (min e f) 1074 (by omega)
    rw [Nat.mul_one]
    rw [← hM]
    exact this
  rw [hfm]
  have hlt := Int.emod_lt_of_pos a hb
  rcases Int.lt_or_eq_of_le (Int.emod_nonneg a (show b ≠ 0 by omega)) with h1 | h1
  · exact fh_of_right hr (by decide) h1 (by omega) (by rw [Nat.one_mul])
  · rw [← h1] at hM ⊢
    have hz : (m * 2 ^ (e - min e f).toNat) % (k * 2 ^ (f - min e f).toNat) = 0 := by
      have h9 : (0 : Int).toNat * U = 0 := by simp
      rw [h9] at hM
      rcases Nat.mul_eq_zero.mp hM with h | h
      · exact h
      · have := Nat.two_pow_pos (min e f + 1074).toNat
        omega
    rw [hz, fh_zero]
    exact ofBin_zero _
theorem lt_fh {a b : Int} (ha : 0 ≤ a) (ha2 : a < 2 ^ 53) (hb : 0 ≤ b) (hb2 : b < 2 ^ 53) : Float64.lt (fh a) (fh b) = decide (a < b) := by
  unfold Float64.lt
  rw [cmp_fh ha ha2 hb hb2]
  rcases Int.lt_trichotomy a b with h | h | h
  · rw [Int.compare_eq_lt.mpr h, decide_eq_true h]; rfl
  · subst h; simp
  · rw [Int.compare_eq_gt.mpr h, decide_eq_false (by omega)]; rfl
theorem isZero_fh {a : Int} (ha : 0 < a) (ha2 : a < 2 ^ 53) : Float64.isZero (fh a) = false := by
  rw [Flt.isZero_eq, cmpInt_fh (by omega) ha2, Int.compare_eq_gt.mpr (by omega)]
  rfl
theorem mod_fh {a b : Int} (ha : 0 ≤ a) (ha2 : a < 2 ^ 53) (hb : 0 < b) (hb2 : b < 2 ^ 53) : (Float64.divmod (fh a) (fh b)).2 = fh (a % b) := by
  have hlt := Int.emod_lt_of_pos a hb
  unfold Float64.divmod
  simp only
  rw [fmod_fh ha ha2 hb hb2]
  rcases Int.lt_or_eq_of_le (Int.emod_nonneg a (show b ≠ 0 by omega)) with h1 | h1
  · rw [isZero_fh h1 (by omega)]
    simp only [Bool.false_eq_true, if_false]
    rw [← fh_zero, lt_fh (by omega) hb2 (by decide) (by decide), lt_fh (by omega) (by omega) (by decide) (by decide), decide_eq_false (by omega), decide_eq_false (by omega)]
    simp
  · rw [← h1]
    have hz : Float64.isZero (fh 0) = true := by decide +kernel
    rw [hz]
    simp only [if_true]
    obtain ⟨t, e, ht, _⟩ := fh_pack0 (n := b) (by omega) hb2
    have hi : infMag = 2047 * 2 ^ 52 := rfl
    have hs : Float64.signBit (fh b) = false := by
      unfold Float64.signBit
      rw [e, pack_toNat false (by omega)]
      simp
      omega
    unfold Float64.copysign
    rw [hs]
    decide +kernel

open PySem.Flt

theorem lit_epoch : (4689722129631936512 : UInt64) = fh 695991 := by decide +kernel
theorem lit_start : (4689729070299086848 : UInt64) = fh 696799 := by decide +kernel
theorem lit_half : (4602678819172646912 : UInt64) = fh 1 := by decide +kernel
theorem lit_mul : (4681505006791163904 : UInt64) = fh 196992 := by decide +kernel
theorem lit_div : (4720097339732131840 : UInt64) = fh 71950702 := by decide +kernel

theorem not_over {n : Int} (h : -(2 ^ 52) < n ∧ n < 2 ^ 52) : ¬ Over n := by
  unfold Over
  have e : (2 : Nat) ^ 52 < 2 ^ 1024 - 2 ^ 970 := by decide +kernel
  omega
theorem beq_gt (a b : Int) : (some (compare a b) == some Ordering.gt) = decide (b < a) := by
  rcases Int.lt_trichotomy a b with h | h | h
  · rw [Int.compare_eq_lt.mpr h, decide_eq_false (by omega)]; rfl
  · subst h; simp
  · rw [Int.compare_eq_gt.mpr h, decide_eq_true h]; rfl
theorem beq_lt (a b : Int) : (some (compare a b) == some Ordering.lt) = decide (a < b) := by
  rcases Int.lt_trichotomy a b with h | h | h
  · rw [Int.compare_eq_lt.mpr h, decide_eq_true h]; rfl
  · subst h; simp
  · rw [Int.compare_eq_gt.mpr h, decide_eq_false (by omega)]; rfl
theorem beq_eq (a b : Int) : (some (compare a b) == some Ordering.eq) = decide (a = b) := by
  rcases Int.lt_trichotomy a b with h | h | h
  · rw [Int.compare_eq_lt.mpr h, decide_eq_false (by omega)]; rfl
  · subst h; simp
  · rw [Int.compare_eq_gt.mpr h, decide_eq_false (by omega)]; rfl

section
variable {prog : Program} {w : World} {A : Around} {E : Value → Shared → Prop} {s : Shared} {Q : Value → Shared → Prop} {t u : Tok} {x y : UInt64} {a b n : Int}

theorem r_add_fi (hA : A.handled = none) (hx : x = fh a) (hs : 0 ≤ a ∧ a < 2 ^ 52 ∧ -(2 ^ 50) < n ∧ n < 2 ^ 50 ∧ 0 < a + 2 * n) (k : Q (.float (fh (a + 2 * n)) s.toks) { s with toks := s.toks + 1 }) : wpAny (model prog w) A (binaryOp .Add (.float x t) (.int n u)) Q E s := by
  subst hx
  have hno := not_over (n := n) (by omega)
  refine add_fi_sharp hA (fun h => absurd h hno) fun _ => ?_
  rw [addInt_fh (by omega) (by omega) (by omega) (by omega) (by omega) (by omega)]
  exact k
theorem r_iadd_fi (hA : A.handled = none) (hx : x = fh a) (hs : 0 ≤ a ∧ a < 2 ^ 52 ∧ -(2 ^ 50) < n ∧ n < 2 ^ 50 ∧ 0 < a + 2 * n) (k : Q (.float (fh (a + 2 * n)) s.toks) { s with toks := s.toks + 1 }) : wpAny (model prog w) A (inplaceOp .Add (.float x t) (.int n u)) Q E s := by
  subst hx
  have hno := not_over (n := n) (by omega)
  refine iadd_fi hA (fun h => absurd h hno) fun _ => ?_
  rw [addInt_fh (by omega) (by omega) (by omega) (by omega) (by omega) (by omega)]
  exact k
theorem r_add_if (hA : A.handled = none) (hx : x = fh a) (hs : 0 ≤ a ∧ a < 2 ^ 52 ∧ 0 ≤ n ∧ n < 2 ^ 50) (k : Q (.float (fh (2 * n + a)) s.toks) { s with toks := s.toks + 1 }) : wpAny (model prog w) A (binaryOp .Add (.int n u) (.float x t)) Q E s := by
  subst hx
  have hno := not_over (n := n) (by omega)
  refine add_if_sharp hA (fun h => absurd h hno) fun _ => ?_
  rw [intAdd_fh (by omega) (by omega) (by omega) (by omega) (by omega)]
  exact k
theorem r_sub_ff (hx : x = fh a) (hy : y = fh b) (hs : 0 ≤ b ∧ b ≤ a ∧ a < 2 ^ 52) (k : Q (.float (fh (a - b)) s.toks) { s with toks := s.toks + 1 }) : wpAny (model prog w) A (binaryOp .Sub (.float x t) (.float y u)) Q E s := by
  subst hx hy
  refine sub_float ?_
  rw [sub_fh (by omega) (by omega) (by omega)]
  exact k
theorem r_mul_ff (hx : x = fh a) (hy : y = fh 196992) (hs : 0 < a ∧ a < 2 ^ 34) (k : Q (.float (fh (a * 98496)) s.toks) { s with toks := s.toks + 1 }) : wpAny (model prog w) A (binaryOp .Mult (.float x t) (.float y u)) Q E s := by
  subst hx hy
  refine mul_float ?_
  rw [mul_fh (by omega) (by omega)]
  exact k
theorem r_div_ff (hA : A.handled = none) (hx : x = fh a) (hy : y = fh b) (hs : 0 < b ∧ b < 2 ^ 52) (k : Q (.float (Float64.div (fh a) (fh b)) s.toks) { s with toks := s.toks + 1 }) : wpAny (model prog w) A (binaryOp .Div (.float x t) (.float y u)) Q E s := by
  subst hx hy
  refine truediv_float_or hA (fun h => ?_) fun _ => k
  rw [isZero_fh (by omega) (by omega)] at h
  cases h
theorem r_div_ii (hA : A.handled = none) (hs : b ≠ 0 ∧ -(2 ^ 200) < a ∧ a < 2 ^ 200) (k : Q (.float (qf a b) s.toks) { s with toks := s.toks + 1 }) : wpAny (model prog w) A (binaryOp .Div (.int a t) (.int b u)) Q E s := by
  unfold qf at k
  refine div_ii_fits hA ?_ (fun h => absurd h hs.1) fun _ _ => k
  have e : (2 : Nat) ^ 200 < 2 ^ 1023 := Nat.pow_lt_pow_right (by decide) (by decide)
  omega
theorem r_floor {q : Int} (hA : A.handled = none) (hf : FloorIs x q) (k : Q (.int q s.toks) { s with toks := s.toks + 1 }) : wpAny (model prog w) A (call (.builtin "math.floor") [.float x t]) Q E s := by
  refine call_floor_float hA (fun h => ?_) (fun h => ?_) fun _ => ?_
  · rw [hf.1] at h; cases h
  · rw [hf.2.1] at h; cases h
  · rw [hf.2.2]; exact k
theorem r_floor_fh (hA : A.handled = none) (hs : 0 ≤ a ∧ a < 2 ^ 53) (k : Q (.int (a / 2) s.toks) { s with toks := s.toks + 1 }) : wpAny (model prog w) A (call (.builtin "math.floor") [.float (fh a) t]) Q E s :=
  r_floor hA (floor_fh hs.1 hs.2) k
theorem r_floor_odd (hA : A.handled = none) (hs : 0 ≤ n ∧ n < 2 ^ 50) (k : Q (.int n s.toks) { s with toks := s.toks + 1 }) : wpAny (model prog w) A (call (.builtin "math.floor") [.float (fh (2 * n + 1)) t]) Q E s := by
  refine r_floor hA (floor_fh (by omega) (by omega)) ?_
  rw [show (2 * n + 1) / 2 = n by omega]
  exact k
theorem r_floor_qf (hA : A.handled = none) (hs : 0 < b ∧ b < 2 ^ 40 ∧ (a = -234 ∧ b = 19 ∨ a = -166705 ∧ b = 25920 ∨ 0 ≤ a) ∧ a + b < 2 ^ 52) (k : Q (.int (a / b) s.toks) { s with toks := s.toks + 1 }) : wpAny (model prog w) A (call (.builtin "math.floor") [.float (qf a b) t]) Q E s :=
  r_floor hA (floor_qf hs.1 hs.2.1 hs.2.2.1 hs.2.2.2) k
theorem r_floor_div (hA : A.handled = none) (hs : 0 ≤ a ∧ 0 < b ∧ b < 2 ^ 40 ∧ a + b < 2 ^ 52) (k : Q (.int (a / b) s.toks) { s with toks := s.toks + 1 }) : wpAny (model prog w) A (call (.builtin "math.floor") [.float (Float64.div (fh a) (fh b)) t]) Q E s :=
  r_floor hA (floor_div_fh hs.1 hs.2.1 hs.2.2.1 hs.2.2.2) k
theorem r_int (hA : A.handled = none) (hs : 0 ≤ a ∧ a < 2 ^ 53) (k : Q (.int (a / 2) s.toks) { s with toks := s.toks + 1 }) : wpAny (model prog w) A (call (.type "int") [.float (fh a) t]) Q E s := by
  have hf := floor_fh hs.1 hs.2
  refine call_int_float3 hA (fun h => ?_) (fun h => ?_) fun _ => ?_
  · rw [hf.1] at h; cases h
  · rw [hf.2.1] at h; cases h
  · rw [trunc_fh hs.1 hs.2]; exact k
theorem r_mod_fi (hA : A.handled = none) (hs : 0 ≤ a ∧ a < 2 ^ 53 ∧ 0 < n ∧ n < 2 ^ 50) (k : Q (.float (fh (a % (2 * n))) s.toks) { s with toks := s.toks + 1 }) : wpAny (model prog w) A (binaryOp .Mod (.float (fh a) t) (.int n u)) Q E s := by
  have hno := not_over (n := n) (by omega)
  refine mod_fi hA (fun h => absurd h hno) (fun h => by omega) fun _ _ => ?_
  rw [ofInt_fh (by omega) (by omega), mod_fh (by omega) (by omega) (by omega) (by omega)]
  exact k
theorem r_gt (hs : 0 ≤ a ∧ a < 2 ^ 53 ∧ 0 ≤ b ∧ b < 2 ^ 53) (k : Q (.bool (decide (b < a))) s) : wpAny (model prog w) A (compareOp .Gt (.float (fh a) t) (.float (fh b) u)) Q E s := by
  refine AutoFloatOps.gt_0 ?_
  rw [cmp_fh (by omega) (by omega) (by omega) (by omega), beq_gt]
  exact k
theorem r_lt (hs : 0 ≤ a ∧ a < 2 ^ 53 ∧ 0 ≤ b ∧ b < 2 ^ 53) (k : Q (.bool (decide (a < b))) s) : wpAny (model prog w) A (compareOp .Lt (.float (fh a) t) (.float (fh b) u)) Q E s := by
  refine AutoFloatOps.lt_0 ?_
  rw [cmp_fh (by omega) (by omega) (by omega) (by omega), beq_lt]
  exact k
theorem r_ge (hs : 0 ≤ a ∧ a < 2 ^ 53 ∧ 0 ≤ b ∧ b < 2 ^ 53) (k : Q (.bool (decide (b ≤ a))) s) : wpAny (model prog w) A (compareOp .GtE (.float (fh a) t) (.float (fh b) u)) Q E s := by
  refine AutoFloatOps.ge_0 ?_
  rw [cmp_fh (by omega) (by omega) (by omega) (by omega), beq_gt, beq_eq, ← Bool.decide_or]
  have e : decide (b < a ∨ a = b) = decide (b ≤ a) := decide_eq_decide.mpr (by omega)
  rw [e]
  exact k
theorem r_eq (hs : 0 ≤ a ∧ a < 2 ^ 53 ∧ 0 ≤ b ∧ b < 2 ^ 53) (k : Q (.bool (decide (a = b))) s) : wpAny (model prog w) A (compareOp .Eq (.float (fh a) t) (.float (fh b) u)) Q E s := by
  refine AutoFloatOps.eq_0 ?_
  rw [cmp_fh (by omega) (by omega) (by omega) (by omega), beq_eq]
  exact k
theorem r_eq_fi (hs : 0 ≤ a ∧ a < 2 ^ 53) (k : Q (.bool (decide (a = 2 * n))) s) : wpAny (model prog w) A (compareOp .Eq (.float (fh a) t) (.int n u)) Q E s := by
  refine eq_fi ?_
  rw [cmpInt_fh (by omega) (by omega), beq_eq]
  exact k
theorem r_ne_fi (hs : 0 ≤ a ∧ a < 2 ^ 53) (k : Q (.bool (!decide (a = 2 * n))) s) : wpAny (model prog w) A (compareOp .NotEq (.float (fh a) t) (.int n u)) Q E s := by
  refine ne_fi ?_
  rw [cmpInt_fh (by omega) (by omega), bne, beq_eq]
  exact k
end
end

/-! ## The walk: one contract a def -/
open PySem.Float64 PySem.Flt
local macro_rules | `(tactic| walk_at "fl_lit") => `(tactic| first | exact rfl | exact lit_epoch | exact lit_start | exact lit_half | exact lit_mul | exact lit_div)
local macro_rules | `(tactic| walk_at "fl_side") => `(tactic| first | omega | (simp only [decide_eq_true_eq, decide_eq_false_iff_not, Bool.not_eq_true', Bool.not_eq_false'] at *; omega))
local macro_rules | `(tactic| walk_at "binaryOp Add float int") => `(tactic| k_dflt ((with_unfolding_all refine' r_add_fi ?hA ?hx ?hs ?_); (case hA => exact rfl); (case hx => walk_at "fl_lit"); (case hs => walk_at "fl_side"); k_whole))
local macro_rules | `(tactic| walk_at "inplaceOp Add float int") => `(tactic| k_dflt ((with_unfolding_all refine' r_iadd_fi ?hA ?hx ?hs ?_); (case hA => exact rfl); (case hx => walk_at "fl_lit"); (case hs => walk_at "fl_side"); k_whole))
local macro_rules | `(tactic| walk_at "binaryOp Add int float") => `(tactic| k_dflt ((with_unfolding_all refine' r_add_if ?hA ?hx ?hs ?_); (case hA => exact rfl); (case hx => walk_at "fl_lit"); (case hs => walk_at "fl_side"); k_whole))
local macro_rules | `(tactic| walk_at "binaryOp Sub float float") => `(tactic| k_dflt ((with_unfolding_all refine' r_sub_ff ?hx ?hy ?hs ?_); (case hx => walk_at "fl_lit"); (case hy => walk_at "fl_lit"); (case hs => walk_at "fl_side"); k_whole))
local macro_rules | `(tactic| walk_at "binaryOp Mult float float") => `(tactic| k_dflt ((with_unfolding_all refine' r_mul_ff ?hx ?hy ?hs ?_); (case hx => walk_at "fl_lit"); (case hy => walk_at "fl_lit"); (case hs => walk_at "fl_side"); k_whole))
local macro_rules | `(tactic| walk_at "binaryOp Div float float") => `(tactic| k_dflt ((with_unfolding_all refine' r_div_ff ?hA ?hx ?hy ?hs ?_); (case hA => exact rfl); (case hx => walk_at "fl_lit"); (case hy => walk_at "fl_lit"); (case hs => walk_at "fl_side"); k_whole))
local macro_rules | `(tactic| walk_at "binaryOp Div int int") => `(tactic| k_dflt ((with_unfolding_all refine' r_div_ii ?hA ?hs ?_); (case hA => exact rfl); (case hs => walk_at "fl_side"); k_whole))
local macro_rules | `(tactic| walk_at "call builtin:math.floor") => `(tactic| (first
  | k_dflt ((with_unfolding_all refine' r_floor_odd ?hA ?hs ?_); (case hA => exact rfl); (case hs => walk_at "fl_side"); k_whole)
  | k_dflt ((with_unfolding_all refine' r_floor_fh ?hA ?hs ?_); (case hA => exact rfl); (case hs => walk_at "fl_side"); k_whole)
  | k_dflt ((with_unfolding_all refine' r_floor_qf ?hA ?hs ?_); (case hA => exact rfl); (case hs => walk_at "fl_side"); k_whole)
  | k_dflt ((with_unfolding_all refine' r_floor_div ?hA ?hs ?_); (case hA => exact rfl); (case hs => walk_at "fl_side"); k_whole)))
local macro_rules | `(tactic| walk_at "call type:int") => `(tactic| k_dflt ((with_unfolding_all refine' r_int ?hA ?hs ?_); (case hA => exact rfl); (case hs => walk_at "fl_side"); k_whole))
local macro_rules | `(tactic| walk_at "binaryOp Mod float int") => `(tactic| k_dflt ((with_unfolding_all refine' r_mod_fi ?hA ?hs ?_); (case hA => exact rfl); (case hs => walk_at "fl_side"); k_whole))
local macro_rules | `(tactic| walk_at "compareOp Gt float float") => `(tactic| k_dflt ((with_unfolding_all refine' r_gt ?hs ?_); (case hs => walk_at "fl_side"); k_whole))
local macro_rules | `(tactic| walk_at "compareOp Lt float float") => `(tactic| k_dflt ((with_unfolding_all refine' r_lt ?hs ?_); (case hs => walk_at "fl_side"); k_whole))
local macro_rules | `(tactic| walk_at "compareOp GtE float float") => `(tactic| k_dflt ((with_unfolding_all refine' r_ge ?hs ?_); (case hs => walk_at "fl_side"); k_whole))
local macro_rules | `(tactic| walk_at "compareOp Eq float float") => `(tactic| k_dflt ((with_unfolding_all refine' r_eq ?hs ?_); (case hs => walk_at "fl_side"); k_whole))
local macro_rules | `(tactic| walk_at "compareOp Eq float int") => `(tactic| k_dflt ((with_unfolding_all refine' r_eq_fi ?hs ?_); (case hs => walk_at "fl_side"); k_whole))
local macro_rules | `(tactic| walk_at "compareOp NotEq float int") => `(tactic| k_dflt ((with_unfolding_all refine' r_ne_fi ?hs ?_); (case hs => walk_at "fl_side"); k_whole))
local macro_rules | `(tactic| walk_at "cl_sides") => `(tactic| ((case k1 => k_asm); (case k2 => k_asm); (case k3 => k_asm); (case k4 => k_asm); (case k5 => k_asm); (case kK => first | exact rfl | assumption); (case kd => ktr_room); (case ku => ktr_units)))
/-- a call of the def at f with vs comes back with a value that R holds of, the frame and the ledger as they stood -/
abbrev Cl (w : World) (K : Params → Frag) (p : Program) (f : Addr) (n : Nat) (vs : List Value) (R : Value → Prop) : Prop :=
  ∀ (loose : List Str) (mean : ExcName → Option Value) (mg mb : Str → Option Value) (dp un : Nat) (gd : Option (List Code)) (cn : Str) (cs : Scope) (a : Addr) (ccd : Value) (cl : List (Str × Addr)) (outer : List Env) (A₀ : Around) (base h₀ : Heap) (L : Addr) (m : Str → Option Value) (news : List (Addr × Obj)) (s : Shared) (Q E : Value → Shared → Prop),
    Below A₀ base outer h₀ → Fr h₀ L s.heap m → (K w.params).In h₀ → News h₀ L s.heap news → Top p loose mean mg mb h₀ → cs.kind = .function →
    dp + n < recursionLimit → un + 8 * n < cLine →
    (∀ v h' tk', R v → Fr h₀ L h' m → News h₀ L h' news → Q v { s with heap := h', toks := tk' }) →
      wpAny (model PySem.Challenge.rw_ak5003_01.row.prog w) (ktrTop dp un gd cn cs L a ccd cl outer) (call (.ref f) vs) Q E s

theorem Cl.use {w : World} {K : Params → Frag} {p : Program} {f : Addr} {n : Nat} {vs : List Value} {R : Value → Prop} (c : Cl w K p f n vs R) {loose : List Str} {mean : ExcName → Option Value} {mg mb : Str → Option Value} {dp un : Nat} {gd : Option (List Code)} {cn : Str} {cs : Scope} {a : Addr} {ccd : Value} {cl : List (Str × Addr)} {outer : List Env} {A₀ : Around} {base h₀ : Heap} {L : Addr} {m : Str → Option Value} {news : List (Addr × Obj)} {s : Shared} {Q E : Value → Shared → Prop}
    (B : Below A₀ base outer h₀) (F : Fr h₀ L s.heap m) (X : (K w.params).In h₀) (N : News h₀ L s.heap news) (T : Top p loose mean mg mb h₀) (hk : cs.kind = .function)
    (hd : dp + n < recursionLimit) (hu : un + 8 * n < cLine) (hret : ∀ v h' tk', R v → Fr h₀ L h' m → News h₀ L h' news → Q v { s with heap := h', toks := tk' }) :
    wpAny (model PySem.Challenge.rw_ak5003_01.row.prog w) (ktrTop dp un gd cn cs L a ccd cl outer) (call (.ref f) vs) Q E s :=
  c _ _ _ _ _ _ _ _ _ _ _ _ _ _ _ _ _ _ _ _ _ _ B F X N T hk hd hu hret

theorem fm (a : Int) {b : Int} (h : 0 ≤ b) : a.fmod b = a % b := Int.fmod_eq_emod_of_nonneg a h

theorem mo_cases {y : Int} (h0 : 0 ≤ y) : 12084 + 13753 * ((235 * y - 234) / 19) = -166705 ∨ 0 ≤ 12084 + 13753 * ((235 * y - 234) / 19) := by
  rcases Int.lt_or_eq_of_le h0 with h | h
  · omega
  · subst h; left; decide

section
variable {y m : Int}
theorem any5 : ([2, 4, 6, 10, 13].any fun x => x == m) = decide (m = 2 ∨ m = 4 ∨ m = 6 ∨ m = 10 ∨ m = 13) := by
  simp only [List.any_cons, List.any_nil, Bool.or_false]
  rw [Bool.eq_iff_iff]
  simp only [Bool.or_eq_true, beq_iff_eq, decide_eq_true_eq]
  omega
theorem ML_a (h : ([2, 4, 6, 10, 13].any fun x => x == m) = true) : 29 = ML y m := by
  rw [any5] at h
  unfold ML
  rw [if_pos (of_decide_eq_true h)]
theorem ML_b (h : ([2, 4, 6, 10, 13].any fun x => x == m) = false) (h1 : m = 12) (h2 : lp y = false) : 29 = ML y m := by
  rw [any5] at h
  unfold ML
  rw [if_neg (of_decide_eq_false h), if_pos ⟨h1, h2⟩]
theorem ML_c (h : ([2, 4, 6, 10, 13].any fun x => x == m) = false) (h1 : m = 12) (h2 : lp y = true) : 30 = ML y m := by
  rw [any5] at h
  unfold ML
  rw [if_neg (of_decide_eq_false h), if_neg (by rw [h2]; simp), if_neg (by omega), if_neg (by omega)]
theorem ML_d (h : ([2, 4, 6, 10, 13].any fun x => x == m) = false) (h0 : m ≠ 12) (h1 : m = 8) (h2 : ¬ 2 * YD y % (2 * 10) = 2 * 5) : 29 = ML y m := by
  rw [any5] at h
  unfold ML
  rw [if_neg (of_decide_eq_false h), if_neg (fun x => h0 x.1), if_pos ⟨h1, by omega⟩]
theorem ML_e (h : ([2, 4, 6, 10, 13].any fun x => x == m) = false) (h0 : m ≠ 12) (h1 : m = 8) (h2 : 2 * YD y % (2 * 10) = 2 * 5) : 30 = ML y m := by
  rw [any5] at h
  unfold ML
  rw [if_neg (of_decide_eq_false h), if_neg (fun x => h0 x.1), if_neg (by omega), if_neg (by omega)]
theorem ML_f (h : ([2, 4, 6, 10, 13].any fun x => x == m) = false) (h0 : m ≠ 12) (h1 : m = 9) (h2 : 2 * YD y % (2 * 10) = 2 * 3) : 29 = ML y m := by
  rw [any5] at h
  unfold ML
  rw [if_neg (of_decide_eq_false h), if_neg (fun x => h0 x.1), if_neg (by omega), if_pos ⟨h1, by omega⟩]
theorem ML_g (h : ([2, 4, 6, 10, 13].any fun x => x == m) = false) (h0 : m ≠ 12) (h1 : m = 9) (h2 : ¬ 2 * YD y % (2 * 10) = 2 * 3) : 30 = ML y m := by
  rw [any5] at h
  unfold ML
  rw [if_neg (of_decide_eq_false h), if_neg (fun x => h0 x.1), if_neg (by omega), if_neg (by omega)]
theorem ML_h (h : ([2, 4, 6, 10, 13].any fun x => x == m) = false) (h0 : m ≠ 12) (h1 : m ≠ 8) (h2 : m ≠ 9) : 30 = ML y m := by
  rw [any5] at h
  unfold ML
  rw [if_neg (of_decide_eq_false h), if_neg (fun x => h0 x.1), if_neg (by omega), if_neg (by omega)]
end

section
variable {prog : Program} {w : World} {A : Around} {E : Value → Shared → Prop} {s : Shared} {env : Env} {h₀ : Heap} {x : Str} {body : List Stmt} {Q : Flow → Shared → Prop}
/-- between two turns of a loop that adds month_days to jd -/
abbrev MdS (y a₀ j₀ : Int) (x : Str) (news : List (Addr × Obj)) (m₀ : Str → Option Value) (pre : List Int) : (Str → Option Value) → List (Addr × Obj) → Prop :=
  KstS (σ := Int × Tok) (fun _ => news) (fun c => [(Str.ofString "jd", Value.float (fh c.1) c.2)]) (fun _ => True) x [] m₀ (fun pre c => c.1 = j₀ + 2 * SM y a₀ pre.length) pre
theorem md_loop {r : Addr} {y a₀ b₀ j₀ : Int} {t₀ u₀ v₀ tj : Tok} {m₀ : Str → Option Value} {news : List (Addr × Obj)}
    (hh : A.handled = none) (hr : IsRange s.heap r a₀ b₀ 1 t₀ u₀ v₀) (hs : -100 < a₀ ∧ a₀ < 100 ∧ -100 < b₀ ∧ b₀ < 100) (F : Fr h₀ env.locals s.heap m₀) (N : News h₀ env.locals s.heap news) (hj : m₀ (Str.ofString "jd") = some (.float (fh j₀) tj))
    (turn : ∀ (pre : List Int) (k : Int) (J : Int) t tj (u : Str → Option Value) h tk own, k = a₀ + (pre.length : Int) → k < b₀ → J = SM y a₀ pre.length → 29 * (k - a₀) ≤ J → J ≤ 30 * (k - a₀) → OwnOff own (news.map (·.1)) →
      Fr h₀ env.locals h (fun y => if y = x then some (.int k t) else kstB (fun z => if ([] : List Str).contains z then u z else m₀ z) [(Str.ofString "jd", Value.float (fh (j₀ + 2 * J)) tj)] y) → News h₀ env.locals h (news ++ own) →
      wpAny (model prog w) A (execs body env) (InvPostN h₀ env.locals (MdS y a₀ j₀ x news m₀ (pre ++ [k])) own (news.map (·.1)) { s with heap := h, toks := tk } Q) E { s with heap := h, toks := tk })
    (done : ∀ (J : Int) tj (u : Str → Option Value) h tk, J = SM y a₀ (b₀ - a₀).toNat → 29 * ((b₀ - a₀).toNat : Int) ≤ J → J ≤ 30 * ((b₀ - a₀).toNat : Int) → Fr h₀ env.locals h (fun y => if y = x then u y else kstB (fun z => if ([] : List Str).contains z then u z else m₀ z) [(Str.ofString "jd", Value.float (fh (j₀ + 2 * J)) tj)] y) → News h₀ env.locals h news → Q .next { s with heap := h, toks := tk }) :
    wpAny (model prog w) A (pyIter (.ref r)) (fun it s₂ => LoopAtV prog w A h₀ env x body Q E it s₂) E s := by
  refine kst_range (σ := Int × Tok) (fun _ => news) (fun c => [(Str.ofString "jd", Value.float (fh c.1) c.2)]) (fun _ => True) [] (fun pre c => c.1 = j₀ + 2 * SM y a₀ pre.length) (j₀, tj)
    hh hr (small_one (by omega) (by omega) (by omega) (by omega)) (rangeSize_nat _ _) F N trivial ?_ ?_ ?_ ?_
  · intro p hp
    rw [List.mem_singleton.mp hp]
    exact hj
  · simp [SM]
  · rintro ⟨c, tc⟩ pre k t u h tk own hk hlt hoff _ hP F' N'
    have hP' : c = j₀ + 2 * SM y a₀ pre.length := hP
    subst hP'
    have hb := SM_bd y a₀ pre.length
    exact turn pre k _ t tc u h tk own hk (by omega) rfl (by omega) (by omega) hoff F' N'
  · rintro ⟨c, tc⟩ u h tk _ hP F' N'
    have hP' : c = j₀ + 2 * SM y a₀ (rangeKs a₀ (b₀ - a₀).toNat).length := hP
    rw [rangeKs_length] at hP'
    subst hP'
    have hb := SM_bd y a₀ (b₀ - a₀).toNat
    exact done _ tc u h tk rfl hb.1 hb.2 F' N'
theorem md_end {y a₀ j₀ : Int} {L : Addr} {news own news' : List (Addr × Obj)} {m₀ m' : Str → Option Value} {pre : List Int} {k J : Int} {tj : Tok} {s₁ : Shared} {h' : Heap} {tk : Nat} {j : Int}
    (F : Fr h₀ L h' m') (N : News h₀ L h' news') (hj : m' (Str.ofString "jd") = some (.float (fh j) tj)) (hk : k = a₀ + (pre.length : Int)) (hJ : J = SM y a₀ pre.length) (e : j = j₀ + 2 * J + 2 * ML y k)
    (hr : ∀ z, z ≠ x → z ≠ Str.ofString "jd" → m' z = m₀ z) (hn : ∀ p ∈ news, p ∈ news') (ho : ∀ p ∈ own, p ∈ news') :
    InvEndN h₀ L (MdS y a₀ j₀ x news m₀ (pre ++ [k])) own (news.map (·.1)) s₁ { s₁ with heap := h', toks := tk } := by
  refine kst_end (j, tj) F N hn ho rfl trivial ?_ ?_ ?_
  · intro p hp
    rw [List.mem_singleton.mp hp]
    exact hj
  · intro z h1 h2 _
    exact hr z h1 (h2 _ (List.mem_singleton.mpr rfl))
  · show j = j₀ + 2 * SM y a₀ (pre ++ [k]).length
    rw [List.length_append, e, hJ, hk]
    simp only [List.length_cons, List.length_nil, SM]
    omega
end

section
variable {prog : Program} {w : World} {A : Around} {E : Value → Shared → Prop} {Q : Flow → Shared → Prop} {s : Shared} {env : Env} {h₀ : Heap} {L : Addr}
/-- the end of a turn of a while that steps two ints -/
abbrev WhP (h₀ : Heap) (L : Addr) (s : Shared) (news : List (Addr × Obj)) (x1 x2 : Str) (g : Int → Int) (B : Int) (m₀ : Str → Option Value) (P : Int → Prop) (Q : Flow → Shared → Prop) (i : Int) (ti tj : Tok) : Flow → Shared → Prop :=
  KswPost (σ := Int × Tok × Tok) h₀ L s (fun _ => news) (fun c => [(x1, .int c.1 c.2.1), (x2, .int (g c.1) c.2.2)]) (fun _ => True) [] m₀ (fun c => P c.1) (fun c => (B - c.1).toNat) Q (i, ti, tj)
theorem wh_loop {test : PySem.Expr} {body : List Stmt} {pos : Pos} {x1 x2 : Str} {g : Int → Int} {B i₀ j₀ : Int} {t1 t2 : Tok} {m₀ : Str → Option Value} {news : List (Addr × Obj)} (P : Int → Prop)
    (F : Fr h₀ L s.heap m₀) (N : News h₀ L s.heap news) (h1 : m₀ x1 = some (.int i₀ t1)) (h2 : m₀ x2 = some (.int j₀ t2)) (hj : j₀ = g i₀) (hp : P i₀)
    (turn : ∀ i ti tj (u : Str → Option Value) h tk, P i → Fr h₀ L h (kstB (fun z => if ([] : List Str).contains z then u z else m₀ z) [(x1, .int i ti), (x2, .int (g i) tj)]) → News h₀ L h news →
      wpAny (model prog w) A (isTrue test env (eval test env)) (fun b s₂ => if b = true then wpAny (model prog w) A (execs body env) (WhP h₀ L s news x1 x2 g B m₀ P Q i ti tj) E s₂ else Q .next s₂) E { s with heap := h, toks := tk })
    (hE : PassesOwn (model prog w) A env E := by passes_own) :
    wpAny (model prog w) A (exec (.While test body [] pos) env) Q E s := by
  refine ksw_while (σ := Int × Tok × Tok) (fun _ => news) (fun c => [(x1, .int c.1 c.2.1), (x2, .int (g c.1) c.2.2)]) (fun _ => True) [] (fun c => P c.1) (fun c => (B - c.1).toNat) (i₀, t1, t2) F N trivial ?_ hp ?_ hE
  · subst hj
    intro p hp
    rcases List.mem_cons.mp hp with rfl | hp
    · exact h1
    · rw [List.mem_singleton.mp hp]; exact h2
  · rintro ⟨i, ti, tj⟩ u h tk _ hP F' N'
    exact turn i ti tj u h tk hP F' N'
theorem wh_end {x1 x2 : Str} {g : Int → Int} {B i i' j' : Int} {ti tj ti' tj' : Tok} {m₀ m' : Str → Option Value} {news news' : List (Addr × Obj)} {P : Int → Prop} {h' : Heap} {tk : Nat}
    (F : Fr h₀ L h' m') (N : News h₀ L h' news') (hn : ∀ p ∈ news, p ∈ news') (h1 : m' x1 = some (.int i' ti')) (h2 : m' x2 = some (.int j' tj')) (hj : j' = g i') (hr : ∀ z, z ≠ x1 → z ≠ x2 → m' z = m₀ z) (hp : P i') (hi : i < i' ∧ i' ≤ B) :
    KswEnd (σ := Int × Tok × Tok) h₀ L s (fun _ => news) (fun c => [(x1, .int c.1 c.2.1), (x2, .int (g c.1) c.2.2)]) (fun _ => True) [] m₀ (fun c => P c.1) (fun c => (B - c.1).toNat) (i, ti, tj) { s with heap := h', toks := tk } := by
  subst hj
  refine ksw_end (i', ti', tj') F N hn trivial ?_ ?_ hp ?_
  · intro p hp
    rcases List.mem_cons.mp hp with rfl | hp
    · exact h1
    · rw [List.mem_singleton.mp hp]; exact h2
  · intro z h _
    exact hr z (h _ (.head _)) (h _ (.tail _ (.head _)))
  · show (B - i').toNat < (B - i).toNat
    omega
end

local macro_rules | `(tactic| walk_at "WhP") => `(tactic| (dsimp only [WhP, KswPost]))
/-- the tuple of three ints -/
abbrev tup3 (y m d : Int) (t1 t2 t3 : Tok) : Obj := { cls := Value.type "tuple", data := Data.seq #[.int y t1, .int m t2, .int d t3] 0 }
/-- a call that hands back a new tuple of three ints that R holds of -/
abbrev ClT (w : World) (K : Params → Frag) (p : Program) (f : Addr) (n : Nat) (vs : List Value) (R : Int → Int → Int → Prop) : Prop :=
  ∀ (loose : List Str) (mean : ExcName → Option Value) (mg mb : Str → Option Value) (dp un : Nat) (gd : Option (List Code)) (cn : Str) (cs : Scope) (a : Addr) (ccd : Value) (cl : List (Str × Addr)) (outer : List Env) (A₀ : Around) (base h₀ : Heap) (L : Addr) (m : Str → Option Value) (news : List (Addr × Obj)) (s : Shared) (Q E : Value → Shared → Prop),
    Below A₀ base outer h₀ → Fr h₀ L s.heap m → (K w.params).In h₀ → News h₀ L s.heap news → Top p loose mean mg mb h₀ → cs.kind = .function →
    dp + n < recursionLimit → un + 8 * n < cLine →
    (∀ y mo d t1 t2 t3 D h' tk', R y mo d → Fr h₀ L h' m → News h₀ L h' ((D, tup3 y mo d t1 t2 t3) :: news) → (∀ p ∈ news, p.1 < D) → Q (.ref D) { s with heap := h', toks := tk' }) →
      wpAny (model PySem.Challenge.rw_ak5003_01.row.prog w) (ktrTop dp un gd cn cs L a ccd cl outer) (call (.ref f) vs) Q E s
theorem ClT.use {w : World} {K : Params → Frag} {p : Program} {f : Addr} {n : Nat} {vs : List Value} {R : Int → Int → Int → Prop} (c : ClT w K p f n vs R) {loose : List Str} {mean : ExcName → Option Value} {mg mb : Str → Option Value} {dp un : Nat} {gd : Option (List Code)} {cn : Str} {cs : Scope} {a : Addr} {ccd : Value} {cl : List (Str × Addr)} {outer : List Env} {A₀ : Around} {base h₀ : Heap} {L : Addr} {m : Str → Option Value} {news : List (Addr × Obj)} {s : Shared} {Q E : Value → Shared → Prop}
    (B : Below A₀ base outer h₀) (F : Fr h₀ L s.heap m) (X : (K w.params).In h₀) (N : News h₀ L s.heap news) (T : Top p loose mean mg mb h₀) (hk : cs.kind = .function)
    (hd : dp + n < recursionLimit) (hu : un + 8 * n < cLine) (hret : ∀ y mo d t1 t2 t3 D h' tk', R y mo d → Fr h₀ L h' m → News h₀ L h' ((D, tup3 y mo d t1 t2 t3) :: news) → (∀ p ∈ news, p.1 < D) → Q (.ref D) { s with heap := h', toks := tk' }) :
    wpAny (model PySem.Challenge.rw_ak5003_01.row.prog w) (ktrTop dp un gd cn cs L a ccd cl outer) (call (.ref f) vs) Q E s :=
  c _ _ _ _ _ _ _ _ _ _ _ _ _ _ _ _ _ _ _ _ _ _ B F X N T hk hd hu hret

theorem Seek.start {k y : Int} (h : NY y ≤ k) (h2 : k < NY (y + 1)) : (k < JD y 1 1 ∧ Seek k y 7) ∨ (¬ k < JD y 1 1 ∧ Seek k y 1) := by
  by_cases c : k < JD y 1 1
  · exact .inl ⟨c, Seek.first7 h c⟩
  · exact .inr ⟨c, Seek.first1 h2 c⟩
theorem Seek.le {k y m : Int} (h : Seek k y m) : JD y m 1 ≤ k := by rcases h with h | h <;> omega

abbrev C_leap (w : World) (K : Params → Frag) (p : Program) : Prop := ∀ (y : Int) (t : Tok), Cl w K p 49 1 [.int y t] (fun v => v = .bool (lp y))

abbrev C_delay1 (w : World) (K : Params → Frag) (p : Program) : Prop := ∀ (y : Int) (t : Tok) (h0 : 0 ≤ y) (h1 : y ≤ 30005), Cl w K p 63 1 [.int y t] (fun v => ∃ u, v = .int (D1 y) u ∧ -400 ≤ D1 y ∧ D1 y ≤ 11000000)

abbrev C_year_months (w : World) (K : Params → Frag) (p : Program) : Prop := ∀ (y : Int) (t : Tok), Cl w K p 56 2 [.int y t] (fun v => ∃ u, v = .int (YM y) u)

abbrev C_delay2 (w : World) (K : Params → Frag) (p : Program) : Prop := ∀ (y : Int) (t : Tok) (h0 : 1 ≤ y) (h1 : y ≤ 30004), Cl w K p 70 2 [.int y t] (fun v => ∃ u, v = .int (D2 y) u ∧ 0 ≤ D2 y ∧ D2 y ≤ 2)

abbrev C_to_jd7 (w : World) (K : Params → Frag) (p : Program) : Prop := ∀ (y : Int) (t t2 t3 : Tok) (h0 : 1 ≤ y) (h1 : y ≤ 30004), Cl w K p 98 3 [.int y t, .int 7 t2, .int 1 t3] (fun v => ∃ u, v = .float (fh (2 * NY y + 1)) u ∧ 347000 ≤ NY y ∧ NY y ≤ 11400000)

abbrev C_year_days (w : World) (K : Params → Frag) (p : Program) : Prop := ∀ (y : Int) (t : Tok) (h0 : 1 ≤ y) (h1 : y ≤ 30002), Cl w K p 77 4 [.int y t] (fun v => ∃ u, v = .float (fh (2 * YD y)) u ∧ 353 ≤ YD y ∧ YD y ≤ 385)

abbrev C_month_length (w : World) (K : Params → Frag) (p : Program) : Prop := ∀ (y m : Int) (t t2 : Tok) (h0 : 1 ≤ y) (h1 : y ≤ 30002) (hm : 1 ≤ m ∧ m ≤ 13), Cl w K p 84 5 [.int y t, .int m t2] (fun v => ∃ u, v = .int (ML y m) u ∧ 29 ≤ ML y m ∧ ML y m ≤ 30)

abbrev C_month_days (w : World) (K : Params → Frag) (p : Program) : Prop := ∀ (y m : Int) (t t2 : Tok) (h0 : 1 ≤ y) (h1 : y ≤ 30002) (hm : 1 ≤ m ∧ m ≤ 13), Cl w K p 91 6 [.int y t, .int m t2] (fun v => ∃ u, v = .int (ML y m) u ∧ 29 ≤ ML y m ∧ ML y m ≤ 30)

abbrev C_to_jd (w : World) (K : Params → Frag) (p : Program) : Prop := ∀ (y m d : Int) (t t2 t3 : Tok) (h0 : 1 ≤ y) (h1 : y ≤ 30002) (hm : 1 ≤ m ∧ m ≤ 13) (hd0 : 0 ≤ d ∧ d ≤ 1000), Cl w K p 98 7 [.int y t, .int m t2, .int d t3] (fun v => ∃ u, v = .float (fh (2 * JD y m d + 1)) u ∧ 346000 ≤ JD y m d ∧ JD y m d ≤ 11500000)

abbrev C_from_jd (w : World) (K : Params → Frag) (p : Program) : Prop := ∀ (k : Int) (t : Tok) (h0 : 348399 ≤ k) (h1 : k ≤ 10348500), ClT w K p 105 8 [.float (fh (2 * k + 1)) t] (fun y m d => IsDate k y m d ∧ 2 ≤ y ∧ y ≤ 29000)

abbrev C_to_civil (w : World) (K : Params → Frag) (p : Program) : Prop := ∀ (y m d : Int) (t t2 t3 : Tok), ClT w K p 112 1 [.int y t, .int m t2, .int d t3] (fun y' m' d' => y' = y + (if 7 ≤ m then 1 else 0) ∧ m' = m ∧ d' = d)

abbrev C_from_jd2 (w : World) (K : Params → Frag) (p : Program) : Prop := ∀ (j : Int) (t : Tok) (hs : 696799 ≤ j ∧ j ≤ 20697001 ∧ j % 2 = 1), ClT w K p 105 8 [.float (fh j) t] (fun y m d => IsDate (j / 2) y m d ∧ 2 ≤ y ∧ y ≤ 29000)

theorem r_mod_ii {prog : Program} {w : World} {A : Around} {E : Value → Shared → Prop} {s : Shared} {Q : Value → Shared → Prop} {t u : Tok} {a p : Int} (hp : 0 < p) (k : ∀ r, 0 ≤ r → r < p → Q (.int r s.toks) { s with toks := s.toks + 1 }) : wpAny (model prog w) A (binaryOp .Mod (.int a t) (.int p u)) Q E s := by
  refine mod_int' (by omega) ?_
  exact k _ (Int.fmod_nonneg_of_pos _ hp) (Int.fmod_lt_of_pos _ hp)
local macro_rules | `(tactic| walk_at "binaryOp Mod int int") => `(tactic| k_dflt ((rename (C_from_jd2 _ _ _) => cj9); (with_unfolding_all refine' r_mod_ii ?hs ?_); (case hs => decide); k_whole; intro r9 hr8 hr9; (try dsimp only)))

/-- the law's loop: what is left, the date reached, the rest of its month; their tokens -/
abbrev LwS := (Int × Int × Int × Int) × (Tok × Tok × Tok × Tok × Tok)
abbrev lwPs (c : LwS) : List (Str × Value) := [(Str.ofString "left", .int c.1.1 c.2.1), (Str.ofString "year", .int c.1.2.1 c.2.2.1), (Str.ofString "month", .int c.1.2.2.1 c.2.2.2.1), (Str.ofString "day", .int c.1.2.2.2 c.2.2.2.2.1), (Str.ofString "rest", .int (ML c.1.2.1 c.1.2.2.1 - c.1.2.2.2) c.2.2.2.2.2)]
abbrev LwP (K l₀ : Int) (c : LwS) : Prop := IsDate (K + l₀ - c.1.1) c.1.2.1 c.1.2.2.1 c.1.2.2.2 ∧ 0 ≤ c.1.1 ∧ c.1.1 ≤ l₀ ∧ 2 ≤ c.1.2.1
section
variable {prog : Program} {w : World} {A : Around} {E : Value → Shared → Prop} {Q : Flow → Shared → Prop} {s : Shared} {env : Env} {h₀ : Heap} {L : Addr}
abbrev LwPost (h₀ : Heap) (L : Addr) (s : Shared) (news : List (Addr × Obj)) (m₀ : Str → Option Value) (K l₀ : Int) (Q : Flow → Shared → Prop) (c : LwS) : Flow → Shared → Prop :=
  KswPost (σ := LwS) h₀ L s (fun _ => news) lwPs (fun _ => True) [] m₀ (LwP K l₀) (fun c => c.1.1.toNat) Q c
theorem lw_loop {test : PySem.Expr} {body : List Stmt} {pos : Pos} {K l₀ y₀ m₁ d₀ : Int} {t1 t2 t3 t4 t5 : Tok} {m₀ : Str → Option Value} {news : List (Addr × Obj)} (hI : IsDate K y₀ m₁ d₀) (hK : 0 ≤ l₀ ∧ K + l₀ ≤ 10400000 ∧ 2 ≤ y₀)
    (F : Fr h₀ L s.heap m₀) (N : News h₀ L s.heap news) (h1 : m₀ (Str.ofString "left") = some (.int l₀ t1)) (h2 : m₀ (Str.ofString "year") = some (.int y₀ t2)) (h3 : m₀ (Str.ofString "month") = some (.int m₁ t3)) (h4 : m₀ (Str.ofString "day") = some (.int d₀ t4)) (h5 : m₀ (Str.ofString "rest") = some (.int (ML y₀ m₁ - d₀) t5))
    (turn : ∀ l y m d t1 t2 t3 t4 t5 (u : Str → Option Value) h tk, IsDate (K + l₀ - l) y m d → 0 ≤ l → l ≤ l₀ → 2 ≤ y → y ≤ 29000 → 1 ≤ m → m ≤ 13 → 1 ≤ d → d ≤ ML y m → ML y m ≤ 30 → (¬ ML y m - d < l → IsDate (K + l₀) y m (d + l)) →
      Fr h₀ L h (kstB (fun z => if ([] : List Str).contains z then u z else m₀ z) (lwPs ((l, y, m, d), t1, t2, t3, t4, t5))) → News h₀ L h news →
      wpAny (model prog w) A (isTrue test env (eval test env)) (fun b s₂ => if b = true then wpAny (model prog w) A (execs body env) (LwPost h₀ L s news m₀ K l₀ Q ((l, y, m, d), t1, t2, t3, t4, t5)) E s₂ else Q .next s₂) E { s with heap := h, toks := tk })
    (hE : PassesOwn (model prog w) A env E := by passes_own) :
    wpAny (model prog w) A (exec (.While test body [] pos) env) Q E s := by
  refine ksw_while (σ := LwS) (fun _ => news) lwPs (fun _ => True) [] (LwP K l₀) (fun c => c.1.1.toNat) ((l₀, y₀, m₁, d₀), t1, t2, t3, t4, t5) F N trivial ?_ ⟨by show IsDate (K + l₀ - l₀) _ _ _; rw [show K + l₀ - l₀ = K by omega]; exact hI, hK.1, Int.le_refl _, hK.2.2⟩ ?_ hE
  · refine List.forall_mem_cons.mpr ⟨h1, List.forall_mem_cons.mpr ⟨h2, List.forall_mem_cons.mpr ⟨h3, List.forall_mem_cons.mpr ⟨h4, List.forall_mem_cons.mpr ⟨h5, List.forall_mem_nil _⟩⟩⟩⟩⟩
  · rintro ⟨⟨l, y, m, d⟩, t1, t2, t3, t4, t5⟩ u h tk _ ⟨hI', hl, hl', hy⟩ F' N'
    have hI2 : IsDate (K + l₀ - l) y m d := hI'
    have hl2 : 0 ≤ l ∧ l ≤ l₀ := ⟨hl, hl'⟩
    refine turn l y m d t1 t2 t3 t4 t5 u h tk hI2 hl hl' hy (hI2.yearBd (by omega)) hI2.m1 hI2.m13 hI2.d1 hI2.d2 (ML_bd y m).2 (fun hn => ?_) F' N'
    have h9 := hI2.later hl2.1 (by omega)
    rw [show K + l₀ - l + l = K + l₀ by omega] at h9
    exact h9
theorem lw_end {K l₀ l y m d l' y' m' d' k' r' : Int} {t1 t2 t3 t4 t5 t1' t2' t3' t4' t5' : Tok} {m₀ mm : Str → Option Value} {news news' : List (Addr × Obj)} {h' : Heap} {tk : Nat}
    (F : Fr h₀ L h' mm) (N : News h₀ L h' news') (hn : ∀ p ∈ news, p ∈ news') (h1 : mm (Str.ofString "left") = some (.int l' t1')) (h2 : mm (Str.ofString "year") = some (.int y' t2')) (h3 : mm (Str.ofString "month") = some (.int m' t3')) (h4 : mm (Str.ofString "day") = some (.int d' t4')) (h5 : mm (Str.ofString "rest") = some (.int r' t5'))
    (hr : ∀ z, z ≠ Str.ofString "left" → z ≠ Str.ofString "year" → z ≠ Str.ofString "month" → z ≠ Str.ofString "day" → z ≠ Str.ofString "rest" → mm z = m₀ z) (hI : IsDate k' y' m' d') (hk : k' = K + l₀ - l' ∧ r' = ML y' m' - d' ∧ 0 ≤ l' ∧ l' < l ∧ l' ≤ l₀ ∧ 2 ≤ y') :
    KswEnd (σ := LwS) h₀ L s (fun _ => news) lwPs (fun _ => True) [] m₀ (LwP K l₀) (fun c => c.1.1.toNat) ((l, y, m, d), t1, t2, t3, t4, t5) { s with heap := h', toks := tk } := by
  obtain ⟨rfl, rfl, hk1, hk2, hk3, hk4⟩ := hk
  refine ksw_end ((l', y', m', d'), t1', t2', t3', t4', t5') F N hn trivial ?_ ?_ ⟨hI, hk1, hk3, hk4⟩ ?_
  · refine List.forall_mem_cons.mpr ⟨h1, List.forall_mem_cons.mpr ⟨h2, List.forall_mem_cons.mpr ⟨h3, List.forall_mem_cons.mpr ⟨h4, List.forall_mem_cons.mpr ⟨h5, List.forall_mem_nil _⟩⟩⟩⟩⟩
  · intro z h _
    exact hr z (h _ (.head _)) (h _ (.tail _ (.head _))) (h _ (.tail _ (.tail _ (.head _)))) (h _ (.tail _ (.tail _ (.tail _ (.head _))))) (h _ (.tail _ (.tail _ (.tail _ (.tail _ (.head _))))))
  · show l'.toNat < l.toNat
    omega
end
theorem IsDate.cast {k k' y m d : Int} (h : IsDate k y m d) (e : k = k') : IsDate k' y m d := e ▸ h

local macro_rules | `(tactic| walk_at "call ref") => `(tactic| k_dflt ((with_reducible show wpAny _ _ (call (Value.ref 49) _) _ _ _); (refine' Cl.use ((?kc : C_leap _ _ _) _ _) ?k1 ?k2 ?k3 ?k4 ?k5 ?kK ?kd ?ku ?_); (case kc => assumption); walk_at "cl_sides"; intro v9 h9 tk9 hR9 F9 N9; (try dsimp only at hR9); subst hR9; (try dsimp only); (try k_fold)))
local macro_rules | `(tactic| walk_at "call ref") => `(tactic| k_dflt ((with_reducible show wpAny _ _ (call (Value.ref 63) _) _ _ _); (refine' Cl.use ((?kc : C_delay1 _ _ _) _ _ ?kx ?ky) ?k1 ?k2 ?k3 ?k4 ?k5 ?kK ?kd ?ku ?_); (case kc => assumption); walk_at "cl_sides"; (case kx => walk_at "fl_side"); (case ky => walk_at "fl_side"); intro v9 h9 tk9 hR9 F9 N9; (try dsimp only at hR9); obtain ⟨u9, hR9, hb8, hb9⟩ := hR9; subst hR9; (try dsimp only); (try k_fold)))
local macro_rules | `(tactic| walk_at "call ref") => `(tactic| k_dflt ((with_reducible show wpAny _ _ (call (Value.ref 56) _) _ _ _); (refine' Cl.use ((?kc : C_year_months _ _ _) _ _) ?k1 ?k2 ?k3 ?k4 ?k5 ?kK ?kd ?ku ?_); (case kc => assumption); walk_at "cl_sides"; intro v9 h9 tk9 hR9 F9 N9; (try dsimp only at hR9); obtain ⟨u9, hR9⟩ := hR9; subst hR9; (try dsimp only); (try k_fold)))
local macro_rules | `(tactic| walk_at "call ref") => `(tactic| k_dflt ((with_reducible show wpAny _ _ (call (Value.ref 70) _) _ _ _); (refine' Cl.use ((?kc : C_delay2 _ _ _) _ _ ?kx ?ky) ?k1 ?k2 ?k3 ?k4 ?k5 ?kK ?kd ?ku ?_); (case kc => assumption); walk_at "cl_sides"; (case kx => walk_at "fl_side"); (case ky => walk_at "fl_side"); intro v9 h9 tk9 hR9 F9 N9; (try dsimp only at hR9); obtain ⟨u9, hR9, hb8, hb9⟩ := hR9; subst hR9; (try dsimp only); (try k_fold)))
local macro_rules | `(tactic| walk_at "call ref") => `(tactic| k_dflt ((with_reducible show wpAny _ _ (call (Value.ref 77) _) _ _ _); (refine' Cl.use ((?kc : C_year_days _ _ _) _ _ ?kx ?ky) ?k1 ?k2 ?k3 ?k4 ?k5 ?kK ?kd ?ku ?_); (case kc => assumption); walk_at "cl_sides"; (case kx => walk_at "fl_side"); (case ky => walk_at "fl_side"); intro v9 h9 tk9 hR9 F9 N9; (try dsimp only at hR9); obtain ⟨u9, hR9, hb8, hb9⟩ := hR9; subst hR9; (try dsimp only); (try k_fold)))
local macro_rules | `(tactic| walk_at "call ref") => `(tactic| k_dflt ((with_reducible show wpAny _ _ (call (Value.ref 84) _) _ _ _); (refine' Cl.use ((?kc : C_month_length _ _ _) _ _ _ _ ?kx ?ky ?kz) ?k1 ?k2 ?k3 ?k4 ?k5 ?kK ?kd ?ku ?_); (case kc => assumption); walk_at "cl_sides"; (case kx => walk_at "fl_side"); (case ky => walk_at "fl_side"); (case kz => walk_at "fl_side"); intro v9 h9 tk9 hR9 F9 N9; (try dsimp only at hR9); obtain ⟨u9, hR9, hb8, hb9⟩ := hR9; subst hR9; (try dsimp only); (try k_fold)))
local macro_rules | `(tactic| walk_at "call ref") => `(tactic| k_dflt ((with_reducible show wpAny _ _ (call (Value.ref 91) _) _ _ _); (refine' Cl.use ((?kc : C_month_days _ _ _) _ _ _ _ ?kx ?ky ?kz) ?k1 ?k2 ?k3 ?k4 ?k5 ?kK ?kd ?ku ?_); (case kc => assumption); walk_at "cl_sides"; (case kx => walk_at "fl_side"); (case ky => walk_at "fl_side"); (case kz => walk_at "fl_side"); intro v9 h9 tk9 hR9 F9 N9; (try dsimp only at hR9); obtain ⟨u9, hR9, hb8, hb9⟩ := hR9; subst hR9; (try dsimp only); (try k_fold)))
local macro_rules | `(tactic| walk_at "call ref") => `(tactic| k_dflt ((with_reducible show wpAny _ _ (call (Value.ref 98) _) _ _ _); (refine' Cl.use ((?kc : C_to_jd _ _ _) _ _ _ _ _ _ ?kx ?ky ?kz ?kw) ?k1 ?k2 ?k3 ?k4 ?k5 ?kK ?kd ?ku ?_); (case kc => assumption); walk_at "cl_sides"; (case kx => walk_at "fl_side"); (case ky => walk_at "fl_side"); (case kz => walk_at "fl_side"); (case kw => walk_at "fl_side"); intro v9 h9 tk9 hR9 F9 N9; (try dsimp only at hR9); obtain ⟨u9, hR9, hb8, hb9⟩ := hR9; subst hR9; (try dsimp only); (try k_fold)))
local macro_rules | `(tactic| walk_at "call ref") => `(tactic| k_dflt ((with_reducible show wpAny _ _ (call (Value.ref 98) [_, Value.int 7 _, Value.int 1 _]) _ _ _); (refine' Cl.use ((?kc : C_to_jd7 _ _ _) _ _ _ _ ?kx ?ky) ?k1 ?k2 ?k3 ?k4 ?k5 ?kK ?kd ?ku ?_); (case kc => assumption); walk_at "cl_sides"; (case kx => walk_at "fl_side"); (case ky => walk_at "fl_side"); intro v9 h9 tk9 hR9 F9 N9; (try dsimp only at hR9); obtain ⟨u9, hR9, hb8, hb9⟩ := hR9; subst hR9; (try dsimp only); (try k_fold)))
local macro_rules | `(tactic| walk_at "call ref") => `(tactic| k_dflt ((with_reducible show wpAny _ _ (call (Value.ref 112) _) _ _ _); (refine' ClT.use ((?kc : C_to_civil _ _ _) _ _ _ _ _ _) ?k1 ?k2 ?k3 ?k4 ?k5 ?kK ?kd ?ku ?_); (case kc => assumption); walk_at "cl_sides"; intro y8 m8 d8 ta8 tb8 tc8 D8 h9 tk9 hR9 F9 N9 l9; (try dsimp only at hR9); (obtain ⟨hR9, hR8, hR7⟩ := hR9); subst hR9 hR8 hR7; (try dsimp only); (try k_lt l9); (try k_sweep); (try k_fold)))
local macro_rules | `(tactic| walk_at "call ref") => `(tactic| k_dflt ((with_reducible show wpAny _ _ (call (Value.ref 105) _) _ _ _); (refine' ClT.use ((?kc : C_from_jd2 _ _ _) _ _ ?kx) ?k1 ?k2 ?k3 ?k4 ?k5 ?kK ?kd ?ku ?_); (case kc => assumption); walk_at "cl_sides"; (case kx => walk_at "fl_side"); intro y8 m8 d8 ta8 tb8 tc8 D8 h9 tk9 hR9 F9 N9 l9; (try dsimp only at hR9); (obtain ⟨hI9, hI8, hI7⟩ := hR9); (have hJ1 := hI9.m1); (have hJ2 := hI9.m13); (have hJ3 := hI9.d1); (have hJ4 := hI9.d2); (have hJ5 := ML_bd y8 m8); (try dsimp only); (try k_lt l9); (try k_sweep); (try k_fold)))
local macro_rules | `(tactic| walk_at "call ref") => `(tactic| k_dflt ((with_reducible show wpAny _ _ (call (Value.ref 105) _) _ _ _); (rename (_ → IsDate _ _ _ _) => hX); (have hX1 := hX (by omega)); (refine' ClT.use ((?kc : C_from_jd2 _ _ _) _ _ ?kx) ?k1 ?k2 ?k3 ?k4 ?k5 ?kK ?kd ?ku ?_); (case kc => assumption); walk_at "cl_sides"; (case kx => walk_at "fl_side"); intro y8 m8 d8 ta8 tb8 tc8 D8 h9 tk9 hR9 F9 N9 l9; (try dsimp only at hR9); (obtain ⟨hI9, hI8, hI7⟩ := hR9); (obtain ⟨hU1, hU2, hU3⟩ := IsDate.uniq hI9 (IsDate.cast hX1 (by omega))); (have hAt := hI9.at_); clear hI9 hX hX1; subst hU1; subst hU2; subst hU3; (try dsimp only); (try k_lt l9); (try k_sweep); (try k_fold)))

/-- a contract, shown of the head's own heap and view -/
theorem prepG {K : Params → Frag} {p : Program} {loose : List Str} {R : WRecords} {XP : (Str → Option Value) → Heap → Prop} {w : World} {s₀ : Shared} {mg mb : Str → Option Value} {h : Heap} {Z : Prop} (_KX : (K w.params).In h) (_G : Ground p loose R XP w s₀ mg mb h) (C : World → (Params → Frag) → Program → Prop) (c : C w K p) (k : C w K p → Z) : Z := k c

set_option maxHeartbeats 40000000 in
theorem the_law : PySem.Challenge.rw_ak5003_01.Holds := by
  w_on; o_law; k_head; (case hw => w_witness2)
  k_fill
  intro w s₀ s₁ mg mb G Y fa o pm cd doc dV kV ho hd hcd hD hmg hg args vals as hpre hlay hrd hwl hlo
  have KX := kIn_of Y
  w_top off
  refine prepG KX G C_leap ?_ ?_
  · clear hlo hwl hrd hlay hpre as vals args hg hmg hD hcd hd ho kV dV doc cd pm o fa KX Y G mb mg s₁ s₀
    intro y t
    intro loose mean mg mb dp un gd cn cs a ccd cl outer A₀ base h₀ L mm news s Q E B F X N T hk hd hu hret
    refine wpAny_call ?_
    (first | k_dflt cell_enter | fail "not entered")
    k_steps
    all_goals (refine hret _ _ _ ?_ (by k_asm) (by k_asm); unfold lp; rw [fm _ (by decide)])
  intro c_leap
  refine prepG KX G C_delay1 ?_ ?_
  · clear hlo hwl hrd hlay hpre as vals args hg hmg hD hcd hd ho kV dV doc cd pm o fa KX Y G mb mg s₁ s₀
    intro y t h0 h1
    intro loose mean mg mb dp un gd cn cs a ccd cl outer A₀ base h₀ L mm news s Q E B F X N T hk hd hu hret
    refine wpAny_call ?_
    (first | k_dflt cell_enter | fail "not entered")
    have hmo := mo_cases h0
    k_steps
    · rename (Int.fmod _ _ < _) => hq
      rw [fm _ (by decide)] at hq
      refine hret _ _ _ ⟨_, congrArg (Value.int · _) ?_, D1_bd h0 (by omega)⟩ (by k_asm) (by k_asm)
      unfold D1 d0 mo
      rw [if_pos hq]
    · rename (¬ (Int.fmod _ _ < _)) => hq
      rw [fm _ (by decide)] at hq
      refine hret _ _ _ ⟨_, congrArg (Value.int · _) ?_, D1_bd h0 (by omega)⟩ (by k_asm) (by k_asm)
      unfold D1 d0 mo
      rw [if_neg hq]
  intro c_delay1
  refine prepG KX G C_year_months ?_ ?_
  · clear hlo hwl hrd hlay hpre as vals args hg hmg hD hcd hd ho kV dV doc cd pm o fa KX Y G mb mg s₁ s₀
    intro y t
    intro loose mean mg mb dp un gd cn cs a ccd cl outer A₀ base h₀ L mm news s Q E B F X N T hk hd hu hret
    refine wpAny_call ?_
    (first | k_dflt cell_enter | fail "not entered")
    k_steps
    · rename (lp y = true) => hq
      refine hret _ _ _ ⟨_, congrArg (Value.int · _) ?_⟩ (by k_asm) (by k_asm)
      unfold YM
      rw [if_pos hq]
    · rename (lp y = false) => hq
      refine hret _ _ _ ⟨_, congrArg (Value.int · _) ?_⟩ (by k_asm) (by k_asm)
      unfold YM
      rw [hq]
      rfl
  intro c_year_months
  refine prepG KX G C_delay2 ?_ ?_
  · clear hlo hwl hrd hlay hpre as vals args hg hmg hD hcd hd ho kV dV doc cd pm o fa KX Y G mb mg s₁ s₀
    intro y t h0 h1
    intro loose mean mg mb dp un gd cn cs a ccd cl outer A₀ base h₀ L mm news s Q E B F X N T hk hd hu hret
    refine wpAny_call ?_
    (first | k_dflt cell_enter | fail "not entered")
    k_steps
    all_goals (refine hret _ _ _ ⟨_, congrArg (Value.int · _) ?_, D2_bd y⟩ (by k_asm) (by k_asm))
    all_goals (unfold D2; (repeat' split) <;> omega)
  intro c_delay2
  refine prepG KX G C_to_jd7 ?_ ?_
  · clear hlo hwl hrd hlay hpre as vals args hg hmg hD hcd hd ho kV dV doc cd pm o fa KX Y G mb mg s₁ s₀
    intro y t t2 t3 h0 h1
    intro loose mean mg mb dp un gd cn cs a ccd cl outer A₀ base h₀ L mm news s Q E B F X N T hk hd hu hret
    refine wpAny_call ?_
    (first | k_dflt cell_enter | fail "not entered")
    have hb := NY_bd (y := y) (by omega) (by omega)
    k_steps
    all_goals (refine hret _ _ _ ⟨_, congrArg (Value.float · _) (congrArg fh ?_), hb⟩ (by k_asm) (by first | k_asm | (refine cb_drop (by assumption) ?_; kcj_all)))
    all_goals (unfold NY; omega)
  intro c_to_jd7
  refine prepG KX G C_year_days ?_ ?_
  · clear hlo hwl hrd hlay hpre as vals args hg hmg hD hcd hd ho kV dV doc cd pm o fa KX Y G mb mg s₁ s₀
    intro y t h0 h1
    intro loose mean mg mb dp un gd cn cs a ccd cl outer A₀ base h₀ L mm news s Q E B F X N T hk hd hu hret
    refine wpAny_call ?_
    (first | k_dflt cell_enter | fail "not entered")
    have hb := YD_bd y
    have hn := NY_next y
    k_steps
    all_goals (refine hret _ _ _ ⟨_, congrArg (Value.float · _) (congrArg fh ?_), hb⟩ (by k_asm) (by k_asm))
    all_goals omega
  intro c_year_days
  refine prepG KX G C_month_length ?_ ?_
  · clear hlo hwl hrd hlay hpre as vals args hg hmg hD hcd hd ho kV dV doc cd pm o fa KX Y G mb mg s₁ s₀
    intro y m t t2 h0 h1 hm
    intro loose mean mg mb dp un gd cn cs a ccd cl outer A₀ base h₀ L mm news s Q E B F X N T hk hd hu hret
    refine wpAny_call ?_
    (first | k_dflt cell_enter | fail "not entered")
    k_steps
    all_goals (first
      | (exfalso; omega)
      | ((refine hret _ _ _ ⟨_, congrArg (Value.int · _) ?_, ML_bd y m⟩ (by k_asm) (by first | k_asm | (refine cb_drop (by assumption) ?_; kcj_all)));
         first
         | exact ML_a (by assumption)
         | exact ML_b (by assumption) (by assumption) (by assumption)
         | exact ML_c (by assumption) (by assumption) (by assumption)
         | exact ML_h (by assumption) (by assumption) (by assumption) (by assumption)
         | exact ML_d (by assumption) (by assumption) (by assumption) (by assumption)
         | exact ML_e (by assumption) (by assumption) (by assumption) (by assumption)
         | exact ML_f (by assumption) (by assumption) (by assumption) (by assumption)
         | exact ML_g (by assumption) (by assumption) (by assumption) (by assumption)))
  intro c_month_length
  refine prepG KX G C_month_days ?_ ?_
  · clear hlo hwl hrd hlay hpre as vals args hg hmg hD hcd hd ho kV dV doc cd pm o fa KX Y G mb mg s₁ s₀
    intro y m t t2 h0 h1 hm
    intro loose mean mg mb dp un gd cn cs a ccd cl outer A₀ base h₀ L mm news s Q E B F X N T hk hd hu hret
    refine wpAny_call ?_
    (first | k_dflt cell_enter | fail "not entered")
    k_steps
    all_goals (refine hret _ _ _ ⟨_, rfl, by omega, by omega⟩ (by k_asm) (by k_asm))
  intro c_month_days
  refine prepG KX G C_to_jd ?_ ?_
  · clear hlo hwl hrd hlay hpre as vals args hg hmg hD hcd hd ho kV dV doc cd pm o fa KX Y G mb mg s₁ s₀
    intro y m d t t2 t3 h0 h1 hm hd0
    intro loose mean mg mb dp un gd cn cs a ccd cl outer A₀ base h₀ L mm news s Q E B F X N T hk hd hu hret
    refine wpAny_call ?_
    (first | k_dflt cell_enter | fail "not entered")
    have hYM := YM_or y
    have hJD := JD_bd (y := y) (m := m) (d := d) (by omega) (by omega) hm hd0
    k_with "pyIter ref" => ((rename Fr _ _ _ _ => lF'); (rename News _ _ _ _ => lN'); (rename IsRange _ _ _ _ _ _ _ _ => rgX); (with_unfolding_all refine' md_loop (y := y) (by rfl) rgX (by omega) lF' lN' (by rfl) ?_ ?_); clear lF' lN'; (intro pre k J t9 tj9 u9 h9 tk9 own9 hk9 hlt9 hJ9 hlo9 hhi9 hoff9 F9 N9); (rotate_left); clear lF' lN'; (intro J9 tj9 u9 h9 tk9 hJ9 hlo9 hhi9 F9 N9); rotate_left; (all_goals (try k_fold)))
    k_steps
    all_goals (first
      | ((rename Fr _ _ _ _ => F9); (rename News _ _ _ _ => N9); refine md_end F9 N9 (by with_unfolding_all rfl) (by assumption) (by assumption) rfl ?_ ?_ ?_)
      | ((refine hret _ _ _ ⟨_, congrArg (Value.float · _) (congrArg fh ?_), hJD⟩ (by k_asm) (by first | k_asm | (refine cb_drop (by assumption) ?_; kcj_all))); unfold JD NY; split <;> omega))
    all_goals (first
      | (intro p hp; kst_mem)
      | (intro z z1 z2; simp [kstB, z1, z2]; done)
      | skip)
    k_with_none
  intro c_to_jd
  refine prepG KX G C_from_jd ?_ ?_
  · clear hlo hwl hrd hlay hpre as vals args hg hmg hD hcd hd ho kV dV doc cd pm o fa KX Y G mb mg s₁ s₀
    intro k t h0 h1
    intro loose mean mg mb dp un gd cn cs a ccd cl outer A₀ base h₀ L mm news s Q E B F X N T hk hd hu hret
    refine wpAny_call ?_
    (first | k_dflt cell_enter | fail "not entered")
    have hg := guess_ok h0 h1
    k_with "exec While Compare cons nil" => ((rename Fr _ _ _ _ => lF'); (rename News _ _ _ _ => lN'); (with_unfolding_all refine' wh_loop (x1 := Str.ofString "year") (x2 := Str.ofString "i") (g := fun y => y + 1) (B := 29500) (fun y => 0 ≤ y ∧ y ≤ 29000 ∧ NY y ≤ k) lF' lN' ?k1 ?k2 ?k3 ?k4 ?_); (case k1 => with_unfolding_all rfl); (case k2 => with_unfolding_all rfl); (case k3 => ((try dsimp only); omega)); (case k4 => exact ⟨by omega, by omega, hg.2.2⟩); clear lF' lN'; (intro y9 ti9 tj9 u9 h9 tk9 hP9 F9 N9); (try dsimp only at F9); (obtain ⟨hP1, hP2, hP3⟩ := hP9); (have hY1 : NY (y9 + 1) ≤ k ∨ 2 ≤ y9 := (by rcases Int.lt_or_le k (NY (y9 + 1)) with hq | hq; exact .inr (by have := third h0 (by omega) hq; omega); exact .inl hq)); (have hY2 : k < NY (y9 + 1) ∨ y9 + 1 ≤ 29000 := (by rcases Int.lt_or_le k (NY (y9 + 1)) with hq | hq; exact .inl hq; exact .inr (NY_small (by omega)))); (try k_fold))
    k_with "exec While Compare cons nil" => ((rename Fr _ _ _ _ => lF'); (rename News _ _ _ _ => lN'); (with_unfolding_all refine' wh_loop (x1 := Str.ofString "i") (x2 := Str.ofString "month") (g := fun m => m) (B := 20) (fun m => Seek k y9 m) lF' lN' ?k1 ?k2 ?k3 ?k4 ?_); (case k1 => with_unfolding_all rfl); (case k2 => with_unfolding_all rfl); (case k3 => rfl); (case k4 => first | exact Seek.first7 hP3 (by omega) | exact Seek.first1 (by omega) (by omega)); clear lF' lN'; (intro m9 ti9 tj9 u9 h9 tk9 hS9 F9 N9); (try dsimp only at F9); (have hS1 := Seek.bd hS9); (have hS2 := Seek.le hS9); (try k_fold))
    k_steps
    · dsimp only [WhP, KswPost]
      rename Fr _ _ _ _ => F8
      rename News _ _ _ _ => N8
      refine wh_end (x1 := Str.ofString "year") (x2 := Str.ofString "i") (g := fun y => y + 1) (P := fun y => 0 ≤ y ∧ y ≤ 29000 ∧ NY y ≤ k) F8 N8 (fun p hp => hp) (by with_unfolding_all rfl) (by with_unfolding_all rfl) rfl (by intro z z1 z2; simp [kstB, z1, z2]) ⟨by omega, by omega, by omega⟩ ⟨by omega, by omega⟩
    · dsimp only [WhP, KswPost]
      rename Fr _ _ _ _ => F8
      rename News _ _ _ _ => N8
      refine wh_end (x1 := Str.ofString "i") (x2 := Str.ofString "month") (g := fun m => m) (P := fun m => Seek k y9 m) F8 N8 (fun p hp => hp) (by with_unfolding_all rfl) (by with_unfolding_all rfl) rfl (by intro z z1 z2; simp [kstB, z1, z2]) (Seek.next hS9 (by omega)) ⟨by omega, by omega⟩
    · refine hret _ _ _ _ _ _ _ _ _ ?_ (by k_asm) (by k_asm) (by assumption)
      have hq := Seek.found hS9 (by omega)
      rw [show (2 * k + 1 - (2 * JD y9 m9 1 + 1)) / 2 + 1 = k - JD y9 m9 1 + 1 by omega]
      exact ⟨hq, by omega, by omega⟩
    · dsimp only [WhP, KswPost]
      rename Fr _ _ _ _ => F8
      rename News _ _ _ _ => N8
      refine wh_end (x1 := Str.ofString "i") (x2 := Str.ofString "month") (g := fun m => m) (P := fun m => Seek k y9 m) F8 N8 (fun p hp => hp) (by with_unfolding_all rfl) (by with_unfolding_all rfl) rfl (by intro z z1 z2; simp [kstB, z1, z2]) (Seek.next hS9 (by omega)) ⟨by omega, by omega⟩
    · refine hret _ _ _ _ _ _ _ _ _ ?_ (by k_asm) (by k_asm) (by assumption)
      have hq := Seek.found hS9 (by omega)
      rw [show (2 * k + 1 - (2 * JD y9 m9 1 + 1)) / 2 + 1 = k - JD y9 m9 1 + 1 by omega]
      exact ⟨hq, by omega, by omega⟩
    all_goals k_with_none
  intro c_from_jd
  refine prepG KX G C_to_civil ?_ ?_
  · clear hlo hwl hrd hlay hpre as vals args hg hmg hD hcd hd ho kV dV doc cd pm o fa KX Y G mb mg s₁ s₀
    intro y m d t t2 t3
    intro loose mean mg mb dp un gd cn cs a ccd cl outer A₀ base h₀ L mm news s Q E B F X N T hk hd hu hret
    refine wpAny_call ?_
    (first | k_dflt cell_enter | fail "not entered")
    k_steps
    all_goals (refine hret _ _ _ _ _ _ _ _ _ ⟨?_, rfl, rfl⟩ (by k_asm) (by k_asm) (by assumption))
    all_goals (split <;> omega)
  intro c_to_civil
  refine prepG KX G C_from_jd2 ?_ ?_
  · clear hlo hwl hrd hlay hpre as vals args hg hmg hD hcd hd ho kV dV doc cd pm o fa KX Y G mb mg s₁ s₀
    intro j t hs
    have h := c_from_jd (j / 2) t (by omega) (by omega)
    rw [show 2 * (j / 2) + 1 = j by omega] at h
    exact h
  intro c_from_jd2
  k_behind G ho hd hcd hD hmg hpre hlay hrd hwl hlo cd
  all_goals (try k_fold)
  k_with "exec While Compare cons nil" => ((rename Fr _ _ _ _ => lF'); (rename News _ _ _ _ => lN'); (rename IsDate _ _ _ _ => hI); (with_unfolding_all refine' lw_loop hI ?k0 lF' lN' ?k1 ?k2 ?k3 ?k4 ?k5 ?_); (case k1 => with_unfolding_all rfl); (case k2 => with_unfolding_all rfl); (case k3 => with_unfolding_all rfl); (case k4 => with_unfolding_all rfl); (case k5 => with_unfolding_all rfl); (case k0 => exact ⟨by omega, by omega, by omega⟩); clear lF' lN'; (intro l9 y9 m9 d9 ta9 tb9 tc9 td9 te9 u9 h9 tk9 hD9 hl8 hl9 hy8 hy9 hm8 hm9 hd8 hd9 hM9 hX9 F9 N9); (try dsimp only [lwPs] at F9); (try k_fold))
  k_steps
  all_goals
    dsimp only [LwPost, KswPost]
    rename Fr _ _ _ _ => F8
    rename News _ _ _ _ => N8
    first
      | have hN9 := IsDate.over6 hD9 (by assumption)
      | have hN9 := IsDate.overYM hD9 (.inl (by assumption))
      | have hN9 := IsDate.overYM hD9 (.inr ⟨by assumption, by assumption⟩)
      | have hN9 := IsDate.overM hD9 (by assumption) (by assumption) (.inl (by assumption))
      | have hN9 := IsDate.overM hD9 (by assumption) (by assumption) (.inr (by assumption))
    refine lw_end F8 N8 ?_ (by with_unfolding_all rfl) (by with_unfolding_all rfl) (by with_unfolding_all rfl) (by with_unfolding_all rfl) (by with_unfolding_all rfl) ?_ hN9 ?_
    · first | exact fun p hp => hp | exact fun p hp => List.mem_cons_of_mem _ hp
    · intro z z1 z2 z3 z4 z5; simp [kstB, lwPs, z1, z2, z3, z4, z5]
    · exact ⟨by omega, by omega, by omega, by omega, by omega, by omega⟩
  k_with_none

end Mine

theorem PySem.Challenge.cw_ak5003_01_holds : PySem.Challenge.rw_ak5003_01.Holds :=
  Mine.the_law
