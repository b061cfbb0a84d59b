import PyProof.Rows.All
import Wide.All
import OpenK.AllK
import Wide.FinOn
import Lean
import PySem.Challenge.RW_dn0120_11
open PySem PySem.W PyProof.Rows
set_option Elab.async false
set_option maxRecDepth 100000
set_option maxHeartbeats 8000000
set_option linter.unusedVariables false
namespace Mine
section
def leap (y : Int) : Bool := decide (y % 4 = 0) && (!decide (y % 100 = 0) || decide (y % 400 = 0))
def dby (y : Int) : Int := (y - 1) * 365 + (y - 1) / 4 - (y - 1) / 100 + (y - 1) / 400
def dimT (m : Int) : Int := if m = 2 then 28 else if m = 4 ∨ m = 6 ∨ m = 9 ∨ m = 11 then 30 else 31
def dbmT (m : Int) : Int := if m = 1 then 0 else if m = 2 then 31 else if m = 3 then 59 else if m = 4 then 90 else if m = 5 then 120 else if m = 6 then 151 else if m = 7 then 181 else if m = 8 then 212 else if m = 9 then 243 else if m = 10 then 273 else if m = 11 then 304 else 334
/-- a leap year's day more -/
def lpd (y : Int) : Int := if leap y = true then 1 else 0
def dim (y m : Int) : Int := dimT m + if m = 2 then lpd y else 0
def dbm (y m : Int) : Int := dbmT m + if 2 < m then lpd y else 0
def Valid (y m d : Int) : Prop := 1 ≤ m ∧ m ≤ 12 ∧ 1 ≤ d ∧ d ≤ dim y m
def ord (y m d : Int) : Int := dby y + dbm y m + d
theorem m12 {m : Int} (h1 : 1 ≤ m) (h2 : m ≤ 12) : m = 1 ∨ m = 2 ∨ m = 3 ∨ m = 4 ∨ m = 5 ∨ m = 6 ∨ m = 7 ∨ m = 8 ∨ m = 9 ∨ m = 10 ∨ m = 11 ∨ m = 12 := by omega
theorem lpd_01 (y : Int) : 0 ≤ lpd y ∧ lpd y ≤ 1 := by unfold lpd; split <;> decide
theorem leap_iff (y : Int) : leap y = true ↔ (y % 4 = 0 ∧ (y % 100 ≠ 0 ∨ y % 400 = 0)) := by
  simp only [leap, Bool.and_eq_true, Bool.or_eq_true, decide_eq_true_eq, Bool.not_eq_true', decide_eq_false_iff_not, ne_eq]
theorem lpd_iff (y : Int) : lpd y = 1 ↔ (y % 4 = 0 ∧ (y % 100 ≠ 0 ∨ y % 400 = 0)) := by
  rw [← leap_iff]; unfold lpd; split <;> simp_all
theorem dby_succ (y : Int) : dby (y + 1) = dby y + 365 + lpd y := by
  have h := lpd_iff y
  have h2 := lpd_01 y
  unfold dby
  omega
/-- months by a table: l is a leap year's day more -/
def dimL (l m : Int) : Int := dimT m + if m = 2 then l else 0
def dbmL (l m : Int) : Int := dbmT m + if 2 < m then l else 0
def Tab (l m : Int) : Prop := (28 ≤ dimL l m ∧ dimL l m ≤ 31) ∧ (m ≤ 11 → dbmL l (m + 1) = dbmL l m + dimL l m) ∧ 0 ≤ dbmL l m ∧ dbmL l m + dimL l m ≤ 365 + l ∧ (2 ≤ m → dbmL l (m - 1) ≤ 32 * m - 50) ∧ (m = 1 → dbmL l m = 0) ∧ (32 * m - 18 ≤ dbmL l m + dimL l m ∨ 365 ≤ dbmL l m + dimL l m)
theorem tab_all : ∀ l : Fin 2, ∀ m : Fin 12, Tab ((l.val : Nat) : Int) (((m.val : Nat) : Int) + 1) := by
  unfold Tab
  decide +kernel
theorem tab {m : Int} (y : Int) (h1 : 1 ≤ m) (h2 : m ≤ 12) : Tab (lpd y) m := by
  have h := lpd_01 y
  have a := tab_all ⟨(lpd y).toNat, by omega⟩ ⟨(m - 1).toNat, by omega⟩
  have e1 : (((lpd y).toNat : Nat) : Int) = lpd y := by omega
  have e2 : (((m - 1).toNat : Nat) : Int) + 1 = m := by omega
  simp only [e1, e2] at a
  exact a
theorem dim_pos {y m : Int} (h1 : 1 ≤ m) (h2 : m ≤ 12) : 28 ≤ dim y m ∧ dim y m ≤ 31 := (tab y h1 h2).1
theorem dbm_1 (y : Int) : dbm y 1 = 0 := by simp [dbm, dbmT]
theorem dbm_step {y m : Int} (h1 : 1 ≤ m) (h2 : m ≤ 11) : dbm y (m + 1) = dbm y m + dim y m := (tab y h1 (by omega)).2.1 h2
theorem dbm_12 (y : Int) : dbm y 12 + dim y 12 = 365 + lpd y := by simp [dim, dimT, dbm, dbmT]; omega
theorem dbm_bds {y m : Int} (h1 : 1 ≤ m) (h2 : m ≤ 12) : 0 ≤ dbm y m ∧ dbm y m + dim y m ≤ 365 + lpd y := ⟨(tab y h1 h2).2.2.1, (tab y h1 h2).2.2.2.1⟩
theorem dbm_up {y m : Int} (h1 : 1 ≤ m) : ∀ n : Nat, m + 1 + (n : Int) ≤ 12 → dbm y m + dim y m ≤ dbm y (m + 1 + (n : Int))
  | 0, h => by
    have a := dbm_step (y := y) h1 (by omega)
    rw [Int.natCast_zero, Int.add_zero, a]
    exact Int.le_refl _
  | n + 1, h => by
    have a := dbm_up (y := y) h1 n (by omega)
    have b := dbm_step (y := y) (m := m + 1 + (n : Int)) (by omega) (by omega)
    have c := (dim_pos (y := y) (m := m + 1 + (n : Int)) (by omega) (by omega)).1
    rw [show m + 1 + ((n + 1 : Nat) : Int) = m + 1 + (n : Int) + 1 by omega, b]
    omega
theorem dbm_lt {y m m' : Int} (h1 : 1 ≤ m) (h : m < m') (h2 : m' ≤ 12) : dbm y m + dim y m ≤ dbm y m' := by
  have a := dbm_up (y := y) h1 (m' - (m + 1)).toNat
  rw [show m + 1 + ((m' - (m + 1)).toNat : Int) = m' by omega] at a
  exact a h2
theorem dby_mono {y y' : Int} (h : y < y') : dby (y + 1) ≤ dby y' := by unfold dby; omega
theorem ord_in {y m d : Int} (h : Valid y m d) : dby y < ord y m d ∧ ord y m d ≤ dby (y + 1) := by
  obtain ⟨h1, h2, h3, h4⟩ := h
  have := dbm_bds (y := y) h1 h2
  rw [dby_succ]; unfold ord; omega
theorem ord_lt {y m d y' m' d' : Int} (h : Valid y m d) (h' : Valid y' m' d') (hl : y < y' ∨ (y = y' ∧ (m < m' ∨ (m = m' ∧ d < d')))) : ord y m d < ord y' m' d' := by
  rcases hl with hl | ⟨rfl, hl | ⟨rfl, hl⟩⟩
  · have a := ord_in h; have b := ord_in h'; have c := dby_mono hl; omega
  · have a := dbm_lt (y := y) h.1 hl h'.2.1
    have b := h.2.2.2; have c := h'.2.2.1; unfold ord; omega
  · unfold ord; omega
theorem ord_inj {y m d y' m' d' : Int} (h : Valid y m d) (h' : Valid y' m' d') (e : ord y m d = ord y' m' d') : y = y' ∧ m = m' ∧ d = d' := by
  by_cases c : y = y' ∧ m = m' ∧ d = d'
  · exact c
  · exfalso
    by_cases l : (y < y' ∨ (y = y' ∧ (m < m' ∨ (m = m' ∧ d < d'))))
    · have := ord_lt h h' l; omega
    · have := ord_lt h' h (by omega); omega
theorem dby_dec {a b c d : Int} (b0 : 0 ≤ b) (b1 : b ≤ 3) (c0 : 0 ≤ c) (c1 : c ≤ 24) (d0 : 0 ≤ d) (d1 : d ≤ 3) : dby (a * 400 + 1 + (b * 100 + c * 4 + d)) = 146097 * a + 36524 * b + 1461 * c + 365 * d := by
  have e : a * 400 + 1 + (b * 100 + c * 4 + d) - 1 = a * 400 + b * 100 + c * 4 + d := by omega
  have q1 : (a * 400 + b * 100 + c * 4 + d) / 4 = 100 * a + 25 * b + c := by omega
  have q2 : (a * 400 + b * 100 + c * 4 + d) / 100 = 4 * a + b := by omega
  have q3 : (a * 400 + b * 100 + c * 4 + d) / 400 = a := by omega
  unfold dby
  rw [e, q1, q2, q3]
  omega
theorem leap_dec {a b c d : Int} (b0 : 0 ≤ b) (b1 : b ≤ 3) (c0 : 0 ≤ c) (c1 : c ≤ 24) (d0 : 0 ≤ d) (d1 : d ≤ 3) : leap (a * 400 + 1 + (b * 100 + c * 4 + d)) = true ↔ (d = 3 ∧ (c ≠ 24 ∨ b = 3)) := by
  rw [leap_iff]; omega
/-- what _ord2ymd's four divmods tell -/
structure Dec (n a b c d r1 r2 r3 r4 : Int) : Prop where
  e0 : n - 1 = 146097 * a + r1
  e1 : r1 = 36524 * b + r2
  e2 : r2 = 1461 * c + r3
  e3 : r3 = 365 * d + r4
  l1 : 0 ≤ r1
  u1 : r1 < 146097
  l2 : 0 ≤ r2
  u2 : r2 < 36524
  l3 : 0 ≤ r3
  u3 : r3 < 1461
  l4 : 0 ≤ r4
  u4 : r4 < 365
theorem Dec.last {n a b c d r1 r2 r3 r4 : Int} (D : Dec n a b c d r1 r2 r3 r4) (h : d = 4 ∨ b = 4) : r4 = 0 ∧ Valid (a * 400 + 1 + (b * 100 + c * 4 + d) - 1) 12 31 ∧ ord (a * 400 + 1 + (b * 100 + c * 4 + d) - 1) 12 31 = n := by
  obtain ⟨e0, e1, e2, e3, l1, u1, l2, u2, l3, u3, l4, u4⟩ := D
  refine ⟨by omega, ?_, ?_⟩
  · simp [Valid, dim, dimT]
  · have key : dby (a * 400 + 1 + (b * 100 + c * 4 + d)) = n := by
      rcases h with h | h
      · subst h
        have := dby_dec (a := a) (b := b) (c := c + 1) (d := 0) (by omega) (by omega) (by omega) (by omega) (by omega) (by omega)
        rw [show a * 400 + 1 + (b * 100 + c * 4 + 4) = a * 400 + 1 + (b * 100 + (c + 1) * 4 + 0) by omega, this]
        omega
      · subst h
        have := dby_dec (a := a + 1) (b := 0) (c := c) (d := d) (by omega) (by omega) (by omega) (by omega) (by omega) (by omega)
        rw [show a * 400 + 1 + (4 * 100 + c * 4 + d) = (a + 1) * 400 + 1 + (0 * 100 + c * 4 + d) by omega, this]
        omega
    have h2 := dby_succ (a * 400 + 1 + (b * 100 + c * 4 + d) - 1)
    rw [show a * 400 + 1 + (b * 100 + c * 4 + d) - 1 + 1 = a * 400 + 1 + (b * 100 + c * 4 + d) by omega, key] at h2
    simp only [ord, dbm, dbmT]
    simp
    omega
theorem Dec.year {n a b c d r1 r2 r3 r4 : Int} (D : Dec n a b c d r1 r2 r3 r4) (hd : d ≠ 4) (hb : b ≠ 4) : (leap (a * 400 + 1 + (b * 100 + c * 4 + d)) = true ↔ (d = 3 ∧ (c ≠ 24 ∨ b = 3))) ∧ n - 1 = dby (a * 400 + 1 + (b * 100 + c * 4 + d)) + r4 ∧ 0 ≤ r4 ∧ r4 < 365 + lpd (a * 400 + 1 + (b * 100 + c * 4 + d)) := by
  obtain ⟨e0, e1, e2, e3, l1, u1, l2, u2, l3, u3, l4, u4⟩ := D
  have := lpd_01 (a * 400 + 1 + (b * 100 + c * 4 + d))
  refine ⟨leap_dec (by omega) (by omega) (by omega) (by omega) (by omega) (by omega), ?_, l4, by omega⟩
  rw [dby_dec (by omega) (by omega) (by omega) (by omega) (by omega) (by omega)]
  omega
theorem month_hi {y r m : Int} (h0 : 0 ≤ r) (h1 : r < 365) (l : 32 * m ≤ r + 50) (u : r + 50 < 32 * m + 32) : 1 ≤ m ∧ m ≤ 12 ∧ (r < dbm y m → 2 ≤ m ∧ dbm y (m - 1) ≤ r) ∧ (dbm y m ≤ r → r < dbm y m + dim y m) := by
  have a1 : 1 ≤ m := by omega
  have a2 : m ≤ 12 := by omega
  obtain ⟨-, -, -, -, b1, b2, b3⟩ := tab y a1 a2
  refine ⟨a1, a2, fun c => ?_, fun _ => ?_⟩
  · have c1 : m ≠ 1 := fun e => by
      have c2 : dbm y m = 0 := b2 e
      rw [c2] at c
      exact absurd c (Int.not_lt.mpr h0)
    have c3 : 2 ≤ m := by omega
    have c4 : dbm y (m - 1) ≤ 32 * m - 50 := b1 c3
    exact ⟨c3, by omega⟩
  · show r < dbmL (lpd y) m + dimL (lpd y) m
    clear b1 b2
    omega
end
section

end
section
theorem len_oddB {mo : Int} (h1 : 1 ≤ mo) (h2 : mo ≤ 12) (h : mo ≠ 2) (y : Int) : 30 + (mo + mo / 8) % 2 = dim y mo := by
  rcases m12 h1 h2 with e | e | e | e | e | e | e | e | e | e | e | e <;> subst e <;> first | (exfalso; omega) | simp [dim, dimT]
theorem v_len4 {y mo : Int} (hm : mo ≠ 2) (h1 : 1 ≤ mo) (h2 : mo ≤ 12) : 30 + (mo + mo.fdiv 8).fmod 2 = dim y mo := by
  rw [Int.fmod_eq_emod_of_nonneg _ (by decide), Int.fdiv_eq_ediv_of_nonneg _ (by decide)]
  exact len_oddB h1 h2 hm y
theorem v_lenB {y mo : Int} (hm : mo = 2) (b : Bool) (h : leap y = b) : (if b = true then 29 else 28 : Int) = dim y mo := by
  subst hm; subst h
  unfold dim dimT lpd
  by_cases c : leap y = true <;> simp [c]
theorem v_len1 {y mo : Int} (hm : mo = 2) (h1 : y.fmod 100 = 0) (h : y.fmod 400 = 0) : (29 : Int) = dim y mo := by
  rw [Int.fmod_eq_emod_of_nonneg _ (by decide)] at h1 h
  exact v_lenB hm true ((leap_iff y).mpr (by omega))
theorem v_len2 {y mo : Int} (hm : mo = 2) (h1 : y.fmod 100 = 0) (h : y.fmod 400 ≠ 0) : (28 : Int) = dim y mo := by
  rw [Int.fmod_eq_emod_of_nonneg _ (by decide)] at h1 h
  exact v_lenB hm false (by rw [Bool.eq_false_iff]; intro c; have := (leap_iff y).mp c; omega)
theorem v_len3 {y mo : Int} (hm : mo = 2) (h1 : y.fmod 100 ≠ 0) (h : y.fmod 4 = 0) : (29 : Int) = dim y mo := by
  rw [Int.fmod_eq_emod_of_nonneg _ (by decide)] at h1 h
  exact v_lenB hm true ((leap_iff y).mpr (by omega))
theorem v_len5 {y mo : Int} (hm : mo = 2) (h1 : y.fmod 100 ≠ 0) (h : y.fmod 4 ≠ 0) : (28 : Int) = dim y mo := by
  rw [Int.fmod_eq_emod_of_nonneg _ (by decide)] at h1 h
  exact v_lenB hm false (by rw [Bool.eq_false_iff]; intro c; have := (leap_iff y).mp c; omega)
end
section

end
section
/-- the Monday of the year's first week -/
def mon (y : Int) : Int := if 3 < (dby y + dbm y 1 + 1 + 6).fmod 7 then dby y + dbm y 1 + 1 - (dby y + dbm y 1 + 1 + 6).fmod 7 + 7 else dby y + dbm y 1 + 1 - (dby y + dbm y 1 + 1 + 6).fmod 7
/-- the year's weeks -/
def weeks (y : Int) : Int := if (dby y + dbm y 1 + 1).fmod 7 = 4 ∨ ((dby y + dbm y 1 + 1).fmod 7 = 3 ∧ leap y = true) then 53 else 52
def num (y k d : Int) : Int := mon y + ((k - 1) * 7 + (d - 1))
theorem fm7 (x : Int) : x.fmod 7 = x % 7 := Int.fmod_eq_emod_of_nonneg _ (by decide)
theorem weeks_cases (y : Int) : weeks y = 52 ∨ weeks y = 53 := by unfold weeks; split <;> simp
theorem weeks_53 {y : Int} : weeks y = 53 ↔ ((dby y + dbm y 1 + 1).fmod 7 = 4 ∨ ((dby y + dbm y 1 + 1).fmod 7 = 3 ∧ leap y = true)) := by
  unfold weeks; split <;> simp_all
theorem lpd_leap {y : Int} : leap y = true ↔ lpd y = 1 := by unfold lpd; split <;> simp_all
theorem mon_succ (y : Int) : mon (y + 1) = mon y + 7 * weeks y := by
  have h := dby_succ y
  have h2 := lpd_01 y
  have h3 := lpd_leap (y := y)
  have e : ∀ z, mon z = if 3 < dby z % 7 then dby z + 1 - dby z % 7 + 7 else dby z + 1 - dby z % 7 := fun z => by
    unfold mon
    rw [dbm_1, fm7, show (dby z + 0 + 1 + 6) % 7 = dby z % 7 by omega]
    simp
  have w := weeks_53 (y := y)
  have c := weeks_cases y
  rw [dbm_1, fm7, h3] at w
  rw [e, e, h]
  split <;> split <;> omega
theorem mon_near (y : Int) : dby y - 2 ≤ mon y ∧ mon y ≤ dby y + 4 := by
  unfold mon
  rw [dbm_1, fm7]
  split <;> omega
theorem w_mon1 {y : Int} (h : 3 < (dby y + dbm y 1 + 1 + 6).fmod 7) : dby y + dbm y 1 + 1 - (dby y + dbm y 1 + 1 + 6).fmod 7 + 7 = mon y := by
  unfold mon; rw [if_pos h]
theorem w_mon2 {y : Int} (h : ¬ 3 < (dby y + dbm y 1 + 1 + 6).fmod 7) : dby y + dbm y 1 + 1 - (dby y + dbm y 1 + 1 + 6).fmod 7 = mon y := by
  unfold mon; rw [if_neg h]
end
section
/-- the year's days -/
def ylen (y : Int) : Int := 365 + lpd y
theorem ylen_succ (y : Int) : dby (y + 1) = dby y + ylen y := by rw [dby_succ]; unfold ylen; omega
theorem ylen_pred (y : Int) : dby y = dby (y - 1) + ylen (y - 1) := by
  have := ylen_succ (y - 1)
  rwa [show y - 1 + 1 = y by omega] at this
theorem ylen_12 (y : Int) : dbm y 12 + dim y 12 = ylen y := dbm_12 y
theorem mon_is (y : Int) : mon y = dby y + 4 - (dby y + 3) % 7 := by
  unfold mon
  rw [dbm_1, fm7]
  split <;> omega
theorem fourth_is {y : Int} : (3 + 5 * (y - 1).fmod 4 + 4 * (y - 1).fmod 100 + 6 * (y - 1).fmod 400).fmod 7 = dby y + 4 - mon y := by
  rw [mon_is, fm7, Int.fmod_eq_emod_of_nonneg _ (by decide), Int.fmod_eq_emod_of_nonneg _ (by decide), Int.fmod_eq_emod_of_nonneg _ (by decide)]
  have h : (3 + 5 * ((y - 1) % 4) + 4 * ((y - 1) % 100) + 6 * ((y - 1) % 400)) % 7 = (dby y + 3) % 7 := by
    unfold dby
    omega
  rw [h]
  omega
def WeekOk (y k d : Int) : Prop := 1 ≤ y ∧ 1 ≤ k ∧ k ≤ weeks y ∧ 1 ≤ d ∧ d ≤ 7
/-- the week's Thursday lies in the year -/
theorem thursday {y k : Int} : (1 ≤ 7 * k - (dby y + 4 - mon y) ∧ 7 * k - (dby y + 4 - mon y) ≤ ylen y) ↔ (1 ≤ k ∧ k ≤ weeks y) := by
  have a := mon_near y
  have b := mon_near (y + 1)
  have c := mon_succ y
  have d := ylen_succ y
  have e := weeks_cases y
  have f := mon_is y
  have g := mon_is (y + 1)
  constructor
  · rintro ⟨h1, h2⟩; omega
  · rintro ⟨h1, h2⟩; omega
/-- between the turns of _law_week's loop -/
structure WInv (y k d yr day month : Int) : Prop where
  m1 : 1 ≤ month
  m2 : month ≤ 12
  d1 : 1 ≤ day
  d2 : dbm yr month + day ≤ ylen yr
  e : dby yr + dbm yr month + day = num y k d
theorem num_is (y k d : Int) : num y k d = dby y + (7 * k - (dby y + 4 - mon y) + d - 4) := by unfold num; omega
/-- the day lies in the year -/
theorem winv_a {y k d : Int} (_ok : WeekOk y k d) (h1 : ¬ 7 * k - (dby y + 4 - mon y) + d - 4 < 1) (h2 : ¬ ylen y < 7 * k - (dby y + 4 - mon y) + d - 4) : WInv y k d y (7 * k - (dby y + 4 - mon y) + d - 4) 1 := by
  have := num_is y k d
  refine ⟨by omega, by omega, by omega, ?_, ?_⟩
  · rw [dbm_1]; omega
  · rw [dbm_1]; omega
theorem winv_b {y k d : Int} (ok : WeekOk y k d) (h1 : 7 * k - (dby y + 4 - mon y) + d - 4 < 1) : WInv y k d (y - 1) (7 * k - (dby y + 4 - mon y) + d - 4 + ylen (y - 1)) 1 := by
  have := num_is y k d
  have b := ylen_pred y
  have c := mon_near y
  have l := lpd_01 (y - 1)
  obtain ⟨g1, g2, g3, g4, g5⟩ := ok
  have u : ylen (y - 1) = 365 + lpd (y - 1) := rfl
  refine ⟨by omega, by omega, by omega, ?_, ?_⟩
  · rw [dbm_1]; omega
  · rw [dbm_1]; omega
theorem winv_c {y k d : Int} (ok : WeekOk y k d) (h1 : ylen y < 7 * k - (dby y + 4 - mon y) + d - 4) : WInv y k d (y + 1) (7 * k - (dby y + 4 - mon y) + d - 4 - ylen y) 1 := by
  have := num_is y k d
  have b := ylen_succ y
  have c := mon_near (y + 1)
  have e := mon_succ y
  have l := lpd_01 (y + 1)
  obtain ⟨g1, g2, g3, g4, g5⟩ := ok
  have u : ylen (y + 1) = 365 + lpd (y + 1) := rfl
  refine ⟨by omega, by omega, by omega, ?_, ?_⟩
  · rw [dbm_1]; omega
  · rw [dbm_1]; omega
theorem WInv.lt {y k d yr day month : Int} (W : WInv y k d yr day month) (h : dim yr month < day) : month ≤ 11 := by
  by_cases c : month = 12
  · subst c
    have := ylen_12 yr
    have := W.d2
    omega
  · have := W.m2; omega
theorem winv_step {y k d yr day month : Int} (W : WInv y k d yr day month) (h : dim yr month < day) : WInv y k d yr (day - dim yr month) (month + 1) := by
  have a := W.lt h
  have b := dbm_step (y := yr) W.m1 a
  have c := W.d2
  have e := W.e
  have f := W.m1
  refine ⟨by omega, by omega, by omega, by omega, by omega⟩
theorem winv_meas {y k d yr day month : Int} (W : WInv y k d yr day month) : (13 - (month + 1)).toNat < (13 - month).toNat := by
  have := W.m2
  omega
theorem winv_end {y k d yr day month : Int} (W : WInv y k d yr day month) (h : ¬ dim yr month < day) : Valid yr month day ∧ ord yr month day = num y k d :=
  ⟨⟨W.m1, W.m2, W.d1, by omega⟩, W.e⟩
theorem week_no {y k d : Int} (h : ¬ WeekOk y k d) (h0 : 0 ≤ y) : y = 0 ∨ (y ≠ 0 ∧ 7 * k - (dby y + 4 - mon y) < 1) ∨ (y ≠ 0 ∧ 1 ≤ 7 * k - (dby y + 4 - mon y) ∧ ylen y < 7 * k - (dby y + 4 - mon y)) ∨ (y ≠ 0 ∧ 1 ≤ 7 * k - (dby y + 4 - mon y) ∧ 7 * k - (dby y + 4 - mon y) ≤ ylen y ∧ d < 1) ∨ (y ≠ 0 ∧ 1 ≤ 7 * k - (dby y + 4 - mon y) ∧ 7 * k - (dby y + 4 - mon y) ≤ ylen y ∧ 7 < d) := by
  have t := thursday (y := y) (k := k)
  unfold WeekOk at h
  omega
end
section
section
variable {prog : Program} {w : World} {A : Around} {E : Value → Shared → Prop} {s : Shared} {h₀ : Heap} {L : Addr} {m : Str → Option Value} {news : List (Addr × Obj)}
/-- an item of a written list of the top's, at a place from 1 to 12 -/
theorem tab_item {l : Addr} {K : Frag} {value slice : PySem.Expr} {k : Int} {u : Tok} {Q : Value → Shared → Prop}
    {its : Array Value} {n : Nat} {d : Option Addr} {sl : Array (Option Value)} (f : Int → Int) (F : Fr h₀ L s.heap m) (X : K.In h₀) (ho : K.lookup l = some { cls := .type "list", dict := d, data := .seq its n, slots := sl }) (h1 : 1 ≤ k) (h2 : k ≤ 12)
    (hx : ∀ k : Int, 1 ≤ k → k ≤ 12 → ∃ t, its[k.toNat]? = some (Value.int (f k) t))
    (hs : subscripted slice false (.ref l) (.int k u) = operate [.ref l, .int k u] (getItem (.ref l) (.int k u)))
    (h : ∀ t, Q (.int (f k) t) s) : wpAny (model prog w) A (subscriptTail value slice (.ref l) (.int k u)) Q E s := by
  have hl := kun_topL F X ho
  obtain ⟨t, ht⟩ := hx k h1 h2
  exact tail_any hl.typeIs slot_list_getitem.lookup (wpAny_getItem_list hl (by omega) (by omega) ht (h t)) hs
/-- divmod by a positive number: two letters and what is known of them -/
theorem divmod_gen {a b : Int} {t u : Tok} {Q : Value → Shared → Prop} (F : Fr h₀ L s.heap m) (N : News h₀ L s.heap news) (hb : 0 < b) (hb2 : b < 1073741824)
    (h : ∀ q r D h' t1 t2 tk, a = b * q + r → 0 ≤ r → r < b → Fr h₀ L h' m → News h₀ L h' ((D, { cls := .type "tuple", data := .seq #[.int q t1, .int r t2] }) :: news) → AllLt D news → Q (.ref D) { s with heap := h', toks := tk }) :
    wpAny (model prog w) A (call (.builtin "divmod") [.int a t, .int b u]) Q E s := by
  refine divmod_N F N (by omega) (fun h' F' N' => ?_) (Or.inl (PyProof.noPylong_small (by omega)))
  refine h (a.fdiv b) (a.fmod b) _ h' _ _ _ ?_ ?_ ?_ F' N' (allLt_of fun p hp => Heap.lt_size (N p hp).1)
  · have := Int.mul_fdiv_add_fmod a b; omega
  · exact Int.fmod_nonneg_of_pos a hb
  · exact Int.fmod_lt_of_pos a hb
theorem rshift5_gen {a : Int} {t u : Tok} {Q : Value → Shared → Prop} (h : ∀ q t', 32 * q ≤ a → a < 32 * q + 32 → Q (.int q t') { s with toks := s.toks + 1 }) :
    wpAny (model prog w) A (binaryOp .RShift (.int a t) (.int 5 u)) Q E s := by
  refine rshift_int (by decide) ?_
  have e : a.fdiv (2 ^ Int.toNat 5) = a / 32 := by
    show a.fdiv 32 = _
    exact Int.fdiv_eq_ediv_of_nonneg _ (by decide)
  rw [e]
  exact h _ _ (by omega) (by omega)
theorem cmp_bool_tt {b c : Bool} {Q : Value → Shared → Prop} (e : b = c) (h : Q (.bool true) s) : wpAny (model prog w) A (compareOp .Eq (.bool b) (.bool c)) Q E s := by
  subst e
  refine eq_bool ?_
  rw [show (b == b) = true by cases b <;> rfl]
  exact h
end
/-- a cut: what is walked gives back one bool, and nothing is changed -/
def CutB (h₀ : Heap) (L : Addr) (m : Str → Option Value) (news : List (Addr × Obj)) (s : Shared) (b : Bool) (v : Value) (s' : Shared) : Prop :=
  ∃ (tk : Nat) (h' : Heap), v = .bool b ∧ s' = { s with heap := h', toks := tk } ∧ Fr h₀ L h' m ∧ News h₀ L h' news
theorem CutB.intro {h₀ : Heap} {L : Addr} {m : Str → Option Value} {news : List (Addr × Obj)} {s : Shared} {b c : Bool} {tk : Nat} {h' : Heap} (F : Fr h₀ L h' m) (N : News h₀ L h' news) (e : c = b) : CutB h₀ L m news s b (.bool c) { s with heap := h', toks := tk } := ⟨tk, h', by rw [e], rfl, F, N⟩
theorem cut_bool {M : Model} {A : Around} {E Q : Value → Shared → Prop} {s : Shared} {h₀ : Heap} {L : Addr} {m : Str → Option Value} {news : List (Addr × Obj)} {cm : Sem Value} (b : Bool) (_F : Fr h₀ L s.heap m) (_N : News h₀ L s.heap news)
    (h1 : wpAny M A cm (fun v s' => CutB h₀ L m news s b v s') E s) (h2 : ∀ tk h', Fr h₀ L h' m → News h₀ L h' news → Q (.bool b) { s with heap := h', toks := tk }) : wpAny M A cm Q E s := by
  refine wpAny_mono h1 (fun v s₂ hq => ?_) fun _ _ h => h
  obtain ⟨tk, h', rfl, rfl, F, N⟩ := hq
  exact h2 tk h' F N
theorem cut_iff {M : Model} {A : Around} {E Q : Value → Shared → Prop} {s : Shared} {h₀ : Heap} {L : Addr} {m : Str → Option Value} {news : List (Addr × Obj)} {cm : Sem Value} {b : Bool} {P : Prop} (_hb : b = true ↔ P) (_F : Fr h₀ L s.heap m) (_N : News h₀ L s.heap news)
    (h1 : wpAny M A cm (fun v s' => CutB h₀ L m news s b v s') E s) (h2 : ∀ tk h', Fr h₀ L h' m → News h₀ L h' news → Q (.bool b) { s with heap := h', toks := tk }) : wpAny M A cm Q E s := cut_bool b _F _N h1 h2
theorem w_y1 {b c d : Int} (h1 : d = 3) (h2 : c ≠ 24) : (c != 24) = true ↔ (d = 3 ∧ (c ≠ 24 ∨ b = 3)) := by simp [h1, h2]
theorem w_y2 {b c d : Int} (h1 : d = 3) (h2 : c = 24) : (b == 3) = true ↔ (d = 3 ∧ (c ≠ 24 ∨ b = 3)) := by simp [h1, h2]
theorem w_y3 {b c d : Int} (h1 : d ≠ 3) : (d == 3) = true ↔ (d = 3 ∧ (c ≠ 24 ∨ b = 3)) := by simp [h1]
theorem w_gt {q : Int} {z : Bool} (h : 2 < q) : z = true ↔ (2 < q ∧ z = true) := by simp [h]
theorem w_ngt {q : Int} {z : Bool} (h : ¬ 2 < q) : decide (2 < q) = true ↔ (2 < q ∧ z = true) := by simp [h]
theorem w_eq {q : Int} {z : Bool} (h : q = 2) : z = true ↔ (q = 2 ∧ z = true) := by simp [h]
theorem w_neq {q : Int} {z : Bool} (h : q ≠ 2) : (q == 2) = true ↔ (q = 2 ∧ z = true) := by simp [h]
theorem iff_bool {b c : Bool} (h : b = true ↔ c = true) : b = c := by cases b <;> cases c <;> simp_all
theorem o2y_year {n a b c d r1 r2 r3 r4 : Int} (D : Dec n a b c d r1 r2 r3 r4) (hd : d ≠ 4) (hb : b ≠ 4) : ∃ (z : Bool) (Y : Int), Y = a * 400 + 1 + (b * 100 + c * 4 + d) ∧ z = leap (a * 400 + 1 + (b * 100 + c * 4 + d)) ∧ z = leap Y ∧ (z = true ↔ (d = 3 ∧ (c ≠ 24 ∨ b = 3))) ∧ n - 1 = dby Y + r4 := by
  obtain ⟨h1, h2, h3, h4⟩ := D.year hd hb
  exact ⟨_, _, rfl, rfl, rfl, h1, h2⟩
theorem o2y_month {n Y r q : Int} (_hn : n - 1 = dby Y + r) (h0 : 0 ≤ r) (h1 : r < 365) (l : 32 * q ≤ r + 50) (u : r + 50 < 32 * q + 32) : 1 ≤ q ∧ q ≤ 12 ∧ (r < dbm Y q → 2 ≤ q ∧ dbm Y (q - 1) ≤ r) ∧ (dbm Y q ≤ r → r < dbm Y q + dim Y q) := month_hi h0 h1 l u
theorem o2y_gt2 {z : Bool} {Y q : Int} (hz : z = leap Y) : ∃ b : Bool, (b = true ↔ (2 < q ∧ z = true)) ∧ dbmT q + (if b = true then 1 else 0) = dbm Y q := by
  refine ⟨decide (2 < q ∧ z = true), by simp, ?_⟩
  subst hz
  unfold dbm lpd
  by_cases h : 2 < q <;> by_cases h' : leap Y = true <;> simp [h, h']
theorem o2y_eq2 {z : Bool} {Y q : Int} (hz : z = leap Y) : ∃ b : Bool, (b = true ↔ (q = 2 ∧ z = true)) ∧ dimT q + (if b = true then 1 else 0) = dim Y q := by
  refine ⟨decide (q = 2 ∧ z = true), by simp, ?_⟩
  subst hz
  unfold dim lpd
  by_cases h : q = 2 <;> by_cases h' : leap Y = true <;> simp [h, h']
theorem o2y_endA {n Y Y' r q P S : Int} (hn : n - 1 = dby Y + r) (hlt : r < P) (h7 : P = dbm Y q) (h6 : S = dim Y (q - 1)) (m2 : q ≤ 12) (m3 : r < dbm Y q → 2 ≤ q ∧ dbm Y (q - 1) ≤ r) (hy : Y = Y') :
    0 ≤ r - (P - S) ∧ r - (P - S) < dim Y' (q - 1) ∧ Valid Y' (q - 1) (r - (P - S) + 1) ∧ ord Y' (q - 1) (r - (P - S) + 1) = n := by
  subst hy
  obtain ⟨a, b⟩ := m3 (by omega)
  have e := dbm_step (y := Y) (m := q - 1) (by omega) (by omega)
  rw [show q - 1 + 1 = q by omega] at e
  refine ⟨by omega, by omega, ⟨by omega, by omega, by omega, by omega⟩, ?_⟩
  unfold ord
  omega
theorem o2y_endB {n Y Y' r q P : Int} (hn : n - 1 = dby Y + r) (hlt : ¬ r < P) (h7 : P = dbm Y q) (m1 : 1 ≤ q) (m2 : q ≤ 12) (m4 : dbm Y q ≤ r → r < dbm Y q + dim Y q) (hy : Y = Y') :
    0 ≤ r - P ∧ r - P < dim Y' q ∧ Valid Y' q (r - P + 1) ∧ ord Y' q (r - P + 1) = n := by
  subst hy
  have a := m4 (by omega)
  refine ⟨by omega, by omega, ⟨by omega, by omega, by omega, by omega⟩, ?_⟩
  unfold ord
  omega
theorem news_keep4 {h₀ h : Heap} {L : Addr} {x a b c d : Addr × Obj} {news : List (Addr × Obj)} (N : News h₀ L h (x :: a :: b :: c :: d :: news)) : News h₀ L h (x :: news) := fun p hp => N p (by
  rcases List.mem_cons.mp hp with rfl | hp
  · exact List.mem_cons_self
  · simp [hp])
end
section
/-- the test of a comprehension says no, and nothing is changed -/
def NoOk (s : Shared) (h : Heap) (ok : Bool) (s' : Shared) : Prop := ok = false ∧ ∃ tk, s' = { s with heap := h, toks := tk }
section
open LCg LCt
variable {prog : Program} {w : World} {A : Around} {E : Value → Shared → Prop} {s : Shared} {h₀ : Heap} {L : Addr} {m : Str → Option Value} {env : Env}
def TestNo (prog : Program) (w : World) (A : Around) (h₀ : Heap) (L : Addr) (m : Str → Option Value) (env : Env) (ct : Expr) (x : Str) (scope : Scope) (cl : List (Str × Addr)) : Prop :=
  ∀ (n : Int) (t : Tok) (I : Addr) (oI : Obj) (C : Addr) (oC : Obj) (D : Addr) (oD : Obj) (m₂ : Str → Option Value) (h : Heap) (tk : Nat) (E' : Value → Shared → Prop) (s₂ : Shared) (news : List (Addr × Obj)), NsObj oC m₂ → m₂ x = some (Value.int n t) → Fr h₀ L h m → News h₀ L h ((I, oI) :: (C, oC) :: (D, oD) :: news) →
    wpAny (model prog w) A (isTrue ct (compEnvC scope cl C env) (eval ct (compEnvC scope cl C env))) (fun ok s' => NoOk s₂ h ok s') E' { s₂ with heap := h, toks := tk }
theorem no_rest {ct elt : Expr} {x : Str} {scope : Scope} {cl : List (Str × Addr)} {S : List (Addr × Obj) → Prop} {P : Nat → Value → Prop} {Fin : List Value → List (Addr × Obj) → Prop} {news : List (Addr × Obj)} (T : TestNo prog w A h₀ L m env ct x scope cl)
    (hP : ∀ i v, P i v → ∃ n t, v = Value.int n t) (hS : S news) (hF : Fin [] news) : ∀ k i, CompRestT prog w A h₀ L m env ct elt x scope cl s S P Fin k i [] news
  | 0, _ => hF
  | k + 1, i => by
    refine CompRestT.succ fun v I oI C oC D m₂ h tk E' hv hC hx F N off ne => ?_
    obtain ⟨n, t, rfl⟩ := hP _ _ hv
    refine wpAny_mono (T n t I oI C oC D _ m₂ h tk E' s news hC hx F N) (fun ok s' hq => ?_) fun _ _ e => e
    obtain ⟨rfl, tk', rfl⟩ := hq
    simp only [Bool.false_eq_true, if_false]
    exact CompEnd.intro F N news (fun p hp => hp) off hS (no_rest T hP hS hF k (i + 1))
def SrcNo (h₀ : Heap) (L : Addr) (m : Str → Option Value) (Q : Value → Shared → Prop) (xv : Value) (s₁ : Shared) : Prop :=
  ∃ ax its news, xv = Value.ref ax ∧ Fr h₀ L s₁.heap m ∧ News h₀ L s₁.heap news ∧ (∃ o, (ax, o) ∈ news ∧ (o.cls = .type "tuple" ∨ o.cls = .type "list") ∧ ∃ n, o.data = .seq its n) ∧ its.size ≤ sizeLine ∧ (∀ (i : Nat) v, its[i]? = some v → ∃ n t, v = Value.int n t) ∧ ∀ g, FinE h₀ L m { s₁ with heap := g } Q [] news
theorem SrcNo.intro {Q : Value → Shared → Prop} {s₁ : Shared} {ax : Addr} {T : String} {its : Array Value} {n : Nat} {news : List (Addr × Obj)} (F : Fr h₀ L s₁.heap m) (N : News h₀ L s₁.heap news) (hm : (ax, ({ cls := .type T, data := .seq its n } : Obj)) ∈ news) (hT : T = "tuple" ∨ T = "list") (hz : its.size ≤ sizeLine)
    (hi : ∀ (i : Nat) v, its[i]? = some v → ∃ n t, v = Value.int n t) (h : ∀ D h' tk, Fr h₀ L h' m → News h₀ L h' ((D, lst []) :: news) → Off1 D news → Q (.ref D) { s₁ with heap := h', toks := tk }) : SrcNo h₀ L m Q (.ref ax) s₁ :=
  ⟨ax, its, news, rfl, F, N, ⟨_, hm, hT.elim (fun e => .inl (by rw [e])) (fun e => .inr (by rw [e])), _, rfl⟩, hz, hi, fun _ D h' tk F' N' O => h D h' tk F' N' O⟩
theorem all_ints {its : Array Value} (h : ∀ v ∈ its.toList, ∃ n t, v = Value.int n t) : ∀ (i : Nat) v, its[i]? = some v → ∃ n t, v = Value.int n t := fun i v hv => h v (by
  have := Array.mem_of_getElem? hv
  simpa using this)
theorem ints_nil : ∀ v ∈ ([] : List Value), ∃ n t, v = Value.int n t := fun _ h => nomatch h
theorem ints_cons {n : Int} {t : Tok} {r : List Value} (h : ∀ v ∈ r, ∃ n t, v = Value.int n t) : ∀ v ∈ Value.int n t :: r, ∃ n t, v = Value.int n t := fun v hv => by
  rcases List.mem_cons.mp hv with rfl | hv
  · exact ⟨_, _, rfl⟩
  · exact h v hv
theorem comp_no {ct elt iter : Expr} {x : Str} {px : Pos} {scope : Scope} {cl : List (Str × Addr)} {pos : Pos} {Q : Value → Shared → Prop} (F₀ : Fr h₀ L s.heap m) (hh : A.handled = none)
    (hclos : closureFor scope env = pure cl) (hcell : ∀ y ∈ scope.names, y.2 ≠ .cell) (hkind : scope.kind = .function)
    (hnames : ∀ y ∈ scope.names, y.2 = .local → scope.names.lookup y.1 = some .local) (hx : scope.names.lookup x = some .local)
    (T : TestNo prog w A h₀ L m env ct x scope cl)
    (h : wpAny (model prog w) A (eval iter env) (fun xv s₁ => SrcNo h₀ L m Q xv s₁) E s)
    (hs : ∀ x, foldedSetIterable iter env x = pure x := by intro _; rfl) :
    wpAny (model prog w) A (eval (.ListComp elt [⟨.Name x px, iter, [ct], 0⟩] scope pos) env) Q E s := by
  rw [eval_ListComp]
  refine wpAny_comprehension_free (use := none) rfl hs hclos hkind hnames (wpAny_mono h (fun xv s₁ h₁ => ?_) fun _ _ e => e)
  obtain ⟨ax, its, news, rfl, F, N, ⟨o, hm, hc, n, hd⟩, hsz, hi, fin⟩ := h₁
  have hget : s₁.heap.get? ax = some o := (N _ hm).1
  have hlt : ax < s₁.heap.objs.size := Heap.lt_size hget
  rcases hc with hc | hc
  · have hl : s₁.heap.IsTuple ax its := ⟨o, hget, hc, n, hd⟩
    refine wpAny_pyIter_tuple hl ?_
    have up : ∀ b o, s₁.heap.get? b = some o → (s₁.heap.push { cls := .type "tuple_iterator", data := .fields #[.ref ax, .int 0 0] }).get? b = some o := fun b o e => Heap.get?_push_of_some _ e
    refine block_T (Walks.tuple hh s₁.heap.objs.size ax (Nat.ne_of_lt hlt) its) hsz (fun i h st => by obtain ⟨o, e, _⟩ := st.1; exact ⟨o, e⟩) (S := fun nw => (ax, o) ∈ nw) (fun i h h' o' nw st e e' k N' S => ⟨by obtain ⟨o'', q, r⟩ := st.1; rw [e] at q; cases q; exact ⟨o', e', r⟩, ⟨o, (N' _ S).1, hc, n, hd⟩⟩) hcell hkind hx ⟨⟨_, Heap.get?_push_size _ rfl, rfl, rfl⟩, hl.push _⟩ (fun b hb => ?_)
      (F.keeps up) (N.grown up) (Nat.ne_of_lt F.ns.lt) (next_is_new F) (fun p hp => Nat.ne_of_lt (Heap.lt_size (N p hp).1)) hm (no_rest T hi hm (fin s₁.heap) _ _) ?_
    · show b < (s₁.heap.push _).objs.size
      rw [Heap.size_push]
      rcases List.mem_cons.mp hb with rfl | hb
      · exact Nat.lt_succ_self _
      · rw [List.mem_singleton.mp hb]; exact Nat.lt_succ_of_lt hlt
    · intro D C h tk m' ys news' F' N' o1 hn hC₀ hD₀ hCL hDL hCD offC fin
      refine ⟨m', hn, fun h'' hs'' => fin D h'' tk (F'.change hs'' hCL hC₀) (fun p hp => ?_) o1⟩
      refine ⟨hs''.extBut _ _ ?_ (N' p hp).1, (N' p hp).2⟩
      rcases List.mem_cons.mp hp with rfl | hp
      · exact Ne.symm hCD
      · exact offC p hp
  · have hl : s₁.heap.IsList ax its := ⟨o, hget, hc, n, hd⟩
    refine wpAny_pyIter_list hl ?_
    have up : ∀ b o, s₁.heap.get? b = some o → (s₁.heap.push { cls := .type "list_iterator", data := .fields #[.ref ax, .int 0 0] }).get? b = some o := fun b o e => Heap.get?_push_of_some _ e
    refine block_T (Walks.list hh s₁.heap.objs.size ax (Nat.ne_of_lt hlt) its) hsz (fun i h st => by obtain ⟨o, e, _⟩ := st.1; exact ⟨o, e⟩) (S := fun nw => (ax, o) ∈ nw) (fun i h h' o' nw st e e' k N' S => ⟨by obtain ⟨o'', q, r⟩ := st.1; rw [e] at q; cases q; exact ⟨o', e', r⟩, ⟨o, (N' _ S).1, hc, n, hd⟩⟩) hcell hkind hx ⟨⟨_, Heap.get?_push_size _ rfl, rfl, rfl⟩, hl.push _⟩ (fun b hb => ?_)
      (F.keeps up) (N.grown up) (Nat.ne_of_lt F.ns.lt) (next_is_new F) (fun p hp => Nat.ne_of_lt (Heap.lt_size (N p hp).1)) hm (no_rest T hi hm (fin s₁.heap) _ _) ?_
    · show b < (s₁.heap.push _).objs.size
      rw [Heap.size_push]
      rcases List.mem_cons.mp hb with rfl | hb
      · exact Nat.lt_succ_self _
      · rw [List.mem_singleton.mp hb]; exact Nat.lt_succ_of_lt hlt
    · intro D C h tk m' ys news' F' N' o1 hn hC₀ hD₀ hCL hDL hCD offC fin
      refine ⟨m', hn, fun h'' hs'' => fin D h'' tk (F'.change hs'' hCL hC₀) (fun p hp => ?_) o1⟩
      refine ⟨hs''.extBut _ _ ?_ (N' p hp).1, (N' p hp).2⟩
      rcases List.mem_cons.mp hp with rfl | hp
      · exact Ne.symm hCD
      · exact offC p hp
end
end
section
section
variable {prog : Program} {w : World} {A : Around} {E : Value → Shared → Prop} {s : Shared}
theorem mod_gen {a b : Int} {t u : Tok} {Q : Value → Shared → Prop} (hb : 0 < b) (h : ∀ q r t', a = b * q + r → 0 ≤ r → r < b → Q (.int r t') { s with toks := s.toks + 1 }) :
    wpAny (model prog w) A (binaryOp .Mod (.int a t) (.int b u)) Q E s := by
  refine mod_int' (by omega) ?_
  have h1 := Int.mul_fdiv_add_fmod a b
  have h2 := Int.fmod_nonneg_of_pos a hb
  have h3 := Int.fmod_lt_of_pos a hb
  exact h (a.fdiv b) _ _ (by omega) h2 h3
end
section
variable {prog : Program} {w : World} {A : Around} {E : Value → Shared → Prop} {s : Shared}
/-- a remainder by a positive number -/
theorem mod_pos {a b : Int} {t u : Tok} {Q : Value → Shared → Prop} (hb : 0 < b) (h : ∀ r t', 0 ≤ r → r < b → Q (.int r t') { s with toks := s.toks + 1 }) :
    wpAny (model prog w) A (binaryOp .Mod (.int a t) (.int b u)) Q E s :=
  mod_gen hb fun _ r t' _ h2 h3 => h r t' h2 h3
end
end
section
section
variable {prog : Program} {w : World} {A : Around} {E : Value → Shared → Prop} {s : Shared}
abbrev tup3 (a b c : Int) (t u v : Tok) : Obj := { cls := .type "tuple", data := .seq #[.int a t, .int b u, .int c v] }
end
end
section
section
open LCg
variable {prog : Program} {w : World} {A : Around} {E : Value → Shared → Prop} {s : Shared} {h₀ : Heap} {L : Addr} {m : Str → Option Value} {env : Env}
/-- an element of a comprehension over ints: one value, nothing else changed -/
def EltOk (h₀ : Heap) (L : Addr) (m : Str → Option Value) (s : Shared) (I : Addr) (oI : Obj) (C : Addr) (oC : Obj) (D : Addr) (oD : Obj) (news : List (Addr × Obj)) (R : Int → Value → Prop) (n : Int) (v : Value) (s' : Shared) : Prop :=
  ∃ (h' : Heap) (tk : Nat), R n v ∧ s' = { s with heap := h', toks := tk } ∧ Fr h₀ L h' m ∧ News h₀ L h' ((I, oI) :: (C, oC) :: (D, oD) :: news)
theorem EltOk.intro {I : Addr} {oI : Obj} {C : Addr} {oC : Obj} {D : Addr} {oD : Obj} {news : List (Addr × Obj)} {R : Int → Value → Prop} {n : Int} {v : Value} {h' : Heap} {tk : Nat} (F : Fr h₀ L h' m) (N : News h₀ L h' ((I, oI) :: (C, oC) :: (D, oD) :: news)) (r : R n v) :
    EltOk h₀ L m s I oI C oC D oD news R n v { s with heap := h', toks := tk } := ⟨h', tk, r, rfl, F, N⟩
def EltIs (prog : Program) (w : World) (A : Around) (h₀ : Heap) (L : Addr) (m : Str → Option Value) (env : Env) (elt : Expr) (x : Str) (scope : Scope) (cl : List (Str × Addr)) (Pn : Int → Prop) (R : Int → Value → Prop) (news : List (Addr × Obj)) : Prop :=
  ∀ (n : Int) (t : Tok) (I : Addr) (oI : Obj) (C : Addr) (oC : Obj) (D : Addr) (oD : Obj) (m₂ : Str → Option Value) (h : Heap) (tk : Nat) (E' : Value → Shared → Prop) (s₂ : Shared), Pn n → NsObj oC m₂ → m₂ x = some (.int n t) → Fr h₀ L h m → News h₀ L h ((I, oI) :: (C, oC) :: (D, oD) :: news) →
    wpAny (model prog w) A (eval elt (compEnvC scope cl C env)) (fun v s' => EltOk h₀ L m s₂ I oI C oC D oD news R n v s') E' { s₂ with heap := h, toks := tk }
theorem map_rest {elt : Expr} {x : Str} {scope : Scope} {cl : List (Str × Addr)} {S : List (Addr × Obj) → Prop} {P : Nat → Value → Prop} {Fin : List Value → List (Addr × Obj) → Prop} {news : List (Addr × Obj)} {Pn : Int → Prop} {R : Int → Value → Prop} {g : Nat → Int} {Acc : Nat → List Value → Prop} {n : Nat}
    (T : EltIs prog w A h₀ L m env elt x scope cl Pn R news) (hP : ∀ i v, i < n → P i v → ∃ t, v = Value.int (g i) t ∧ Pn (g i)) (hS : S news) (hA : ∀ i ys y, i < n → Acc i ys → R (g i) y → Acc (i + 1) (ys ++ [y])) (hF : ∀ ys, Acc n ys → Fin ys news) :
    ∀ k i ys, i + k = n → Acc i ys → CompRest prog w A h₀ L m env elt x scope cl s S P Fin k i ys news
  | 0, i, ys, e, ha => hF ys (by rw [← show i = n by omega]; exact ha)
  | k + 1, i, ys, e, ha => by
    refine CompRest.succ fun v I oI C oC D m₂ h tk E' hv hC hx F N off ne => ?_
    obtain ⟨t, rfl, hp⟩ := hP i v (by omega) hv
    refine wpAny_mono (T (g i) t I oI C oC D _ m₂ h tk E' s hp hC hx F N) (fun v s' hq => ?_) fun _ _ e => e
    obtain ⟨h', tk', hr, rfl, F', N'⟩ := hq
    exact CompEnd.intro F' N' news (fun p hp => hp) off hS (map_rest T hP hS hA hF k (i + 1) (ys ++ [v]) (by omega) (hA i ys v (by omega) ha hr))
end
end
section

end
section
section
variable {prog : Program} {w : World} {A : Around} {E : Value → Shared → Prop} {s : Shared} {h₀ : Heap} {L l : Addr} {m : Str → Option Value} {news : List (Addr × Obj)} {vs : List Value} {ns : List Int}
theorem ints_at : ∀ {vs : List Value} {ns : List Int}, IntsAre vs ns → ∀ {k : Nat} (h : k < ns.length), ∃ t, vs[k]? = some (Value.int ns[k] t)
  | _, _, .nil, _, h => absurd h (by simp)
  | _, _, .cons _ t _, 0, _ => ⟨t, rfl⟩
  | _, _, .cons _ _ r, k + 1, h => by simpa using ints_at r (k := k) (by simpa using h)
/-- an item of a list of ints at a place that lies in it -/
theorem list_item {value slice : PySem.Expr} {k : Int} {u : Tok} {Q : Value → Shared → Prop} (hl : s.heap.IsList l vs.toArray) (hi : IntsAre vs ns) (h0 : 0 ≤ k) (hz : k < 2 ^ 63) (hk : k.toNat < ns.length)
    (hs : subscripted slice false (.ref l) (.int k u) = operate [.ref l, .int k u] (getItem (.ref l) (.int k u)))
    (h : ∀ t, Q (.int ns[k.toNat] t) s) : wpAny (model prog w) A (subscriptTail value slice (.ref l) (.int k u)) Q E s := by
  obtain ⟨t, ht⟩ := ints_at hi hk
  exact tail_any hl.typeIs slot_list_getitem.lookup (wpAny_getItem_list hl h0 hz (by simpa using ht) (h t)) hs
theorem sum_to {X : Int} {Q : Value → Shared → Prop} (F : Fr h₀ L s.heap m) (N : News h₀ L s.heap news) (hh : A.handled = none) (hl : s.heap.IsList l vs.toArray) (hi : IntsAre vs ns) (e : ns.sum = X)
    (h : ∀ h' tk t', Fr h₀ L h' m → News h₀ L h' news → Q (.int X t') { s with heap := h', toks := tk }) : wpAny (model prog w) A (call (.builtin "sum") [.ref l]) Q E s := by
  subst e
  exact LSm.sum_ints F N hh hl hi h
end
end
section
section
open LCg LCt
variable {prog : Program} {w : World} {A : Around} {E : Value → Shared → Prop} {s : Shared} {h₀ : Heap} {L : Addr} {m : Str → Option Value} {env : Env}
end
end
section
/-- a marker: this is the law's year -/
structure Yr (y : Int) : Prop where
  mk ::
theorem dim_one {y m : Int} (h1 : 1 ≤ m) (h2 : m ≤ 12) : 1 ≤ dim y m := by have := dim_pos (y := y) h1 h2; omega
theorem ints_snoc : ∀ {vs : List Value} {ns : List Int}, IntsAre vs ns → ∀ {n : Int} {t : Tok}, IntsAre (vs ++ [Value.int n t]) (ns ++ [n])
  | _, _, .nil, n, t => .cons n t .nil
  | _, _, .cons k u r, _, _ => .cons k u (ints_snoc r)
theorem ints_size {ws : List Value} {ns : List Int} (h : IntsAre ws ns) (e : ns.length ≤ 1000) : ws.toArray.size ≤ sizeLine := by
  have : ws.length = ns.length := h.length
  have h2 : (1000 : Nat) ≤ sizeLine := Nat.le_of_ble_eq_true rfl
  simp only [List.size_toArray]
  omega
section
open LCg LCt
variable {prog : Program} {w : World} {A : Around} {E : Value → Shared → Prop} {s₁ : Shared} {h₀ : Heap} {L : Addr} {m : Str → Option Value} {env : Env}
/-- the runs a, a + 1, .. : n of them -/
def runs (a : Int) (n : Nat) : List Int := (List.range n).map fun (i : Nat) => a + (i : Int)
theorem ints_succ (a : Int) (n : Nat) : runs a (n + 1) = runs a n ++ [a + (n : Int)] := by simp [runs, List.range_succ]
/-- a comprehension over a range: f of each int -/
theorem src_map {elt : Expr} {x : Str} {scope : Scope} {cl : List (Str × Addr)} {Fin : Shared → List Value → List (Addr × Obj) → Prop} {r : Addr} {a b : Int} {t u v : Tok} {n : Nat} {news : List (Addr × Obj)} {Pn : Int → Prop} {f : Int → Int}
    (hh : A.handled = none) (F : Fr h₀ L s₁.heap m) (N : News h₀ L s₁.heap news) (hr : IsRange s₁.heap r a b 1 t u v) (hsm : Builtin.Range.small a b 1 = true) (hn : Builtin.Range.rangeSize a b 1 = ((n : Nat) : Int)) (hsz : n ≤ sizeLine)
    (hp : ∀ i : Nat, i < n → Pn (a + (i : Int))) (T : EltIs prog w A h₀ L m env elt x scope cl Pn (fun n v => ∃ t, v = Value.int (f n) t) news)
    (h : ∀ g ys, IntsAre ys ((runs a n).map f) → Fin { s₁ with heap := g } ys news) : CompSrc prog w A h₀ L m env elt x scope cl Fin (.ref r) s₁ := by
  refine CompSrc.range hh F N hr hsm hn hsz fun g => ?_
  refine map_rest (Pn := Pn) (R := fun n v => ∃ t, v = Value.int (f n) t) (g := fun i => a + (i : Int)) (Acc := fun i ys => IntsAre ys ((runs a i).map f)) (n := n) T ?_ trivial ?_ (h g) n 0 [] (by omega) .nil
  · rintro i v hi ⟨t, rfl⟩
    exact ⟨t, rfl, hp i hi⟩
  · rintro i ys y _ ha ⟨t, rfl⟩
    rw [ints_succ, List.map_append]
    exact ints_snoc ha
theorem src03 {elt : Expr} {x : Str} {scope : Scope} {cl : List (Str × Addr)} {Fin : Shared → List Value → List (Addr × Obj) → Prop} {r : Addr} {t u v : Tok} {news : List (Addr × Obj)} {y : Int} (_hY : Yr y)
    (hh : A.handled = none) (F : Fr h₀ L s₁.heap m) (N : News h₀ L s₁.heap news) (hr : IsRange s₁.heap r 1 13 1 t u v)
    (T : EltIs prog w A h₀ L m env elt x scope cl (fun n => 1 ≤ n ∧ n ≤ 12) (fun n v => ∃ t, v = Value.int (dim y n) t) news)
    (h : ∀ g ys, IntsAre ys ((runs 1 12).map (dim y)) → Fin { s₁ with heap := g } ys news) : CompSrc prog w A h₀ L m env elt x scope cl Fin (.ref r) s₁ :=
  src_map (n := 12) hh F N hr (by decide) (by decide) (by decide) (fun i hi => by omega) T h
end
end
section
section
variable {prog : Program} {w : World} {A : Around} {E : Value → Shared → Prop} {s : Shared} {h₀ : Heap} {L l : Addr} {m : Str → Option Value} {news : List (Addr × Obj)} {vs : List Value} {ns : List Int}
end
section
open LCg LCt
variable {prog : Program} {w : World} {A : Around} {E : Value → Shared → Prop} {s₁ : Shared} {h₀ : Heap} {L : Addr} {m : Str → Option Value} {env : Env}
end
theorem news_tail {h₀ h : Heap} {L : Addr} {x : Addr × Obj} {news : List (Addr × Obj)} (N : News h₀ L h (x :: news)) : News h₀ L h news := fun p hp => N p (List.mem_cons_of_mem _ hp)
end
section
section
variable {prog : Program} {w : World} {A : Around} {E : Value → Shared → Prop} {s : Shared} {a b : Int} {t u : Tok} {Q : Value → Shared → Prop}
theorem le_yes (e : a ≤ b) (h : Q (.bool true) s) : wpAny (model prog w) A (compareOp .LtE (.int a t) (.int b u)) Q E s := le_int (by rw [decide_eq_true e]; exact h)
theorem le_no (e : ¬ a ≤ b) (h : Q (.bool false) s) : wpAny (model prog w) A (compareOp .LtE (.int a t) (.int b u)) Q E s := le_int (by rw [decide_eq_false e]; exact h)
theorem gt_yes (e : b < a) (h : Q (.bool true) s) : wpAny (model prog w) A (compareOp .Gt (.int a t) (.int b u)) Q E s := gt_int (by rw [decide_eq_true (show a > b from e)]; exact h)
theorem gt_no (e : ¬ b < a) (h : Q (.bool false) s) : wpAny (model prog w) A (compareOp .Gt (.int a t) (.int b u)) Q E s := gt_int (by rw [decide_eq_false (show ¬ a > b from e)]; exact h)
theorem eq_yes (e : a = b) (h : Q (.bool true) s) : wpAny (model prog w) A (compareOp .Eq (.int a t) (.int b u)) Q E s := eq_int (by rw [show (a == b) = true by simp [e]]; exact h)
theorem eq_no (e : a ≠ b) (h : Q (.bool false) s) : wpAny (model prog w) A (compareOp .Eq (.int a t) (.int b u)) Q E s := eq_int (by rw [show (a == b) = false by simp [e]]; exact h)
end
theorem num_eq {X y k d : Int} (h : X = mon y + ((k - 1) * 7 + (d - 1))) : X = num y k d := h
end
section
/-- back in the caller's frame when a caught exception has turned the frame's slots -/
theorem back_turn {h₀ g g' h : Heap} {L L' : Addr} {m m' : Str → Option Value} {news' : List (Addr × Obj)} (FG : Fr h₀ L g m) (T : KtsTurn [L] g g') (F' : Fr g' L' h m') (N' : News g' L' h news') : Fr h₀ L h m ∧ News h₀ L h news' := by
  have free : h₀.get? L = none := kts_self FG
  obtain ⟨o, es, ep, hL, hd, hk, hm⟩ := FG.ns
  obtain ⟨sl, hs⟩ := T.up hL
  have off : ∀ b o, h₀.get? b = some o → b ∉ [L] := fun b o e q => by
    rw [List.mem_singleton.mp q, free] at e
    cases e
  refine ⟨⟨⟨_, es, ep, F'.keep _ _ hs, hd, hk, hm⟩, fun b o e => F'.keep b o (T.other b o (FG.keep b o e) (off b o e)), FG.above⟩, fun p hp => ?_⟩
  obtain ⟨h1, h2, h3⟩ := N' p hp
  refine ⟨h1, fun q => ?_, ?_⟩
  · rw [q, hs] at h3
    cases h3
  · cases e : h₀.get? p.1 with
    | none => rfl
    | some o' =>
      rw [T.other _ _ (FG.keep _ _ e) (off _ _ e)] at h3
      cases h3
section
variable {prog : Program} {w : World} {A₀ A : Around} {s : Shared} {base h₀ : Heap} {L : Addr} {m : Str → Option Value} {news : List (Addr × Obj)} {K : Frag} {p : Program} {loose : List Str} {mean : ExcName → Option Value} {mg mb : Str → Option Value}
    {R : Result → Shared → Prop} {name qual : Str} {params : Arguments} {body : List Stmt} {scope : Scope} {dV kV doc pm cdv ct oc : Value} {an od : Option Addr} {osl : Array (Option Value)} {f : Addr} {args : Args} {binds : List (Str × Value)} {cn : Str} {cs : Scope} {a : Addr} {ccd : Value} {cl : List (Str × Addr)}
/-- a def is entered from the law's own frame, which may have cells; an exception may be caught within -/
theorem enterT (B : Below A₀ base [] h₀) (F : Fr h₀ L s.heap m) (X₀ : K.In h₀) (N : News h₀ L s.heap news) (T : Top p loose mean mg mb h₀) (hA : A.frames = some [envX cn cs L a ccd cl]) (hke : cs.kind = .function)
    (ho : K.lookup f = some ⟨oc, od, .func (fnOf name qual params body scope dV kV doc pm an cdv ct), osl⟩) (hcd : codeIn K cdv qual = true) (hroom : A.depth < recursionLimit)
    (hbind : BindsTo s (fnOf name qual params body scope dV kV doc pm an cdv ct) args binds) (hloc : ∀ y ∈ binds, scope.names.lookup y.1 = some .local)
    (h : ∀ g L' h₁, Fr h₀ L g m → Fr g L' h₁ (fun y => binds.reverse.lookup y) → News g L' h₁ news → Below A base [envX cn cs L a ccd cl] g → K.In g → Top p loose mean mg mb g → KtsDicts ([envX cn cs L a ccd cl].filterMap (·.frame)) g →
      wpAny (model prog w) (A.deeper (envOf qual scope L' f cdv)) (execs body (envOf qual scope L' f cdv))
        (fun fl s' => LeaveS0 ([envX cn cs L a ccd cl].filterMap (·.frame)) h₀ L m g R (match fl with | .ret v => v | _ => .none) s')
        (fun e s' => wpAny (model prog w) (A.deeper (envOf qual scope L' f cdv)) (leaving (envOf qual scope L' f cdv) e) (fun _ s'' => R (.error e) s'') (fun e' s'' => R (.error e') s'') s')
        { s with heap := h₁, toks := s.toks + binds.length })
    (hco : scope.isCoroutine = false) (hgen : scope.isGenerator = false) (hk : scope.kind = .function)
    (hcell : ∀ x ∈ scope.names, x.2 ≠ .cell) : codeAny (model prog w) A (.call (.ref f) args) R s := by
  obtain ⟨FG, BG, st, _⟩ := groundX (R := R) (env := envX cn cs L a ccd cl) B F N hA rfl hke
  have X := X₀.keeps F.keep
  refine codeAny_call_def (fd := fnOf name qual params body scope dV kV doc pm an cdv ct) (body := body) (binds := binds) hroom (X _ _ ho) rfl (T.nolimit.keeps F.keep) (codeRec_of X hcd) rfl hbind hcell hloc (fun h₁ hns up => ?_) hco hgen hk
  have Fn : Fr (hideAll s.heap (news.map (·.1))) s.heap.objs.size h₁ (fun y => binds.reverse.lookup y) := ⟨hns, fun b o e => up b o (of_hideAll _ e), Nat.le_of_eq (hideAll_size _ _)⟩
  have Nn : News (hideAll s.heap (news.map (·.1))) s.heap.objs.size h₁ news := fun q hq => ⟨up _ _ (N q hq).1, Nat.ne_of_lt (Heap.lt_size (N q hq).1), hideAll_none _ (List.mem_map_of_mem hq)⟩
  have Dn : KtsDicts ([envX cn cs L a ccd cl].filterMap (·.frame)) (hideAll s.heap (news.map (·.1))) := fun b hb => by
    obtain ⟨o, es, ep, e1, e2, _⟩ := FG.ns
    rw [show b = L from List.mem_singleton.mp hb]
    exact ⟨o, es, ep, e1, e2⟩
  refine wpAny_mono (h _ _ h₁ FG Fn Nn BG (X₀.keeps st) (T.keeps st) Dn) (fun fl s' hl => ?_) fun _ _ y => y
  obtain ⟨g', L', m', news', T', F', N', k⟩ := hl
  obtain ⟨r1, r2⟩ := back_turn FG T' F' N'
  exact k r1 r2
end
end
section
section
variable {prog : Program} {w : World} {A : Around} {E : Value → Shared → Prop} {s : Shared} {h₀ : Heap} {L l k : Addr} {m : Str → Option Value} {news : List (Addr × Obj)}
end
section
open LCg LCt
variable {prog : Program} {w : World} {A : Around} {E : Value → Shared → Prop} {s₁ : Shared} {h₀ : Heap} {L : Addr} {m : Str → Option Value} {env : Env}
end
end
section
section
open LCg LCt
variable {prog : Program} {w : World} {A : Around} {E : Value → Shared → Prop} {s s₁ : Shared} {h₀ : Heap} {L : Addr} {m : Str → Option Value} {env : Env}
end
section
variable {prog : Program} {w : World} {A : Around} {E : Value → Shared → Prop} {s : Shared} {h₀ : Heap} {L l k : Addr} {m : Str → Option Value} {news ex : List (Addr × Obj)}
end
end
section
theorem conj_lt {a b c : Nat} {R : Prop} (h : c < b ∧ R) (k : (c < b ∧ R) → a < b) : a ≠ b := Nat.ne_of_lt (k h)
theorem conj_gt {a b c : Nat} {R : Prop} (h : c < a ∧ R) (k : (c < a ∧ R) → b < a) : a ≠ b := Nat.ne_of_gt (k h)
end
section
theorem sum_ylen (y : Int) : ((runs 1 12).map (dim y)).sum = ylen y := by
  have e : runs 1 12 = [1, 2, 3, 4, 5, 6, 7, 8, 9, 10, 11, 12] := by decide
  rw [e]
  simp [dim, dimT, ylen]
  omega
section
variable {prog : Program} {w : World} {A : Around} {E : Value → Shared → Prop} {s : Shared}
theorem mod_to {a b X : Int} {t u : Tok} {Q : Value → Shared → Prop} (e : a.fmod b = X) (h : ∀ t', Q (.int X t') { s with toks := s.toks + 1 }) (hb : 0 < b := by decide) :
    wpAny (model prog w) A (binaryOp .Mod (.int a t) (.int b u)) Q E s := by
  subst e
  exact mod_int' (by omega) (h _)
end
theorem wk_len : (PySem.Str.ofString "Invalid week: ").length = 14 := by decide +kernel
theorem wd_len : (PySem.Str.ofString "Invalid weekday: ").length = 17 := by decide +kernel
theorem rg_len : (PySem.Str.ofString " (range is [1, 7])").length = 18 := by decide +kernel
theorem em_len : PySem.Str.empty.length = 0 := by decide +kernel
theorem fs1 {n : Int} (h0 : 0 ≤ n) (h1 : n ≤ 9999) : (PySem.Str.empty ++ PySem.Str.ofString "Invalid week: " ++ PySem.Str.ofString (toString n)).length ≤ sizeLine := by
  have h := KT.len_num h0 (show n < 10 ^ 10 by omega)
  have z : (100 : Nat) ≤ sizeLine := Nat.le_of_ble_eq_true rfl
  rw [PySem.Str.length_append, PySem.Str.length_append, wk_len, em_len]
  omega
theorem fs2 {n : Int} (h0 : 0 ≤ n) (h1 : n ≤ 9999) : (PySem.Str.empty ++ PySem.Str.ofString "Invalid weekday: " ++ PySem.Str.ofString (toString n) ++ PySem.Str.ofString " (range is [1, 7])").length ≤ sizeLine := by
  have h := KT.len_num h0 (show n < 10 ^ 10 by omega)
  have z : (100 : Nat) ≤ sizeLine := Nat.le_of_ble_eq_true rfl
  rw [PySem.Str.length_append, PySem.Str.length_append, PySem.Str.length_append, wd_len, rg_len, em_len]
  omega
theorem join_fs {M : Model} {A : Around} {E : Value → Shared → Prop} {s : Shared} {env : Env} {out : PySem.Str} {Q : Value → Shared → Prop} (hl : out.length ≤ sizeLine) (h : Q (.str out s.toks) { s with toks := s.toks + 1 }) : wpAny M A (joinParts out (evalEach [] env)) Q E s :=
  joinParts_nilE (joinParts_nil h hl)
end
section
/-- a text by its signs -/
def Tx (cs : List Nat) : PySem.Str := ⟨cs.toArray⟩
theorem tx_cps (cs : List Nat) : (Tx cs).cps.toList = cs := rfl
theorem tx_length (cs : List Nat) : (Tx cs).length = cs.length := by simp [Tx, PySem.Str.length]
/-- a figure -/
def Dg (a : Int) : Prop := 0 ≤ a ∧ a ≤ 9
theorem tx_cut {cs ds : List Nat} {i j : Int} {p n : Nat} (hi : i = (p : Int)) (hj : j = ((p + n : Nat) : Int)) (hl : p + n ≤ cs.length) (e : (cs.drop p).take n = ds) : Txt.slice (Tx cs) (some i) (some j) = Tx ds := by
  subst hi; subst hj
  have h := slice_closes (x := Tx cs) (i := (p : Int)) (j := ((p + n : Nat) : Int)) ⟨by omega, by omega, by rw [tx_cps]; omega⟩
  rw [beq_iff_eq] at h
  rw [h, tx_cps]
  rw [show ((p : Int)).toNat = p by omega, show (((p + n : Nat) : Int) - (p : Int)).toNat = n by omega, e]
  rfl
theorem tx_at {cs : List Nat} {i : Int} {c : Nat} (h0 : 0 ≤ i) (hc : cs[i.toNat]? = some c) : Txt.item (Tx cs) i = Tx [c] := by
  obtain ⟨p, rfl⟩ := Int.eq_ofNat_of_zero_le h0
  rw [Int.toNat_natCast] at hc
  have hp : p < cs.length := (List.getElem?_eq_some_iff.mp hc).1
  have e : Txt.charAt (Tx cs) (p : Int) = some c := by
    unfold Txt.charAt
    rw [show seqIndex? (p : Int) (Tx cs).length = some p by
      rw [tx_length]; unfold seqIndex?; simp; omega]
    simpa [Tx] using hc
  unfold Txt.item
  rw [e]
  rfl
theorem dg_lt {a : Int} (h : Dg a) : a.toNat < 10 := by unfold Dg at h; omega
theorem int1 {a X : Int} (ha : Dg a) (e : a = X) : PySem.intText? (Tx [48 + a.toNat]) = some X := by
  have h := PySem.intText_digits (x := Tx [48 + a.toNat]) (by
    intro c hc
    rw [tx_cps] at hc
    have := dg_lt ha
    simp at hc
    omega) (by rw [tx_cps]; simp) (by rw [tx_length]; simp)
  rw [h, tx_cps]
  unfold Dg at ha
  simp [PySem.NumText.digitsVal]
  omega
theorem int2 {a b X : Int} (ha : Dg a) (hb : Dg b) (e : 10 * a + b = X) : PySem.intText? (Tx [48 + a.toNat, 48 + b.toNat]) = some X := by
  have h := PySem.intText_digits (x := Tx [48 + a.toNat, 48 + b.toNat]) (by
    intro c hc
    rw [tx_cps] at hc
    have := dg_lt ha
    have := dg_lt hb
    simp at hc
    omega) (by rw [tx_cps]; simp) (by rw [tx_length]; simp)
  rw [h, tx_cps]
  unfold Dg at ha hb
  simp [PySem.NumText.digitsVal]
  omega
theorem int4 {a b c d X : Int} (ha : Dg a) (hb : Dg b) (hc : Dg c) (hd : Dg d) (e : 1000 * a + 100 * b + 10 * c + d = X) : PySem.intText? (Tx [48 + a.toNat, 48 + b.toNat, 48 + c.toNat, 48 + d.toNat]) = some X := by
  have h := PySem.intText_digits (x := Tx [48 + a.toNat, 48 + b.toNat, 48 + c.toNat, 48 + d.toNat]) (by
    intro z hz
    rw [tx_cps] at hz
    have := dg_lt ha
    have := dg_lt hb
    have := dg_lt hc
    have := dg_lt hd
    simp at hz
    omega) (by rw [tx_cps]; simp) (by rw [tx_length]; simp)
  rw [h, tx_cps]
  unfold Dg at ha hb hc hd
  simp [PySem.NumText.digitsVal]
  omega
theorem minus_yes : (Tx [45] == PySem.Str.ofString "-") = true := by decide +kernel
theorem w_yes : (Tx [87] == PySem.Str.ofString "W") = true := by decide +kernel
theorem tx1_ne {c d : Nat} (h : c ≠ d) : (Tx [c] == Tx [d]) = false := by
  rw [beq_eq_false_iff_ne]
  intro e
  have := congrArg (fun x => x.cps.toList) e
  rw [tx_cps, tx_cps] at this
  simp at this
  exact h this
theorem minus_no {c : Nat} (h : c ≠ 45) : (Tx [c] == PySem.Str.ofString "-") = false := by
  rw [show PySem.Str.ofString "-" = Tx [45] by decide +kernel]; exact tx1_ne h
theorem w_no {c : Nat} (h : c ≠ 87) : (Tx [c] == PySem.Str.ofString "W") = false := by
  rw [show PySem.Str.ofString "W" = Tx [87] by decide +kernel]; exact tx1_ne h
theorem minus_dg {a : Int} : (Tx [48 + a.toNat] == PySem.Str.ofString "-") = false := minus_no (by omega)
theorem w_dg {a : Int} (h : Dg a) : (Tx [48 + a.toNat] == PySem.Str.ofString "W") = false := w_no (by have := dg_lt h; omega)
theorem minus_T : (Tx [84] == PySem.Str.ofString "-") = false := minus_no (by decide)
theorem minus_W : (Tx [87] == PySem.Str.ofString "-") = false := minus_no (by decide)
/-- 7, 8, 10: the lengths that serve -/
theorem len_no {n : Nat} (h7 : n ≠ 7) (h8 : n ≠ 8) (h10 : n ≠ 10) : (!([7, 8, 10] : List Int).any fun x => x == (n : Int)) = true := by
  simp
  omega
section
variable {prog : Program} {w : World} {A : Around} {E : Value → Shared → Prop} {s : Shared} {value slice : PySem.Expr} {h₀ : Heap} {L : Addr} {m : Str → Option Value} {news : List (Addr × Obj)}
theorem eq_to {x y : PySem.Str} {t u : Tok} {b : Bool} {Q : Value → Shared → Prop} (e : (x == y) = b) (h : Q (.bool b) s) : wpAny (model prog w) A (compareOp .Eq (.str x t) (.str y u)) Q E s := eq_str (by rw [e]; exact h)
theorem truthy_to {b c : Bool} {Q : Bool → Shared → Prop} (e : b = c) (h : wpAny (model prog w) A (truthy (.bool c)) Q E s) : wpAny (model prog w) A (truthy (.bool b)) Q E s := by rw [e]; exact h
end
end
section
/-- a date's text, written with or without hyphens -/
def DateText (x : PySem.Str) (y m d : Int) : Prop :=
  ∃ a b c e f g h i : Int, Dg a ∧ Dg b ∧ Dg c ∧ Dg e ∧ Dg f ∧ Dg g ∧ Dg h ∧ Dg i ∧ 1000 * a + 100 * b + 10 * c + e = y ∧ 10 * f + g = m ∧ 10 * h + i = d ∧
    (x = Tx [48 + a.toNat, 48 + b.toNat, 48 + c.toNat, 48 + e.toNat, 45, 48 + f.toNat, 48 + g.toNat, 45, 48 + h.toNat, 48 + i.toNat] ∨
     x = Tx [48 + a.toNat, 48 + b.toNat, 48 + c.toNat, 48 + e.toNat, 48 + f.toNat, 48 + g.toNat, 48 + h.toNat, 48 + i.toNat])
/-- a week's day: year, week and day -/
def WeekText (x : PySem.Str) (y k d : Int) : Prop :=
  ∃ a b c e f g : Int, Dg a ∧ Dg b ∧ Dg c ∧ Dg e ∧ Dg f ∧ Dg g ∧ Dg d ∧ 1000 * a + 100 * b + 10 * c + e = y ∧ 10 * f + g = k ∧
    ((d = 1 ∧ x = Tx [48 + a.toNat, 48 + b.toNat, 48 + c.toNat, 48 + e.toNat, 45, 87, 48 + f.toNat, 48 + g.toNat]) ∨
     x = Tx [48 + a.toNat, 48 + b.toNat, 48 + c.toNat, 48 + e.toNat, 45, 87, 48 + f.toNat, 48 + g.toNat, 45, 48 + d.toNat] ∨
     (d = 1 ∧ x = Tx [48 + a.toNat, 48 + b.toNat, 48 + c.toNat, 48 + e.toNat, 87, 48 + f.toNat, 48 + g.toNat]) ∨
     x = Tx [48 + a.toNat, 48 + b.toNat, 48 + c.toNat, 48 + e.toNat, 87, 48 + f.toNat, 48 + g.toNat, 48 + d.toNat])
/-- the mixed ones -/
def MixText (x : PySem.Str) : Prop :=
  ∃ a b c e f g h i : Int, Dg a ∧ Dg b ∧ Dg c ∧ Dg e ∧ Dg f ∧ Dg g ∧ Dg h ∧ Dg i ∧
    (x = Tx [48 + a.toNat, 48 + b.toNat, 48 + c.toNat, 48 + e.toNat, 45, 48 + f.toNat, 48 + g.toNat, 84, 48 + h.toNat, 48 + i.toNat] ∨
     x = Tx [48 + a.toNat, 48 + b.toNat, 48 + c.toNat, 48 + e.toNat, 48 + f.toNat, 48 + g.toNat, 45, 48 + h.toNat] ∨
     x = Tx [48 + a.toNat, 48 + b.toNat, 48 + c.toNat, 48 + e.toNat, 45, 87, 48 + f.toNat, 48 + g.toNat, 84, 48 + h.toNat] ∨
     x = Tx [48 + a.toNat, 48 + b.toNat, 48 + c.toNat, 48 + e.toNat, 87, 48 + f.toNat, 48 + g.toNat, 45])
theorem week_rng {a b c e f g d y k : Int} (ha : Dg a) (hb : Dg b) (hc : Dg c) (he : Dg e) (hf : Dg f) (hg : Dg g) (hd : Dg d) (hy : 1000 * a + 100 * b + 10 * c + e = y) (hk : 10 * f + g = k) : 0 ≤ y ∧ y ≤ 9999 ∧ 0 ≤ k ∧ k ≤ 99 ∧ 0 ≤ d ∧ d ≤ 9 := by
  unfold Dg at *
  omega
end
section
/-- the ten forms -/
def formL (k : Int) : List Nat :=
  if k = 0 then [48, 48, 48, 48, 45, 48, 48, 45, 48, 48] else if k = 1 then [48, 48, 48, 48, 48, 48, 48, 48] else if k = 2 then [48, 48, 48, 48, 45, 87, 48, 48]
  else if k = 3 then [48, 48, 48, 48, 45, 87, 48, 48, 45, 48] else if k = 4 then [48, 48, 48, 48, 87, 48, 48] else if k = 5 then [48, 48, 48, 48, 87, 48, 48, 48]
  else if k = 6 then [48, 48, 48, 48, 45, 48, 48, 84, 48, 48] else if k = 7 then [48, 48, 48, 48, 48, 48, 45, 48] else if k = 8 then [48, 48, 48, 48, 45, 87, 48, 48, 84, 48]
  else [48, 48, 48, 48, 87, 48, 48, 45]
theorem ten {k : Int} (h0 : 0 ≤ k) (h1 : k < 10) : k = 0 ∨ k = 1 ∨ k = 2 ∨ k = 3 ∨ k = 4 ∨ k = 5 ∨ k = 6 ∨ k = 7 ∨ k = 8 ∨ k = 9 := by omega
theorem noI_tuple_add : typeLookup (.type "tuple") (dunderI "add") = pure none := by rw [typeLookup_type, builtinLookup_eq_fast]; kernel_rfl
section
variable {prog : Program} {w : World} {A : Around} {E : Value → Shared → Prop} {s : Shared} {h₀ : Heap} {L : Addr} {m : Str → Option Value} {news : List (Addr × Obj)}
theorem iadd_tuples {t b : Addr} {its its2 : Array Value} {n n2 : Nat} {Q : Value → Shared → Prop} (F : Fr h₀ L s.heap m) (N : News h₀ L s.heap news) (ht : (t, ({ cls := .type "tuple", data := .seq its n } : Obj)) ∈ news) (hb : (b, ({ cls := .type "tuple", data := .seq its2 n2 } : Obj)) ∈ news)
    (h1 : ¬ its.isEmpty = true) (h2 : ¬ its2.isEmpty = true) (hsz : its.size + its2.size ≤ 64)
    (h : ∀ D h', Fr h₀ L h' m → News h₀ L h' ((D, { cls := .type "tuple", data := .seq (its ++ its2) }) :: news) → AllLt D news → Q (.ref D) { s with heap := h' }) :
    wpAny (model prog w) A (inplaceOp .Add (.ref t) (.ref b)) Q E s := by
  have z : (64 : Nat) ≤ sizeLine := Nat.le_of_ble_eq_true rfl
  have e1 := (N _ ht).1
  have e2 := (N _ hb).1
  refine wpAny_inplaceOp_concat ⟨_, e1, rfl⟩ ⟨_, e2, rfl⟩ noI_tuple_add noFill_tuple_add seq_tuple_add (call_meets PySem.F.slot_tuple_add ⟨_, e1, rfl⟩ PySem.F.entry_tuple_add (PySem.F.args_tuple_add_2 _ _) (tuple_addW2 t b its its2 n n2 none none #[] #[] h1 h2 (by omega)) ⟨e1, e2, ?_⟩)
  exact h s.heap.objs.size _ (F.push _) (News.push F N _) (allLt_of fun p hp => Heap.lt_size (N p hp).1)
theorem item_form {D : Addr} {its : Array Value} {n : Nat} {value slice : PySem.Expr} {k : Int} {u : Tok} {Q : Value → Shared → Prop} (N : News h₀ L s.heap news) (hm : (D, ({ cls := .type "tuple", data := .seq its n } : Obj)) ∈ news) (h0 : 0 ≤ k) (h1 : k < 10)
    (hx : ∀ k : Int, 0 ≤ k → k < 10 → ∃ t, its[k.toNat]? = some (Value.str (Tx (formL k)) t))
    (hs : subscripted slice false (.ref D) (.int k u) = operate [.ref D, .int k u] (getItem (.ref D) (.int k u)))
    (h : ∀ t, Q (.str (Tx (formL k)) t) s) : wpAny (model prog w) A (subscriptTail value slice (.ref D) (.int k u)) Q E s := by
  obtain ⟨t, ht⟩ := hx k h0 h1
  have e := (N _ hm).1
  have hsz : k.toNat < its.size := (Array.getElem?_eq_some_iff.mp ht).1
  refine tail_any ⟨_, e, rfl⟩ PySem.F.slot_tuple_getitem.lookup (P.getItem_tuple (k := k.toNat) e (by omega) (by omega) ?_ ht (h t)) hs
  unfold seqIndex?
  simp
  omega
end
theorem forms_are {t0 t1 t2 t3 t4 t5 t6 t7 t8 t9 : Tok} : ∀ k : Int, 0 ≤ k → k < 10 → ∃ t, ((#[Value.str (Str.ofString "0000-00-00") t0, Value.str (Str.ofString "00000000") t1, Value.str (Str.ofString "0000-W00") t2, Value.str (Str.ofString "0000-W00-0") t3, Value.str (Str.ofString "0000W00") t4, Value.str (Str.ofString "0000W000") t5] ++ #[Value.str (Str.ofString "0000-00T00") t6, Value.str (Str.ofString "000000-0") t7, Value.str (Str.ofString "0000-W00T0") t8, Value.str (Str.ofString "0000W00-") t9] : Array Value))[k.toNat]? = some (Value.str (Tx (formL k)) t) := by
  intro k h0 h1
  have q0 : Str.ofString "0000-00-00" = Tx (formL 0) := by decide +kernel
  have q1 : Str.ofString "00000000" = Tx (formL 1) := by decide +kernel
  have q2 : Str.ofString "0000-W00" = Tx (formL 2) := by decide +kernel
  have q3 : Str.ofString "0000-W00-0" = Tx (formL 3) := by decide +kernel
  have q4 : Str.ofString "0000W00" = Tx (formL 4) := by decide +kernel
  have q5 : Str.ofString "0000W000" = Tx (formL 5) := by decide +kernel
  have q6 : Str.ofString "0000-00T00" = Tx (formL 6) := by decide +kernel
  have q7 : Str.ofString "000000-0" = Tx (formL 7) := by decide +kernel
  have q8 : Str.ofString "0000-W00T0" = Tx (formL 8) := by decide +kernel
  have q9 : Str.ofString "0000W00-" = Tx (formL 9) := by decide +kernel
  rw [q0, q1, q2, q3, q4, q5, q6, q7, q8, q9]
  rcases ten h0 h1 with e | e | e | e | e | e | e | e | e | e <;> subst e <;> exact ⟨_, rfl⟩
end
section
/-- a form's signs with the figures filled in -/
def fill : List Int → List Int → List Nat
  | [], _ => []
  | c :: r, [] => c.toNat :: fill r []
  | c :: r, d :: e => if c = 48 then (48 + d.toNat) :: fill r e else c.toNat :: fill r (d :: e)
theorem fill_length : ∀ (l ds : List Int), (fill l ds).length = l.length
  | [], _ => by simp [fill]
  | c :: r, [] => by simp [fill, fill_length r []]
  | c :: r, d :: e => by
    unfold fill
    split
    · simp [fill_length r e]
    · simp [fill_length r (d :: e)]
theorem fill_fig (f : Int) : ∀ (l ds : List Int), ds.length = l.count 48 → fill (l ++ [48]) (ds ++ [f]) = fill l ds ++ [48 + f.toNat]
  | [], [], _ => by simp [fill]
  | [], d :: e, h => by simp at h
  | c :: r, [], h => by
    have hc : c ≠ 48 := by intro e; subst e; simp at h
    have hr : ([] : List Int).length = r.count 48 := by
      rw [List.count_cons] at h
      simp [hc] at h
      simpa using h
    have ih := fill_fig f r [] hr
    simp only [List.cons_append, List.nil_append] at ih ⊢
    unfold fill
    rw [if_neg hc, ih]
    rfl
  | c :: r, d :: e, h => by
    by_cases hc : c = 48
    · subst hc
      have ih := fill_fig f r e (by simpa using h)
      simp only [List.cons_append] at ih ⊢
      unfold fill
      simp [ih]
    · have ih := fill_fig f r (d :: e) (by rw [List.count_cons] at h; simpa [hc] using h)
      simp only [List.cons_append] at ih ⊢
      unfold fill
      simp [hc, ih]
theorem fill_sign {c : Int} (hc : c ≠ 48) : ∀ (l ds : List Int), ds.length = l.count 48 → fill (l ++ [c]) ds = fill l ds ++ [c.toNat]
  | [], [], _ => by simp [fill]
  | [], d :: e, h => by simp at h
  | a :: r, [], h => by
    have hr : ([] : List Int).length = r.count 48 := by
      rw [List.count_cons] at h
      simp only [List.length_nil] at h ⊢
      omega
    have ih := fill_sign hc r [] hr
    simp only [List.cons_append] at ih ⊢
    unfold fill
    simp [ih]
  | a :: r, d :: e, h => by
    by_cases ha : a = 48
    · subst ha
      have ih := fill_sign hc r e (by simpa using h)
      simp only [List.cons_append] at ih ⊢
      unfold fill
      simp [ih]
    · have ih := fill_sign hc r (d :: e) (by rw [List.count_cons] at h; simpa [ha] using h)
      simp only [List.cons_append] at ih ⊢
      unfold fill
      simp [ha, ih]
/-- between the turns of the law's first loop -/
structure Rn (pre : List Int) (t : PySem.Str) (ds : List Int) : Prop where
  t : t = Tx (fill pre ds)
  n : ds.length = pre.count 48
  g : ∀ d ∈ ds, Dg d
theorem tx_app (a b : List Nat) : Tx a ++ Tx b = Tx (a ++ b) := by
  have : (Tx a ++ Tx b).cps = (Tx (a ++ b)).cps := by
    rw [PySem.Str.cps_append]
    simp [Tx]
  cases h : Tx a ++ Tx b
  cases h2 : Tx (a ++ b)
  rw [h, h2] at this
  simp at this
  rw [this]
theorem rn_start : Rn [] (PySem.Str.ofString "") [] ∧ (PySem.Str.ofString "").length ≤ 10 ∧ ([] : List Int).length ≤ 10 :=
  ⟨⟨by decide +kernel, by simp, fun _ h => nomatch h⟩, by decide +kernel, by simp⟩
theorem form_len {k : Int} : (formL k).length ≤ 10 := by
  unfold formL
  repeat' split
  all_goals simp
theorem codes_tx (cs : List Nat) : KStt.codes (Tx cs) = cs.map fun (c : Nat) => (c : Int) := rfl
theorem pre_len {k : Int} {pre post : List Int} {c : Int} (h : KStt.codes (Tx (formL k)) = pre ++ c :: post) : pre.length + 1 ≤ 10 := by
  have e := congrArg List.length h
  rw [codes_tx, List.length_map, List.length_append, List.length_cons] at e
  have := form_len (k := k)
  omega
theorem rn_fig {k : Int} {pre post ds : List Int} {t : PySem.Str} {n : Nat} {f : Int} (he : KStt.codes (Tx (formL k)) = pre ++ (n : Int) :: post) (h : Rn pre t ds) (hn : n = 48) (h0 : 0 ≤ f) (h1 : f < 10) :
    Rn (pre ++ [(n : Int)]) (t ++ Tx [48 + f.toNat]) (ds ++ [f]) ∧ (t ++ Tx [48 + f.toNat]).length ≤ 10 ∧ (ds ++ [f]).length ≤ 10 := by
  have hl := pre_len he
  obtain ⟨ht, hd, hg⟩ := h
  subst hn
  subst ht
  have hc : pre.count 48 ≤ pre.length := List.count_le_length
  refine ⟨⟨?_, ?_, ?_⟩, ?_, ?_⟩
  · rw [tx_app, ← fill_fig f pre ds hd]; rfl
  · rw [List.length_append, List.count_append, hd]; rfl
  · intro d hm
    rcases List.mem_append.mp hm with hm | hm
    · exact hg d hm
    · rw [List.mem_singleton.mp hm]; exact ⟨h0, by omega⟩
  · rw [tx_app, tx_length, List.length_append, fill_length]; simpa using hl
  · rw [List.length_append, hd]; simp; omega
theorem rn_sign {k : Int} {pre post ds : List Int} {t : PySem.Str} {n : Nat} (he : KStt.codes (Tx (formL k)) = pre ++ (n : Int) :: post) (h : Rn pre t ds) (hn : n ≠ 48) :
    Rn (pre ++ [(n : Int)]) (t ++ ⟨#[n]⟩) ds ∧ (t ++ (⟨#[n]⟩ : PySem.Str)).length ≤ 10 ∧ ds.length ≤ 10 := by
  have hl := pre_len he
  obtain ⟨ht, hd, hg⟩ := h
  subst ht
  have hc : pre.count 48 ≤ pre.length := List.count_le_length
  have e : (⟨#[n]⟩ : PySem.Str) = Tx [n] := rfl
  rw [e]
  refine ⟨⟨?_, ?_, hg⟩, ?_, by omega⟩
  · rw [tx_app, fill_sign (by omega) pre ds hd]; simp
  · rw [List.count_append, hd]
    have : List.count (48 : Int) [(n : Int)] = 0 := List.count_eq_zero.mpr (by simp; omega)
    omega
  · rw [tx_app, tx_length, List.length_append, fill_length]; simpa using hl
theorem item_fig {f : Int} (h0 : 0 ≤ f) (h1 : f < 10) : Txt.item (PySem.Str.ofString "0123456789") f = Tx [48 + f.toNat] := by
  have e : PySem.Str.ofString "0123456789" = Tx [48, 49, 50, 51, 52, 53, 54, 55, 56, 57] := by decide +kernel
  rw [e]
  refine tx_at h0 ?_
  rcases ten h0 h1 with e | e | e | e | e | e | e | e | e | e <;> subst e <;> rfl
theorem rn_item {k : Int} {pre post ds : List Int} {t : PySem.Str} {n : Nat} {f : Int} (he : KStt.codes (Tx (formL k)) = pre ++ (n : Int) :: post) (h : Rn pre t ds) (hn : n = 48) (h0 : 0 ≤ f) (h1 : f < 10) :
    Rn (pre ++ [(n : Int)]) (t ++ Txt.item (PySem.Str.ofString "0123456789") f) (ds ++ [f]) ∧ (t ++ Txt.item (PySem.Str.ofString "0123456789") f).length ≤ 10 ∧ (ds ++ [f]).length ≤ 10 := by
  rw [item_fig h0 h1]
  exact rn_fig he h hn h0 h1
section
variable {prog : Program} {w : World} {A : Around} {E : Value → Shared → Prop} {s : Shared} {value slice : PySem.Expr}
theorem sign_eq {n : Nat} {t u : Tok} {Q : Value → Shared → Prop} (h : Q (.bool (decide (n = 48))) s) : wpAny (model prog w) A (compareOp .Eq (.str (Tx [n]) t) (.str (PySem.Str.ofString "0") u)) Q E s := by
  refine eq_to ?_ h
  rw [show PySem.Str.ofString "0" = Tx [48] by decide +kernel]
  by_cases c : n = 48
  · subst c; decide +kernel
  · rw [tx1_ne c, decide_eq_false c]
end
def fg (ds : List Int) (k : Int) : Int := ds.getD k.toNat 0
section
variable {prog : Program} {w : World} {A : Around} {E : Value → Shared → Prop} {s : Shared} {l : Addr} {vs : List Value} {ns : List Int}
theorem fig_read {value slice : PySem.Expr} {k : Int} {u : Tok} {Q : Value → Shared → Prop} (hl : s.heap.IsList l vs.toArray) (hi : IntsAre vs ns) (h0 : 0 ≤ k) (hz : k < 2 ^ 63) (hk : k < (ns.length : Int))
    (hs : subscripted slice false (.ref l) (.int k u) = operate [.ref l, .int k u] (getItem (.ref l) (.int k u)))
    (h : ∀ t, Q (.int (fg ns k) t) s) : wpAny (model prog w) A (subscriptTail value slice (.ref l) (.int k u)) Q E s := by
  refine list_item hl hi h0 hz (by omega) hs fun t => ?_
  have e : fg ns k = ns[k.toNat]'(by omega) := by
    unfold fg
    rw [List.getD_eq_getElem?_getD, List.getElem?_eq_getElem (by omega)]
    rfl
  rw [← e]
  exact h t
end
theorem codes_form (k : Int) : KStt.codes (Tx (formL k)) = (formL k).map fun (c : Nat) => (c : Int) := rfl
/-- how many figures the forms have -/
theorem rn_count {k : Int} {t : PySem.Str} {ds : List Int} (h : Rn (KStt.codes (Tx (formL k))) t ds) (h0 : 0 ≤ k) (h1 : k < 10) : ds.length = if k = 0 ∨ k = 1 ∨ k = 6 then 8 else if k = 3 ∨ k = 5 ∨ k = 7 ∨ k = 8 then 7 else 6 := by
  have e := h.n
  rw [codes_form] at e
  rw [e]
  rcases ten h0 h1 with q | q | q | q | q | q | q | q | q | q <;> subst q <;> decide
theorem figs6 {k i : Int} {t : PySem.Str} {ds : List Int} (h : Rn (KStt.codes (Tx (formL k))) t ds) (h0 : 0 ≤ k) (h1 : k < 10) (hi : i < 6) : i < (ds.length : Int) := by
  have e := rn_count h h0 h1
  split at e <;> (try split at e) <;> omega
theorem figs8 {k i : Int} {t : PySem.Str} {ds : List Int} (h : Rn (KStt.codes (Tx (formL k))) t ds) (h0 : 0 ≤ k) (h1 : k < 2) (hi : i < 8) : i < (ds.length : Int) := by
  have e := rn_count h h0 (by omega)
  rw [if_pos (by omega)] at e
  omega
theorem figs7 {k i : Int} {t : PySem.Str} {ds : List Int} (h : Rn (KStt.codes (Tx (formL k))) t ds) (h0 : 0 ≤ k) (h1 : k < 6) (h2 : ¬ k < 2) (hm : k.fmod 2 = 1) (hi : i < 7) : i < (ds.length : Int) := by
  have e := rn_count h h0 (by omega)
  rw [Int.fmod_eq_emod_of_nonneg _ (by decide)] at hm
  rw [if_neg (by omega), if_pos (by omega)] at e
  omega
theorem eight {ds : List Int} (h : ds.length = 8) : ∃ a b c d e f g i, ds = [a, b, c, d, e, f, g, i] := by
  match ds, h with
  | [a, b, c, d, e, f, g, i], _ => exact ⟨a, b, c, d, e, f, g, i, rfl⟩
theorem seven {ds : List Int} (h : ds.length = 7) : ∃ a b c d e f g, ds = [a, b, c, d, e, f, g] := by
  match ds, h with
  | [a, b, c, d, e, f, g], _ => exact ⟨a, b, c, d, e, f, g, rfl⟩
theorem six {ds : List Int} (h : ds.length = 6) : ∃ a b c d e f, ds = [a, b, c, d, e, f] := by
  match ds, h with
  | [a, b, c, d, e, f], _ => exact ⟨a, b, c, d, e, f, rfl⟩
theorem date_of {k : Int} {t : PySem.Str} {ds : List Int} (h : Rn (KStt.codes (Tx (formL k))) t ds) (h0 : 0 ≤ k) (h1 : k < 2) : DateText t (1000 * fg ds 0 + 100 * fg ds 1 + 10 * fg ds 2 + fg ds 3) (10 * fg ds 4 + fg ds 5) (10 * fg ds 6 + fg ds 7) := by
  have e := rn_count h h0 (by omega)
  rw [if_pos (by omega)] at e
  obtain ⟨a, b, c, d, f, g, i, j, rfl⟩ := eight e
  obtain ⟨ht, _, hg⟩ := h
  simp only [List.forall_mem_cons] at hg
  obtain ⟨g1, g2, g3, g4, g5, g6, g7, g8, _⟩ := hg
  refine ⟨a, b, c, d, f, g, i, j, g1, g2, g3, g4, g5, g6, g7, g8, rfl, rfl, rfl, ?_⟩
  rw [ht, codes_form]
  rcases (show k = 0 ∨ k = 1 by omega) with q | q <;> subst q
  · exact Or.inl rfl
  · exact Or.inr rfl
theorem week1_of {k : Int} {t : PySem.Str} {ds : List Int} (h : Rn (KStt.codes (Tx (formL k))) t ds) (h0 : ¬ k < 2) (h1 : k < 6) (hm : ¬ k.fmod 2 = 1) : WeekText t (1000 * fg ds 0 + 100 * fg ds 1 + 10 * fg ds 2 + fg ds 3) (10 * fg ds 4 + fg ds 5) 1 := by
  have e := rn_count h (by omega) (by omega)
  rw [Int.fmod_eq_emod_of_nonneg _ (by decide)] at hm
  rw [if_neg (by omega), if_neg (by omega)] at e
  obtain ⟨a, b, c, d, f, g, rfl⟩ := six e
  obtain ⟨ht, _, hg⟩ := h
  simp only [List.forall_mem_cons] at hg
  obtain ⟨g1, g2, g3, g4, g5, g6, _⟩ := hg
  refine ⟨a, b, c, d, f, g, g1, g2, g3, g4, g5, g6, by unfold Dg; omega, rfl, rfl, ?_⟩
  rw [ht, codes_form]
  rcases (show k = 2 ∨ k = 4 by omega) with q | q <;> subst q
  · exact Or.inl ⟨rfl, rfl⟩
  · exact Or.inr (Or.inr (Or.inl ⟨rfl, rfl⟩))
theorem week7_of {k : Int} {t : PySem.Str} {ds : List Int} (h : Rn (KStt.codes (Tx (formL k))) t ds) (h0 : ¬ k < 2) (h1 : k < 6) (hm : k.fmod 2 = 1) : WeekText t (1000 * fg ds 0 + 100 * fg ds 1 + 10 * fg ds 2 + fg ds 3) (10 * fg ds 4 + fg ds 5) (fg ds 6) := by
  have e := rn_count h (by omega) (by omega)
  rw [Int.fmod_eq_emod_of_nonneg _ (by decide)] at hm
  rw [if_neg (by omega), if_pos (by omega)] at e
  obtain ⟨a, b, c, d, f, g, i, rfl⟩ := seven e
  obtain ⟨ht, _, hg⟩ := h
  simp only [List.forall_mem_cons] at hg
  obtain ⟨g1, g2, g3, g4, g5, g6, g7, _⟩ := hg
  refine ⟨a, b, c, d, f, g, g1, g2, g3, g4, g5, g6, g7, rfl, rfl, ?_⟩
  rw [ht, codes_form]
  rcases (show k = 3 ∨ k = 5 by omega) with q | q <;> subst q
  · exact Or.inr (Or.inl rfl)
  · exact Or.inr (Or.inr (Or.inr rfl))
theorem mix_of {k : Int} {t : PySem.Str} {ds : List Int} (h : Rn (KStt.codes (Tx (formL k))) t ds) (h0 : ¬ k < 6) (h1 : k < 10) : MixText t := by
  have e := rn_count h (by omega) h1
  have z : Dg 0 := by unfold Dg; omega
  rcases (show k = 6 ∨ k = 7 ∨ k = 8 ∨ k = 9 by omega) with q | q | q | q <;> subst q
  · obtain ⟨a, b, c, d, f, g, i, j, rfl⟩ := eight e
    obtain ⟨ht, _, hg⟩ := h
    simp only [List.forall_mem_cons] at hg
    obtain ⟨g1, g2, g3, g4, g5, g6, g7, g8, _⟩ := hg
    exact ⟨a, b, c, d, f, g, i, j, g1, g2, g3, g4, g5, g6, g7, g8, Or.inl ht⟩
  · obtain ⟨a, b, c, d, f, g, i, rfl⟩ := seven e
    obtain ⟨ht, _, hg⟩ := h
    simp only [List.forall_mem_cons] at hg
    obtain ⟨g1, g2, g3, g4, g5, g6, g7, _⟩ := hg
    exact ⟨a, b, c, d, f, g, i, 0, g1, g2, g3, g4, g5, g6, g7, z, Or.inr (Or.inl ht)⟩
  · obtain ⟨a, b, c, d, f, g, i, rfl⟩ := seven e
    obtain ⟨ht, _, hg⟩ := h
    simp only [List.forall_mem_cons] at hg
    obtain ⟨g1, g2, g3, g4, g5, g6, g7, _⟩ := hg
    exact ⟨a, b, c, d, f, g, i, 0, g1, g2, g3, g4, g5, g6, g7, z, Or.inr (Or.inr (Or.inl ht))⟩
  · obtain ⟨a, b, c, d, f, g, rfl⟩ := six e
    obtain ⟨ht, _, hg⟩ := h
    simp only [List.forall_mem_cons] at hg
    obtain ⟨g1, g2, g3, g4, g5, g6, _⟩ := hg
    exact ⟨a, b, c, d, f, g, 0, 0, g1, g2, g3, g4, g5, g6, z, z, Or.inr (Or.inr (Or.inr ht))⟩
theorem week_year {x : PySem.Str} {y k d : Int} (h : WeekText x y k d) : 0 ≤ y := by
  obtain ⟨a, b, c, e, f, g, ha, hb, hc, he, hf, hg, hd, hy, hk, _⟩ := h
  exact (week_rng ha hb hc he hf hg hd hy hk).1
end
section
theorem same_num {X Y N : Int} (a : X = N) (b : Y = N) : X = Y := a.trans b.symm
section
variable {prog : Program} {w : World} {A : Around} {E : Value → Shared → Prop} {s : Shared} {h₀ : Heap} {L l k : Addr} {m : Str → Option Value} {news : List (Addr × Obj)}
/-- two lists of three ints, the same -/
theorem ne_lists {a b c x y z : Int} {t1 t2 t3 u1 u2 u3 : Tok} {n n' : Nat} {Q : Value → Shared → Prop} (N : News h₀ L s.heap news) (hl : (l, W.listOf #[.int a t1, .int b t2, .int c t3] n) ∈ news) (hk : (k, W.listOf #[.int x u1, .int y u2, .int z u3] n') ∈ news) (hu : A.units + 64 < cLine) (e : a = x ∧ b = y ∧ c = z) (h : Q (.bool false) s) :
    wpAny (model prog w) A (compareOp .NotEq (.ref l) (.ref k)) Q E s := by
  obtain ⟨rfl, rfl, rfl⟩ := e
  refine ne_dataH (reads_list_at (N _ hl).1 rfl rfl (ReadsAll.cons (Reads.int _ _) (ReadsAll.cons (Reads.int _ _) (ReadsAll.cons (Reads.int _ _) ReadsAll.nil)))) (reads_list_at (N _ hk).1 rfl rfl (ReadsAll.cons (Reads.int _ _) (ReadsAll.cons (Reads.int _ _) (ReadsAll.cons (Reads.int _ _) ReadsAll.nil)))) rfl rfl hu ?_
  have : PyData.eqv (.list [.int a, .int b, .int c]) (.list [.int a, .int b, .int c]) = true := by simp [PyData.eqv, PyData.eqvAll]
  rw [this]
  exact h
/-- k not in (7, 8, 10): both ways -/
theorem truthy_710 {n : Int} {Q : Bool → Shared → Prop} (h1 : n ≠ 7 → n ≠ 8 → n ≠ 10 → wpAny (model prog w) A (truthy (.bool true)) Q E s) (h2 : wpAny (model prog w) A (truthy (.bool false)) Q E s) :
    wpAny (model prog w) A (truthy (.bool (!([7, 8, 10] : List Int).any fun x => x == n))) Q E s := by
  by_cases c : n = 7 ∨ n = 8 ∨ n = 10
  · rw [show (!([7, 8, 10] : List Int).any fun x => x == n) = false by rcases c with c | c | c <;> subst c <;> decide]
    exact h2
  · rw [show (!([7, 8, 10] : List Int).any fun x => x == n) = true by simp; omega]
    exact h1 (by omega) (by omega) (by omega)
/-- the beginning of a text -/
theorem head_len {x : PySem.Str} {k : Int} (h0 : 0 ≤ k) (h1 : k ≤ (x.length : Int)) : (Txt.slice x none (some k)).length = k.toNat := by
  have h := slice_closes_to (x := x) (j := k) ⟨h0, by rw [Array.length_toList]; exact h1⟩
  rw [beq_iff_eq] at h
  rw [h]
  have e : x.cps.toList.length = x.length := Array.length_toList
  simp [PySem.Str.length]
  have : x.cps.size = x.length := rfl
  omega
end
section
variable {prog : Program} {w : World} {A : Around} {E : Value → Shared → Prop} {s : Shared} {value slice : PySem.Expr} {h₀ : Heap} {L : Addr} {m : Str → Option Value} {news : List (Addr × Obj)}
end
theorem ints_size10 {ws : List Value} {ns : List Int} (h : IntsAre ws ns) (e : ns.length ≤ 10) : ws.toArray.size ≤ sizeLine := ints_size h (by omega)
theorem append_ints {prog : Program} {w : World} {A : Around} {E : Value → Shared → Prop} {s : Shared} {h₀ : Heap} {L D : Addr} {m : Str → Option Value} {news news' : List (Addr × Obj)} {vs : List Value} {ns : List Int} {n : Nat} {x : Value} {Q : Value → Shared → Prop} (F : Fr h₀ L s.heap m) (N : News h₀ L s.heap news) (U : Upd D (W.listOf vs.toArray n) (W.listOf (vs.toArray.push x) (n + 1)) news news')
    (hI : IntsAre vs ns) (hn : ns.length ≤ 10) (h : ∀ h', Fr h₀ L h' m → News h₀ L h' news' → Q .none { s with heap := h' }) : wpAny (model prog w) A (call (.builtin "list.append") [.ref D, x]) Q E s :=
  append_K F N U h (ints_size10 hI hn)
section
variable {prog : Program} {w : World} {A : Around} {E : Value → Shared → Prop} {s : Shared} {env : Env} {h₀ : Heap} {x : Str} {body : List Stmt} {Q : Flow → Shared → Prop}
/-- a turn that changes nothing has ended -/
def QuietEnd (h₀ : Heap) (L : Addr) (m₀ : Str → Option Value) (x : Str) (own : List (Addr × Obj)) (s : Shared) (f : Flow) (s₂ : Shared) : Prop :=
  f = .next ∧ ∃ h' tk v, s₂ = { s with heap := h', toks := tk } ∧ Fr h₀ L h' (fun y => if y = x then some v else m₀ y) ∧ News h₀ L h' own
theorem QuietEnd.intro {L : Addr} {m₀ : Str → Option Value} {own : List (Addr × Obj)} {h' : Heap} {tk : Nat} {v : Value} (F : Fr h₀ L h' (fun y => if y = x then some v else m₀ y)) (N : News h₀ L h' own) : QuietEnd h₀ L m₀ x own s .next { s with heap := h', toks := tk } := ⟨rfl, h', tk, v, rfl, F, N⟩
/-- a loop over a range whose turns store nothing and make nothing that stays; what was made before is forgotten -/
theorem range_quiet {r : Addr} {a₀ b₀ : Int} {t₀ u₀ v₀ : Tok} {n : Nat} {m₀ : Str → Option Value} {news : List (Addr × Obj)}
    (hh : A.handled = none) (hr : IsRange s.heap r a₀ b₀ 1 t₀ u₀ v₀) (hsmall : Builtin.Range.small a₀ b₀ 1 = true) (hn : Builtin.Range.rangeSize a₀ b₀ 1 = (n : Int)) (F : Fr h₀ env.locals s.heap m₀) (_N : News h₀ env.locals s.heap news)
    (turn : ∀ (k : Int) t h tk own, a₀ ≤ k → k < a₀ + (n : Int) → Fr h₀ env.locals h (fun y => if y = x then some (.int k t) else m₀ y) → News h₀ env.locals h own →
      wpAny (model prog w) A (execs body env) (fun f s₂ => QuietEnd h₀ env.locals m₀ x own { s with heap := h, toks := tk } f s₂) E { s with heap := h, toks := tk })
    (done : ∀ (u : Str → Option Value) h tk, Fr h₀ env.locals h (fun y => if y = x then u y else m₀ y) → News h₀ env.locals h [] → Q .next { s with heap := h, toks := tk }) :
    wpAny (model prog w) A (pyIter (.ref r)) (fun it s₂ => LoopAtV prog w A h₀ env x body Q E it s₂) E s := by
  refine kst_range (σ := Unit) (fun _ => []) (fun _ => []) (fun _ => True) [] (fun _ _ => True) () hh hr hsmall hn F (fun p hp => nomatch hp) trivial (fun p hp => nomatch hp) trivial ?_ ?_
  · intro c pre k t u h tk own hk hl hoff _ _ F' N'
    refine wpAny_mono (turn k t h tk own (by omega) (by omega) F' N') (fun f s₂ hq => ?_) fun _ _ e => e
    obtain ⟨rfl, h', tk', v, rfl, F₂, N₂⟩ := hq
    refine InvEndN.intro (nx := []) F₂ N₂ ⟨(), rfl, trivial, (fun p hp => nomatch hp), fun z hz _ _ => if_neg hz, trivial⟩ rfl (fun p hp => nomatch hp) fun p hp => hp
  · intro c u h tk _ _ F' N'
    exact done u h tk F' N'
end
theorem small_ab {a b : Int} (h1 : 0 ≤ a) (h2 : a ≤ b) (h3 : b ≤ 9999) : Builtin.Range.small a b 1 = true := by
  unfold Builtin.Range.small
  simp only [rangeSize_nat, Builtin.Range.rangeFitsLong, Bool.and_eq_true, decide_eq_true_eq, (show (2 : Int) ^ 63 = 9223372036854775808 from rfl)]
  refine ⟨by omega, ?_⟩
  rw [Bool.or_eq_true]
  right
  rw [if_pos (by decide), Bool.and_eq_true, decide_eq_true_eq, decide_eq_true_eq]
  omega
theorem twice_range {n : Nat} (h : n ≤ 10) : Builtin.Range.small 0 (2 * (n : Int) + 1) 1 = true ∧ Builtin.Range.rangeSize 0 (2 * (n : Int) + 1) 1 = ((2 * n + 1 : Nat) : Int) :=
  ⟨small_ab (by omega) (by omega) (by omega), by rw [rangeSize_nat]; omega⟩
theorem head_facts {t : PySem.Str} {k : Int} (hl : t.length ≤ 10) (h0 : 0 ≤ k) (h1 : k < 0 + ((2 * t.length + 1 : Nat) : Int)) (k7 : k ≠ 7) (k8 : k ≠ 8) (k10 : k ≠ 10) :
    (Txt.slice (t ++ t) none (some k)).length ≠ 7 ∧ (Txt.slice (t ++ t) none (some k)).length ≠ 8 ∧ (Txt.slice (t ++ t) none (some k)).length ≠ 10 ∧ (Txt.slice (t ++ t) none (some k)).length ≤ 20 := by
  have e := head_len (x := t ++ t) (k := k) h0 (by rw [PySem.Str.length_append]; omega)
  omega
theorem notin_710 {prog : Program} {w : World} {A : Around} {E : Value → Shared → Prop} {s : Shared} {h₀ : Heap} {L D : Addr} {news : List (Addr × Obj)} {k : Int} {t a b c : Tok} {n : Nat} {Q : Value → Shared → Prop} (N : News h₀ L s.heap news) (hm : (D, ({ cls := .type "tuple", data := .seq #[.int 7 a, .int 8 b, .int 10 c] n } : Obj)) ∈ news) (h : Q (.bool (!([7, 8, 10] : List Int).any fun x => x == k)) s) :
    wpAny (model prog w) A (compareOp .NotIn (.int k t) (.ref D)) Q E s :=
  notin_tuple_ints (items := #[.int 7 a, .int 8 b, .int 10 c]) (News.isTup N hm) (.cons 7 a (.cons 8 b (.cons 10 c .nil))) h
end
section
theorem execs_two (a b : Stmt) (rest : List Stmt) (env : Env) : execs (a :: b :: rest) env = (execs [a, b] env).bind (fun f => match f with | .next => execs rest env | f => Sem.pure f) := by
  simp only [execs_cons, execs_nil, Sem.bind_eq, Sem.pure_eq, Sem.bind_assoc]
  congr 1
  funext f
  cases f <;> simp only [Sem.bind, Sem.bind_assoc]
  congr 1
  funext g
  cases g <;> simp only [Sem.bind]
/-- a text stands in the frame; the rest is forgotten -/
def CutF (h₀ : Heap) (L : Addr) (x : Str) (tx : Tok) (s s' : Shared) : Prop :=
  ∃ (m : Str → Option Value) (news : List (Addr × Obj)) (h' : Heap) (tk : Nat), s' = { s with heap := h', toks := tk } ∧ Fr h₀ L h' m ∧ News h₀ L h' news ∧ m (Str.ofString "text") = some (.str x tx)
theorem CutF.intro {h₀ : Heap} {L : Addr} {m : Str → Option Value} {news : List (Addr × Obj)} {s : Shared} {x : Str} {tx : Tok} {tk : Nat} {h' : Heap} (F : Fr h₀ L h' m) (N : News h₀ L h' news) (e : m (Str.ofString "text") = some (.str x tx)) : CutF h₀ L x tx s { s with heap := h', toks := tk } := ⟨m, news, h', tk, rfl, F, N, e⟩
/-- two statements whose ways meet behind them -/
theorem cut_two {M : Model} {A : Around} {E : Value → Shared → Prop} {Q : Flow → Shared → Prop} {s : Shared} {h₀ : Heap} {L : Addr} {m : Str → Option Value} {x : Str} {tx : Tok} {a b : Stmt} {rest : List Stmt} {env : Env} (_F : Fr h₀ L s.heap m) (_e : m (Str.ofString "text") = some (.str x tx))
    (K : wpAny M A (execs [a, b] env) (fun f s' => match f with | .next => CutF h₀ L x tx s s' | f => Q f s') E s)
    (H : ∀ (m' : Str → Option Value) (news' : List (Addr × Obj)) (h' : Heap) (tk' : Nat), Fr h₀ L h' (fun y => if y = Str.ofString "text" then some (.str x tx) else m' y) → News h₀ L h' news' → wpAny M A (execs rest env) Q E { s with heap := h', toks := tk' }) :
    wpAny M A (execs (a :: b :: rest) env) Q E s := by
  rw [execs_two]
  refine wpAny_bind (wpAny_mono K (fun f s' hq => ?_) fun _ _ h => h)
  cases f
  · obtain ⟨m', news', h', tk', rfl, F, N, e⟩ := hq
    have em : m' = fun y => if y = Str.ofString "text" then some (.str x tx) else m' y := by
      funext y
      by_cases c : y = Str.ofString "text"
      · rw [if_pos c, c, e]
      · rw [if_neg c]
    rw [em] at F
    exact H m' news' h' tk' F N
  all_goals exact wpAny_pure hq
end
section
theorem execs_one (a : Stmt) (rest : List Stmt) (env : Env) : execs (a :: rest) env = (execs [a] env).bind (fun f => match f with | .next => execs rest env | f => Sem.pure f) := by
  simp only [execs_cons, execs_nil, Sem.bind_eq, Sem.pure_eq, Sem.bind_assoc]
  congr 1
  funext f
  cases f <;> simp only [Sem.bind]
/-- three names' values stand in the frame, the rest of it is forgotten; P holds -/
def CutV (h₀ : Heap) (L : Addr) (news : List (Addr × Obj)) (x₁ x₂ x₃ : Str) (v₁ v₂ v₃ : Value) (P : Prop) (s s' : Shared) : Prop :=
  ∃ (m : Str → Option Value) (h' : Heap) (tk : Nat), s' = { s with heap := h', toks := tk } ∧ Fr h₀ L h' m ∧ News h₀ L h' news ∧ (m x₁ = some v₁ ∧ m x₂ = some v₂ ∧ m x₃ = some v₃) ∧ P
theorem CutV.intro {h₀ : Heap} {L : Addr} {m : Str → Option Value} {news : List (Addr × Obj)} {s : Shared} {x₁ x₂ x₃ : Str} {v₁ v₂ v₃ : Value} {P : Prop} {tk : Nat} {h' : Heap} (F : Fr h₀ L h' m) (N : News h₀ L h' news) (e₁ : m x₁ = some v₁) (e₂ : m x₂ = some v₂) (e₃ : m x₃ = some v₃) (p : P) : CutV h₀ L news x₁ x₂ x₃ v₁ v₂ v₃ P s { s with heap := h', toks := tk } := ⟨m, h', tk, rfl, F, N, ⟨e₁, e₂, e₃⟩, p⟩
/-- a statement whose ways meet behind it -/
theorem cut_one {M : Model} {A : Around} {E : Value → Shared → Prop} {Q : Flow → Shared → Prop} {s : Shared} {h₀ : Heap} {L : Addr} {m : Str → Option Value} {news : List (Addr × Obj)} {x₁ x₂ x₃ : Str} {v₁ v₂ v₃ : Value} (P : Prop) {a : Stmt} {rest : List Stmt} {env : Env} (_F : Fr h₀ L s.heap m) (_N : News h₀ L s.heap news) (_e₁ : m x₁ = some v₁) (_e₂ : m x₂ = some v₂) (_e₃ : m x₃ = some v₃)
    (K : wpAny M A (execs [a] env) (fun f s' => match f with | .next => CutV h₀ L news x₁ x₂ x₃ v₁ v₂ v₃ P s s' | f => Q f s') E s)
    (H : P → ∀ (m' : Str → Option Value) (h' : Heap) (tk' : Nat), Fr h₀ L h' (fun y => if y = x₁ then some v₁ else if y = x₂ then some v₂ else if y = x₃ then some v₃ else m' y) → News h₀ L h' news → wpAny M A (execs rest env) Q E { s with heap := h', toks := tk' }) :
    wpAny M A (execs (a :: rest) env) Q E s := by
  rw [execs_one]
  refine wpAny_bind (wpAny_mono K (fun f s' hq => ?_) fun _ _ h => h)
  cases f
  · obtain ⟨m', h', tk', rfl, F, N, ⟨e₁, e₂, e₃⟩, p⟩ := hq
    have em : m' = fun y => if y = x₁ then some v₁ else if y = x₂ then some v₂ else if y = x₃ then some v₃ else m' y := by
      funext y
      by_cases c₁ : y = x₁
      · rw [if_pos c₁, c₁, e₁]
      · rw [if_neg c₁]
        by_cases c₂ : y = x₂
        · rw [if_pos c₂, c₂, e₂]
        · rw [if_neg c₂]
          by_cases c₃ : y = x₃
          · rw [if_pos c₃, c₃, e₃]
          · rw [if_neg c₃]
    rw [em] at F
    exact H p m' h' tk' F N
  all_goals exact wpAny_pure hq
/-- _isoweek_to_gregorian's look at the week -/
theorem cut_week {M : Model} {A : Around} {E : Value → Shared → Prop} {Q : Flow → Shared → Prop} {s : Shared} {h₀ : Heap} {L : Addr} {m : Str → Option Value} {news : List (Addr × Obj)} {y k d : Int} {t₁ t₂ t₃ : Tok} {a : Stmt} {rest : List Stmt} {env : Env} (F : Fr h₀ L s.heap m) (N : News h₀ L s.heap news) (e₁ : m (Str.ofString "year") = some (.int y t₁)) (e₂ : m (Str.ofString "week") = some (.int k t₂)) (e₃ : m (Str.ofString "day") = some (.int d t₃))
    (K : wpAny M A (execs [a] env) (fun f s' => match f with | .next => CutV h₀ L news (Str.ofString "year") (Str.ofString "week") (Str.ofString "day") (.int y t₁) (.int k t₂) (.int d t₃) (1 ≤ k ∧ k ≤ weeks y) s s' | f => Q f s') E s)
    (H : 1 ≤ k ∧ k ≤ weeks y → ∀ (m' : Str → Option Value) (h' : Heap) (tk' : Nat), Fr h₀ L h' (fun z => if z = Str.ofString "year" then some (.int y t₁) else if z = Str.ofString "week" then some (.int k t₂) else if z = Str.ofString "day" then some (.int d t₃) else m' z) → News h₀ L h' news → wpAny M A (execs rest env) Q E { s with heap := h', toks := tk' }) :
    wpAny M A (execs (a :: rest) env) Q E s := cut_one _ F N e₁ e₂ e₃ K H
section
variable {y k d : Int}
theorem wk_ok1 (h1 : 0 < k) (h2 : k < 53) : 1 ≤ k ∧ k ≤ weeks y := by
  have c := weeks_cases y
  omega
theorem wk_ok2 (h : k = 53) (h4 : (dby y + dbm y 1 + 1).fmod 7 = 4) : 1 ≤ k ∧ k ≤ weeks y := by
  have c := weeks_53.mpr (Or.inl h4)
  omega
theorem wk_ok3 (h : k = 53) (h4 : (dby y + dbm y 1 + 1).fmod 7 = 3) (l : leap y = true) : 1 ≤ k ∧ k ≤ weeks y := by
  have c := weeks_53.mpr (Or.inr ⟨h4, l⟩)
  omega
theorem no_year (h : ¬ 1 ≤ y) : ¬ WeekOk y k d := fun o => h o.1
theorem no_wk0 (h : ¬ 0 < k) : ¬ WeekOk y k d := fun o => h o.2.1
theorem no_wk54 (h : ¬ k < 53) (h' : ¬ k = 53) : ¬ WeekOk y k d := fun o => by
  have := weeks_cases y
  have := o.2.2.1
  omega
theorem no_wk53a (h : k = 53) (h4 : (dby y + dbm y 1 + 1).fmod 7 ≠ 4) (h3 : (dby y + dbm y 1 + 1).fmod 7 ≠ 3) : ¬ WeekOk y k d := fun o => by
  have b := o.2.2.1
  have a := weeks_cases y
  rcases weeks_53.mp (show weeks y = 53 by omega) with e | e
  · exact h4 e
  · exact h3 e.1
theorem no_wk53b (h : k = 53) (h4 : (dby y + dbm y 1 + 1).fmod 7 ≠ 4) (l : leap y = false) : ¬ WeekOk y k d := fun o => by
  have b := o.2.2.1
  have a := weeks_cases y
  rcases weeks_53.mp (show weeks y = 53 by omega) with e | e
  · exact h4 e
  · rw [l] at e
    exact absurd e.2 (by decide)
theorem wk_is (h1 : 1 ≤ y) (h2 : 1 ≤ k) (h3 : k ≤ weeks y) (h4 : 0 < d) (h5 : d < 8) : WeekOk y k d := ⟨h1, h2, h3, h4, Int.le_of_lt_add_one h5⟩
theorem no_day0 (h : ¬ 0 < d) : ¬ WeekOk y k d := fun o => h o.2.2.2.1
theorem no_day8 (h : ¬ d < 8) : ¬ WeekOk y k d := fun o => by have := o.2.2.2.2; omega
end
end
section
/-- what _parse_isoformat_date reads at its text's head: the year, a hyphen or none (b), and where it stands then (p) -/
structure HeadF (x : Str) (y : Int) (b : Bool) (p : Int) : Prop where
  l20 : x.length ≤ 20
  len : (!([7, 8, 10] : List Int).any fun k => k == (x.length : Int)) = false
  yr : PySem.intText? (Txt.slice x (some 0) (some 4)) = some y
  at4 : 4 < (x.length : Int)
  sep : (Txt.item x 4 == Str.ofString "-") = b
  pos : p = 4 + if b = true then 1 else 0
/-- a month's text -/
structure MonthF (x : Str) (mo : Int) (p : Int) (c : Bool) : Prop where
  w : (Txt.slice x (some p) (some (p + 1)) == Str.ofString "W") = false
  mo : PySem.intText? (Txt.slice x (some p) (some (p + 2))) = some mo
  c : (Txt.slice x (some (p + 2)) (some (p + 2 + 1)) == Str.ofString "-") = c
/-- a week's -/
structure WkF (x : Str) (k : Int) (p : Int) : Prop where
  w : (Txt.slice x (some p) (some (p + 1)) == Str.ofString "W") = true
  k : PySem.intText? (Txt.slice x (some (p + 1)) (some (p + 1 + 2))) = some k
def DateF (x : Str) (y mo d : Int) : Prop :=
  ∃ (b : Bool) (p : Int) (c : Bool) (r : Int), HeadF x y b p ∧ MonthF x mo p c ∧ (c != b) = false ∧ r = p + 2 + (if b = true then 1 else 0) ∧ PySem.intText? (Txt.slice x (some r) (some (r + 2))) = some d
def WeekF1 (x : Str) (y k d : Int) : Prop :=
  ∃ (b : Bool) (p : Int), HeadF x y b p ∧ WkF x k p ∧ ¬ p + 1 + 2 < (x.length : Int) ∧ d = 1
def WeekF2 (x : Str) (y k d : Int) : Prop :=
  ∃ (b : Bool) (p : Int) (c : Bool) (r : Int), HeadF x y b p ∧ WkF x k p ∧ p + 1 + 2 < (x.length : Int) ∧ (Txt.slice x (some (p + 1 + 2)) (some (p + 1 + 2 + 1)) == Str.ofString "-") = c ∧ (c != b) = false ∧ r = p + 1 + 2 + (if b = true then 1 else 0) ∧ PySem.intText? (Txt.slice x (some r) (some (r + 1))) = some d
def MixF1 (x : Str) : Prop :=
  ∃ (y mo : Int) (b : Bool) (p : Int) (c : Bool), HeadF x y b p ∧ MonthF x mo p c ∧ (c != b) = true
def MixF2 (x : Str) : Prop :=
  ∃ (y k : Int) (b : Bool) (p : Int) (c : Bool), HeadF x y b p ∧ WkF x k p ∧ p + 1 + 2 < (x.length : Int) ∧ (Txt.slice x (some (p + 1 + 2)) (some (p + 1 + 2 + 1)) == Str.ofString "-") = c ∧ (c != b) = true
section
variable {cs : List Nat} {i j : Int}
theorem cut_eq {c : Nat} {s : Str} {b : Bool} (p : Nat) (hi : i = (p : Int)) (hj : j = ((p + 1 : Nat) : Int)) (hl : p + 1 ≤ cs.length) (e : (cs.drop p).take 1 = [c]) (h : (Tx [c] == s) = b) : (Txt.slice (Tx cs) (some i) (some j) == s) = b := by
  rw [tx_cut hi hj hl e]; exact h
theorem cut_int1 {a X : Int} (p : Nat) (hi : i = (p : Int)) (hj : j = ((p + 1 : Nat) : Int)) (hl : p + 1 ≤ cs.length) (e : (cs.drop p).take 1 = [48 + a.toNat]) (ha : Dg a) (h : a = X) : PySem.intText? (Txt.slice (Tx cs) (some i) (some j)) = some X := by
  rw [tx_cut hi hj hl e]; exact int1 ha h
theorem cut_int2 {a b X : Int} (p : Nat) (hi : i = (p : Int)) (hj : j = ((p + 2 : Nat) : Int)) (hl : p + 2 ≤ cs.length) (e : (cs.drop p).take 2 = [48 + a.toNat, 48 + b.toNat]) (ha : Dg a) (hb : Dg b) (h : 10 * a + b = X) : PySem.intText? (Txt.slice (Tx cs) (some i) (some j)) = some X := by
  rw [tx_cut hi hj hl e]; exact int2 ha hb h
/-- the head of a text with a hyphen, and of one without -/
theorem headF {a b c e y : Int} {ds : List Nat} {z : Nat} {s : Bool} (ha : Dg a) (hb : Dg b) (hc : Dg c) (he : Dg e) (hy : 1000 * a + 100 * b + 10 * c + e = y) (hl : ds.length = 2 ∨ ds.length = 3 ∨ ds.length = 5) (hz : (Tx [z] == Str.ofString "-") = s) : HeadF (Tx ((48 + a.toNat) :: (48 + b.toNat) :: (48 + c.toNat) :: (48 + e.toNat) :: z :: ds)) y s (4 + if s = true then 1 else 0) := by
  have l : (Tx ((48 + a.toNat) :: (48 + b.toNat) :: (48 + c.toNat) :: (48 + e.toNat) :: z :: ds)).length = ds.length + 5 := by rw [tx_length]; simp
  refine ⟨by omega, ?_, ?_, by omega, ?_, rfl⟩
  · rw [l]
    rcases hl with h | h | h <;> rw [h] <;> decide
  · rw [tx_cut (cs := (48 + a.toNat) :: (48 + b.toNat) :: (48 + c.toNat) :: (48 + e.toNat) :: z :: ds) (i := 0) (j := 4) (p := 0) (n := 4) rfl rfl (by simp) rfl]
    exact int4 ha hb hc he hy
  · rw [tx_at (c := z) (by decide) rfl]
    exact hz
end
theorem dateF {x : Str} {y m d : Int} (h : DateText x y m d) : DateF x y m d := by
  obtain ⟨a, b, c, e, f, g, h, i, ha, hb, hc, he, hf, hg, hh, hi, hy, hm, hd, rfl | rfl⟩ := h
  · exact ⟨true, 5, true, 8, headF ha hb hc he hy (by simp) minus_yes, ⟨cut_eq 5 rfl rfl (by simp) rfl (w_dg hf), cut_int2 5 rfl rfl (by simp) rfl hf hg hm, cut_eq 7 rfl rfl (by simp) rfl minus_yes⟩, rfl, rfl, cut_int2 8 rfl rfl (by simp) rfl hh hi hd⟩
  · exact ⟨false, 4, false, 6, headF ha hb hc he hy (by simp) minus_dg, ⟨cut_eq 4 rfl rfl (by simp) rfl (w_dg hf), cut_int2 4 rfl rfl (by simp) rfl hf hg hm, cut_eq 6 rfl rfl (by simp) rfl minus_dg⟩, rfl, rfl, cut_int2 6 rfl rfl (by simp) rfl hh hi hd⟩
theorem len_tx {cs : List Nat} {n : Nat} (h : cs.length = n) : ((Tx cs).length : Int) = (n : Int) := by rw [tx_length, h]
theorem weekF {x : Str} {y k d : Int} (h : WeekText x y k d) : (WeekF1 x y k d ∨ WeekF2 x y k d) ∧ (0 ≤ y ∧ y ≤ 9999 ∧ 0 ≤ k ∧ k ≤ 99 ∧ 0 ≤ d ∧ d ≤ 9) := by
  obtain ⟨a, b, c, e, f, g, ha, hb, hc, he, hf, hg, hd, hy, hk, hx⟩ := h
  refine ⟨?_, week_rng ha hb hc he hf hg hd hy hk⟩
  rcases hx with ⟨hd', rfl⟩ | rfl | ⟨hd', rfl⟩ | rfl
  · exact Or.inl ⟨true, 5, headF ha hb hc he hy (by simp) minus_yes, ⟨cut_eq 5 rfl rfl (by simp) rfl w_yes, cut_int2 6 rfl rfl (by simp) rfl hf hg hk⟩, by rw [len_tx (n := 8) rfl]; decide, hd'⟩
  · exact Or.inr ⟨true, 5, true, 9, headF ha hb hc he hy (by simp) minus_yes, ⟨cut_eq 5 rfl rfl (by simp) rfl w_yes, cut_int2 6 rfl rfl (by simp) rfl hf hg hk⟩, by rw [len_tx (n := 10) rfl]; decide, cut_eq 8 rfl rfl (by simp) rfl minus_yes, rfl, rfl, cut_int1 9 rfl rfl (by simp) rfl hd rfl⟩
  · exact Or.inl ⟨false, 4, headF ha hb hc he hy (by simp) minus_W, ⟨cut_eq 4 rfl rfl (by simp) rfl w_yes, cut_int2 5 rfl rfl (by simp) rfl hf hg hk⟩, by rw [len_tx (n := 7) rfl]; decide, hd'⟩
  · exact Or.inr ⟨false, 4, false, 7, headF ha hb hc he hy (by simp) minus_W, ⟨cut_eq 4 rfl rfl (by simp) rfl w_yes, cut_int2 5 rfl rfl (by simp) rfl hf hg hk⟩, by rw [len_tx (n := 8) rfl]; decide, cut_eq 7 rfl rfl (by simp) rfl minus_dg, rfl, rfl, cut_int1 7 rfl rfl (by simp) rfl hd rfl⟩
theorem mixF {x : Str} (h : MixText x) : MixF1 x ∨ MixF2 x := by
  obtain ⟨a, b, c, e, f, g, h, i, ha, hb, hc, he, hf, hg, hh, hi, hx⟩ := h
  rcases hx with rfl | rfl | rfl | rfl
  · exact Or.inl ⟨_, _, true, 5, false, headF ha hb hc he rfl (by simp) minus_yes, ⟨cut_eq 5 rfl rfl (by simp) rfl (w_dg hf), cut_int2 5 rfl rfl (by simp) rfl hf hg rfl, cut_eq 7 rfl rfl (by simp) rfl minus_T⟩, rfl⟩
  · exact Or.inl ⟨_, _, false, 4, true, headF ha hb hc he rfl (by simp) minus_dg, ⟨cut_eq 4 rfl rfl (by simp) rfl (w_dg hf), cut_int2 4 rfl rfl (by simp) rfl hf hg rfl, cut_eq 6 rfl rfl (by simp) rfl minus_yes⟩, rfl⟩
  · exact Or.inr ⟨_, _, true, 5, false, headF ha hb hc he rfl (by simp) minus_yes, ⟨cut_eq 5 rfl rfl (by simp) rfl w_yes, cut_int2 6 rfl rfl (by simp) rfl hf hg rfl⟩, by rw [len_tx (n := 10) rfl]; decide, cut_eq 8 rfl rfl (by simp) rfl minus_T, rfl⟩
  · exact Or.inr ⟨_, _, false, 4, true, headF ha hb hc he rfl (by simp) minus_W, ⟨cut_eq 4 rfl rfl (by simp) rfl w_yes, cut_int2 5 rfl rfl (by simp) rfl hf hg rfl⟩, by rw [len_tx (n := 8) rfl]; decide, cut_eq 7 rfl rfl (by simp) rfl minus_yes, rfl⟩
/-- a text, the dates that it may tell, and whether it may be refused -/
inductive Reads (x : Str) : (Int → Int → Int → Prop) → Prop → Prop
  | date {y mo d : Int} : DateF x y mo d → Reads x (fun a b c => a = y ∧ b = mo ∧ c = d) False
  | week {y k d : Int} : (WeekF1 x y k d ∨ WeekF2 x y k d) → (0 ≤ y ∧ y ≤ 9999 ∧ 0 ≤ k ∧ k ≤ 99 ∧ 0 ≤ d ∧ d ≤ 9) → Reads x (fun a b c => WeekOk y k d ∧ Valid a b c ∧ ord a b c = num y k d) (¬ WeekOk y k d)
  | mix : (MixF1 x ∨ MixF2 x) → Reads x (fun _ _ _ => False) True
  | len : x.length ≠ 7 → x.length ≠ 8 → x.length ≠ 10 → x.length ≤ 20 → Reads x (fun _ _ _ => False) True
section
variable {prog : Program} {w : World} {A : Around} {E : Value → Shared → Prop} {s : Shared} {value slice : PySem.Expr} {h₀ : Heap} {L : Addr} {m : Str → Option Value} {news : List (Addr × Obj)} {x : Str}
theorem any_slice {t ui uj : Tok} {i j : Int} {Q : Value → Shared → Prop} (hl : x.length ≤ 20) (hF : Fr h₀ L s.heap m) (hN : News h₀ L s.heap news)
    (h : ∀ h' t' k, Fr h₀ L h' m → News h₀ L h' news → Q (.str (Txt.slice x (some i) (some j)) t') { s with heap := h', toks := k })
    (hs : subscripted slice false (.str x t) (.ref s.heap.objs.size) = operate [.ref s.heap.objs.size, .str x t] (getItem (.str x t) (.ref s.heap.objs.size)) := by with_unfolding_all rfl)
    (ht : ∀ r, letTemporaryGo value (.str x t) r = pure () := by intro _; with_unfolding_all rfl) :
    wpAny (model prog w) A (subscriptTail value slice (.str x t) (.ref s.heap.objs.size)) Q E { s with heap := s.heap.push { cls := .type "slice", data := .fields #[.int i ui, .int j uj, .none] } } := by
  have h64 : (20 : Nat) ≤ sizeLine := Nat.le_of_ble_eq_true rfl
  exact slice_strN_ss hF hN h hs ht (by omega)
theorem any_item {t u : Tok} {Q : Value → Shared → Prop} (h4 : 4 < (x.length : Int)) (h : ∀ t', Q (.str (Txt.item x 4) t') { s with toks := s.toks + 1 })
    (hs : subscripted slice false (.str x t) (.int 4 u) = operate [.str x t, .int 4 u] (getItem (.str x t) (.int 4 u)) := by with_unfolding_all rfl)
    (ht : ∀ r, letTemporaryGo value (.str x t) r = pure () := by intro _; with_unfolding_all rfl) :
    wpAny (model prog w) A (subscriptTail value slice (.str x t) (.int 4 u)) Q E s :=
  item_str (by decide) (by omega) h4 (fun _ => h _) hs ht
theorem any_len {t : Tok} {Q : Value → Shared → Prop} (hl : x.length ≤ 20) (h : ∀ t', Q (.int (x.length : Int) t') { s with toks := s.toks + 1 + 1 }) : wpAny (model prog w) A (call (.builtin "len") [.str x t]) Q E s :=
  PySem.P.len_str (by rw [show (2 : Int) ^ 63 = 9223372036854775808 from rfl]; omega) (h _)
theorem any_int {t : Tok} {i j X : Int} {Q : Value → Shared → Prop} (e : PySem.intText? (Txt.slice x (some i) (some j)) = some X) (hl : x.length ≤ 20) (h : ∀ t', Q (.int X t') { s with toks := s.toks + 1 }) : wpAny (model prog w) A (call (.type "int") [.str (Txt.slice x (some i) (some j)) t]) Q E s :=
  KIN.call_text e (by have := PyProof.Txt.length_slice_le x (some i) (some j); omega) (h _)
theorem add_to {a p : Int} {b : Bool} {t : Tok} {Q : Value → Shared → Prop} (e : p = a + if b = true then 1 else 0) (h : ∀ t', Q (.int p t') { s with toks := s.toks + 1 }) : wpAny (model prog w) A (binaryOp .Add (.int a t) (.bool b)) Q E s :=
  add_int_bool (by rw [← e]; exact h _)
theorem iadd_to {a p : Int} {b : Bool} {t : Tok} {Q : Value → Shared → Prop} (e : p = a + if b = true then 1 else 0) (h : ∀ t', Q (.int p t') { s with toks := s.toks + 1 }) : wpAny (model prog w) A (inplaceOp .Add (.int a t) (.bool b)) Q E s :=
  iadd_int_bool (by rw [← e]; exact h _)
theorem ne_to {c d z : Bool} {Q : Value → Shared → Prop} (e : (c != d) = z) (h : Q (.bool z) s) : wpAny (model prog w) A (compareOp .NotEq (.bool c) (.bool d)) Q E s :=
  ne_bool (by rw [e]; exact h)
end
theorem news_2of3 {h₀ h : Heap} {L : Addr} {a b : Addr × Obj} {news : List (Addr × Obj)} (N : News h₀ L h (a :: b :: news)) : News h₀ L h (a :: news) := fun p hp => N p (by
  rcases List.mem_cons.mp hp with rfl | hp
  · simp
  · simp [hp])
theorem news_1of3 {h₀ h : Heap} {L : Addr} {a b c : Addr × Obj} {news : List (Addr × Obj)} (N : News h₀ L h (a :: b :: c :: news)) : News h₀ L h (a :: news) := fun p hp => N p (by
  rcases List.mem_cons.mp hp with rfl | hp
  · simp
  · simp [hp])
theorem raised_drop {base G h : Heap} {l : List Env} {e t : Addr} {cls : Value} {vs : List Value} {p : Addr × Obj} {news : List (Addr × Obj)} (R : RaisedS base G l e cls t vs (p :: news) h) : RaisedS base G l e cls t vs news h := by
  obtain ⟨⟨B, hB, hG, hl, hf⟩, ht⟩ := R
  exact ⟨⟨B, hB, hG, fun q hq => hl q (List.mem_cons_of_mem _ hq), hf⟩, ht⟩
theorem news_last3 {h₀ h : Heap} {L : Addr} {a b c : Addr × Obj} {news : List (Addr × Obj)} (N : News h₀ L h (a :: b :: c :: news)) : News h₀ L h (c :: news) := fun p hp => N p (by
  rcases List.mem_cons.mp hp with rfl | hp
  · simp
  · simp [hp])
end
section
open_top hd11 for PySem.Challenge.rw_dn0120_11
end
section
local macro_rules | `(tactic| walk_at $s:str) => `(tactic| k_extra $s)
theorem c_leap {w : World} {s₀ : Shared} {mg mb : Str → Option Value} {dp un : Nat} {gd : Option (List Code)} {cn : Str} {cs : Scope} {a : Addr} {ccd : Value} {cl : List (Str × Addr)} {outer : List Env} {A₀ : Around} {base h₀ : Heap} {L : Addr} {m : Str → Option Value} {news : List (Addr × Obj)} {s : Shared} {Q E : Value → Shared → Prop} {y : Int} {ty : Tok}
    (kB : Below A₀ base outer h₀) (kF : Fr h₀ L s.heap m) (kK : (hd11.heap_39 w.params).In h₀) (kN : News h₀ L s.heap news) (kT : Top hd11.view_39 (looseW hd11.view_39 [Str.ofString "_DAYS_IN_MONTH", Str.ofString "_DAYS_BEFORE_MONTH", Str.ofString "_DI400Y", Str.ofString "_DI100Y", Str.ofString "_DI4Y"]) (ExcName.means s₀.heap) mg mb h₀) (kk : cs.kind = .function) (kd : dp + 1 < recursionLimit) (ku : un + 8 < cLine) 
    (ret : ∀ (t : Tok) (h' : Heap) (tk' : Nat), Fr h₀ L h' m → News h₀ L h' news → Q (.bool (leap y)) { s with heap := h', toks := tk' }) :
    wpAny (model Challenge.rw_dn0120_11.row.prog w) (ktrTop dp un gd cn cs L a ccd cl outer) (call (.ref 28) [Value.int y ty]) Q E s := by
  w_top off
  k_with_none
  k_with "mine pre" => first | with_reducible assumption | omega | l_fact
  k_with "mine twelve" => (intro k h1 h2; rcases m12 h1 h2 with h | h | h | h | h | h | h | h | h | h | h | h <;> (subst h; exact ⟨_, rfl⟩))
  k_with "mine lt" => first | with_reducible assumption | exact (by with_reducible assumption : _ ∧ AllLt _ _).2 | exact (by with_reducible assumption : _ ∧ _ ∧ AllLt _ _).2.2 | exact (by with_reducible assumption : _ ∧ _ ∧ _ ∧ AllLt _ _).2.2.2 | exact (by with_reducible assumption : _ ∧ _ ∧ _ ∧ _ ∧ AllLt _ _).2.2.2.2
  k_with "eval Call" => (k_here; (with_reducible show wpAny _ _ (eval (PySem.Expr.Call (PySem.Expr.Name (Str.ofString "_is_leap") _) _ [] _) _) _ _ _); k_dflt (refine Call_ ?_))
  k_with "eval Call" => (k_here; (with_reducible show wpAny _ _ (eval (PySem.Expr.Call (PySem.Expr.Name (Str.ofString "_days_before_year") _) _ [] _) _) _ _ _); k_dflt (refine Call_ ?_))
  k_with "eval Call" => (k_here; (with_reducible show wpAny _ _ (eval (PySem.Expr.Call (PySem.Expr.Name (Str.ofString "_days_in_month") _) _ [] _) _) _ _ _); k_dflt (refine Call_ ?_))
  k_with "eval Call" => (k_here; (with_reducible show wpAny _ _ (eval (PySem.Expr.Call (PySem.Expr.Name (Str.ofString "_days_before_month") _) _ [] _) _) _ _ _); k_dflt (refine Call_ ?_))
  k_with "eval Call" => (k_here; (with_reducible show wpAny _ _ (eval (PySem.Expr.Call (PySem.Expr.Name (Str.ofString "_ymd2ord") _) _ [] _) _) _ _ _); k_dflt (refine Call_ ?_))
  k_with "eval Call" => (k_here; (with_reducible show wpAny _ _ (eval (PySem.Expr.Call (PySem.Expr.Name (Str.ofString "_ord2ymd") _) _ [] _) _) _ _ _); k_dflt (refine Call_ ?_))
  k_with "eval Call" => (k_here; (with_reducible show wpAny _ _ (eval (PySem.Expr.Call (PySem.Expr.Name (Str.ofString "_parse_isoformat_date") _) _ [] _) _) _ _ _); k_dflt (refine Call_ ?_))
  k_with "eval Call" => (k_here; (with_reducible show wpAny _ _ (eval (PySem.Expr.Call (PySem.Expr.Name (Str.ofString "_isoweek_to_gregorian") _) _ [] _) _) _ _ _); k_dflt (refine Call_ ?_))
  k_with "eval Call" => (k_here; (with_reducible show wpAny _ _ (eval (PySem.Expr.Call (PySem.Expr.Name (Str.ofString "_isoweek1monday") _) _ [] _) _) _ _ _); k_dflt (refine Call_ ?_))
  k_with "eval Call" => (k_here; (with_reducible show wpAny _ _ (eval (PySem.Expr.Call (PySem.Expr.Name (Str.ofString "_law_length") _) _ [] _) _) _ _ _); k_dflt (refine Call_ ?_))
  k_with "eval Call" => (k_here; (with_reducible show wpAny _ _ (eval (PySem.Expr.Call (PySem.Expr.Name (Str.ofString "_law_days") _) _ [] _) _) _ _ _); k_dflt (refine Call_ ?_))
  k_with "eval Call" => (k_here; (with_reducible show wpAny _ _ (eval (PySem.Expr.Call (PySem.Expr.Name (Str.ofString "_law_week") _) _ [] _) _) _ _ _); k_dflt (refine Call_ ?_))
  k_with "eval Call" => (k_here; (with_reducible show wpAny _ _ (eval (PySem.Expr.Call (PySem.Expr.Name (Str.ofString "_law_read") _) _ [] _) _) _ _ _); k_dflt (refine Call_ ?_))
  k_with "subscriptTail Name Name ref int" => (k_here; (with_reducible show wpAny _ _ (subscriptTail _ _ (Value.ref 15) (Value.int _ _)) _ _ _); k_dflt (refine' tab_item dimT (by k_asm) (by k_asm) (by k_is) (by walk_at "mine pre") (by walk_at "mine pre") (by walk_at "mine twelve") (by with_unfolding_all rfl) ?_; k_whole); intro t9)
  k_with "subscriptTail Name Name ref int" => (k_here; (with_reducible show wpAny _ _ (subscriptTail _ _ (Value.ref 16) (Value.int _ _)) _ _ _); k_dflt (refine' tab_item dbmT (by k_asm) (by k_asm) (by k_is) (by walk_at "mine pre") (by walk_at "mine pre") (by walk_at "mine twelve") (by with_unfolding_all rfl) ?_; k_whole); intro t9)
  w_strict (
    revert kK
    k_fill
    intro kK
    refine wpAny_call ?_
    k_dflt cell_enter
    k_steps
    k_with "tree" => (simp only [leap])
    all_goals cb_end ret)
theorem c_dby {w : World} {s₀ : Shared} {mg mb : Str → Option Value} {dp un : Nat} {gd : Option (List Code)} {cn : Str} {cs : Scope} {a : Addr} {ccd : Value} {cl : List (Str × Addr)} {outer : List Env} {A₀ : Around} {base h₀ : Heap} {L : Addr} {m : Str → Option Value} {news : List (Addr × Obj)} {s : Shared} {Q E : Value → Shared → Prop} {y : Int} {ty : Tok}
    (kB : Below A₀ base outer h₀) (kF : Fr h₀ L s.heap m) (kK : (hd11.heap_39 w.params).In h₀) (kN : News h₀ L s.heap news) (kT : Top hd11.view_39 (looseW hd11.view_39 [Str.ofString "_DAYS_IN_MONTH", Str.ofString "_DAYS_BEFORE_MONTH", Str.ofString "_DI400Y", Str.ofString "_DI100Y", Str.ofString "_DI4Y"]) (ExcName.means s₀.heap) mg mb h₀) (kk : cs.kind = .function) (kd : dp + 1 < recursionLimit) (ku : un + 8 < cLine) 
    (ret : ∀ (t : Tok) (h' : Heap) (tk' : Nat), Fr h₀ L h' m → News h₀ L h' news → Q (.int (dby y) t) { s with heap := h', toks := tk' }) :
    wpAny (model Challenge.rw_dn0120_11.row.prog w) (ktrTop dp un gd cn cs L a ccd cl outer) (call (.ref 35) [Value.int y ty]) Q E s := by
  w_top off
  k_with_none
  k_with "mine pre" => first | with_reducible assumption | omega | l_fact
  k_with "mine twelve" => (intro k h1 h2; rcases m12 h1 h2 with h | h | h | h | h | h | h | h | h | h | h | h <;> (subst h; exact ⟨_, rfl⟩))
  k_with "mine lt" => first | with_reducible assumption | exact (by with_reducible assumption : _ ∧ AllLt _ _).2 | exact (by with_reducible assumption : _ ∧ _ ∧ AllLt _ _).2.2 | exact (by with_reducible assumption : _ ∧ _ ∧ _ ∧ AllLt _ _).2.2.2 | exact (by with_reducible assumption : _ ∧ _ ∧ _ ∧ _ ∧ AllLt _ _).2.2.2.2
  k_with "eval Call" => (k_here; (with_reducible show wpAny _ _ (eval (PySem.Expr.Call (PySem.Expr.Name (Str.ofString "_is_leap") _) _ [] _) _) _ _ _); k_dflt (refine Call_ ?_))
  k_with "eval Call" => (k_here; (with_reducible show wpAny _ _ (eval (PySem.Expr.Call (PySem.Expr.Name (Str.ofString "_days_before_year") _) _ [] _) _) _ _ _); k_dflt (refine Call_ ?_))
  k_with "eval Call" => (k_here; (with_reducible show wpAny _ _ (eval (PySem.Expr.Call (PySem.Expr.Name (Str.ofString "_days_in_month") _) _ [] _) _) _ _ _); k_dflt (refine Call_ ?_))
  k_with "eval Call" => (k_here; (with_reducible show wpAny _ _ (eval (PySem.Expr.Call (PySem.Expr.Name (Str.ofString "_days_before_month") _) _ [] _) _) _ _ _); k_dflt (refine Call_ ?_))
  k_with "eval Call" => (k_here; (with_reducible show wpAny _ _ (eval (PySem.Expr.Call (PySem.Expr.Name (Str.ofString "_ymd2ord") _) _ [] _) _) _ _ _); k_dflt (refine Call_ ?_))
  k_with "eval Call" => (k_here; (with_reducible show wpAny _ _ (eval (PySem.Expr.Call (PySem.Expr.Name (Str.ofString "_ord2ymd") _) _ [] _) _) _ _ _); k_dflt (refine Call_ ?_))
  k_with "eval Call" => (k_here; (with_reducible show wpAny _ _ (eval (PySem.Expr.Call (PySem.Expr.Name (Str.ofString "_parse_isoformat_date") _) _ [] _) _) _ _ _); k_dflt (refine Call_ ?_))
  k_with "eval Call" => (k_here; (with_reducible show wpAny _ _ (eval (PySem.Expr.Call (PySem.Expr.Name (Str.ofString "_isoweek_to_gregorian") _) _ [] _) _) _ _ _); k_dflt (refine Call_ ?_))
  k_with "eval Call" => (k_here; (with_reducible show wpAny _ _ (eval (PySem.Expr.Call (PySem.Expr.Name (Str.ofString "_isoweek1monday") _) _ [] _) _) _ _ _); k_dflt (refine Call_ ?_))
  k_with "eval Call" => (k_here; (with_reducible show wpAny _ _ (eval (PySem.Expr.Call (PySem.Expr.Name (Str.ofString "_law_length") _) _ [] _) _) _ _ _); k_dflt (refine Call_ ?_))
  k_with "eval Call" => (k_here; (with_reducible show wpAny _ _ (eval (PySem.Expr.Call (PySem.Expr.Name (Str.ofString "_law_days") _) _ [] _) _) _ _ _); k_dflt (refine Call_ ?_))
  k_with "eval Call" => (k_here; (with_reducible show wpAny _ _ (eval (PySem.Expr.Call (PySem.Expr.Name (Str.ofString "_law_week") _) _ [] _) _) _ _ _); k_dflt (refine Call_ ?_))
  k_with "eval Call" => (k_here; (with_reducible show wpAny _ _ (eval (PySem.Expr.Call (PySem.Expr.Name (Str.ofString "_law_read") _) _ [] _) _) _ _ _); k_dflt (refine Call_ ?_))
  k_with "subscriptTail Name Name ref int" => (k_here; (with_reducible show wpAny _ _ (subscriptTail _ _ (Value.ref 15) (Value.int _ _)) _ _ _); k_dflt (refine' tab_item dimT (by k_asm) (by k_asm) (by k_is) (by walk_at "mine pre") (by walk_at "mine pre") (by walk_at "mine twelve") (by with_unfolding_all rfl) ?_; k_whole); intro t9)
  k_with "subscriptTail Name Name ref int" => (k_here; (with_reducible show wpAny _ _ (subscriptTail _ _ (Value.ref 16) (Value.int _ _)) _ _ _); k_dflt (refine' tab_item dbmT (by k_asm) (by k_asm) (by k_is) (by walk_at "mine pre") (by walk_at "mine pre") (by walk_at "mine twelve") (by with_unfolding_all rfl) ?_; k_whole); intro t9)
  k_with "call ref" => (k_here; (with_reducible show wpAny _ _ (PySem.call (Value.ref 28) _) _ _ _); k_dflt (refine' c_leap (by k_asm) (by k_asm) (by k_asm) (by k_asm) (by k_asm) (by first | exact rfl | assumption) (by ktr_room) (by ktr_units) ?_; k_whole); intro t9 h9 tk9 F9 N9; (try dsimp only); (try k_fold))
  w_strict (
    revert kK
    k_fill
    intro kK
    refine wpAny_call ?_
    k_dflt cell_enter
    k_steps
    k_with "tree" => (simp only [dby, Int.fdiv_eq_ediv_of_nonneg _ (show (0 : Int) ≤ 4 by decide), Int.fdiv_eq_ediv_of_nonneg _ (show (0 : Int) ≤ 100 by decide), Int.fdiv_eq_ediv_of_nonneg _ (show (0 : Int) ≤ 400 by decide)])
    all_goals cb_end ret)
theorem c_dim {w : World} {s₀ : Shared} {mg mb : Str → Option Value} {dp un : Nat} {gd : Option (List Code)} {cn : Str} {cs : Scope} {a : Addr} {ccd : Value} {cl : List (Str × Addr)} {outer : List Env} {A₀ : Around} {base h₀ : Heap} {L : Addr} {m : Str → Option Value} {news : List (Addr × Obj)} {s : Shared} {Q E : Value → Shared → Prop} {y : Int} {ty : Tok} {mo : Int} {tmo : Tok}
    (kB : Below A₀ base outer h₀) (kF : Fr h₀ L s.heap m) (kK : (hd11.heap_39 w.params).In h₀) (kN : News h₀ L s.heap news) (kT : Top hd11.view_39 (looseW hd11.view_39 [Str.ofString "_DAYS_IN_MONTH", Str.ofString "_DAYS_BEFORE_MONTH", Str.ofString "_DI400Y", Str.ofString "_DI100Y", Str.ofString "_DI4Y"]) (ExcName.means s₀.heap) mg mb h₀) (kk : cs.kind = .function) (kd : dp + 3 < recursionLimit) (ku : un + 24 < cLine) (h1 : 1 ≤ mo) (h2 : mo ≤ 12)
    (ret : ∀ (t : Tok) (h' : Heap) (tk' : Nat), Fr h₀ L h' m → News h₀ L h' news → Q (.int (dim y mo) t) { s with heap := h', toks := tk' }) :
    wpAny (model Challenge.rw_dn0120_11.row.prog w) (ktrTop dp un gd cn cs L a ccd cl outer) (call (.ref 42) [Value.int y ty, Value.int mo tmo]) Q E s := by
  w_top off
  k_with_none
  k_with "mine pre" => first | with_reducible assumption | omega | l_fact
  k_with "mine twelve" => (intro k h1 h2; rcases m12 h1 h2 with h | h | h | h | h | h | h | h | h | h | h | h <;> (subst h; exact ⟨_, rfl⟩))
  k_with "mine lt" => first | with_reducible assumption | exact (by with_reducible assumption : _ ∧ AllLt _ _).2 | exact (by with_reducible assumption : _ ∧ _ ∧ AllLt _ _).2.2 | exact (by with_reducible assumption : _ ∧ _ ∧ _ ∧ AllLt _ _).2.2.2 | exact (by with_reducible assumption : _ ∧ _ ∧ _ ∧ _ ∧ AllLt _ _).2.2.2.2
  k_with "eval Call" => (k_here; (with_reducible show wpAny _ _ (eval (PySem.Expr.Call (PySem.Expr.Name (Str.ofString "_is_leap") _) _ [] _) _) _ _ _); k_dflt (refine Call_ ?_))
  k_with "eval Call" => (k_here; (with_reducible show wpAny _ _ (eval (PySem.Expr.Call (PySem.Expr.Name (Str.ofString "_days_before_year") _) _ [] _) _) _ _ _); k_dflt (refine Call_ ?_))
  k_with "eval Call" => (k_here; (with_reducible show wpAny _ _ (eval (PySem.Expr.Call (PySem.Expr.Name (Str.ofString "_days_in_month") _) _ [] _) _) _ _ _); k_dflt (refine Call_ ?_))
  k_with "eval Call" => (k_here; (with_reducible show wpAny _ _ (eval (PySem.Expr.Call (PySem.Expr.Name (Str.ofString "_days_before_month") _) _ [] _) _) _ _ _); k_dflt (refine Call_ ?_))
  k_with "eval Call" => (k_here; (with_reducible show wpAny _ _ (eval (PySem.Expr.Call (PySem.Expr.Name (Str.ofString "_ymd2ord") _) _ [] _) _) _ _ _); k_dflt (refine Call_ ?_))
  k_with "eval Call" => (k_here; (with_reducible show wpAny _ _ (eval (PySem.Expr.Call (PySem.Expr.Name (Str.ofString "_ord2ymd") _) _ [] _) _) _ _ _); k_dflt (refine Call_ ?_))
  k_with "eval Call" => (k_here; (with_reducible show wpAny _ _ (eval (PySem.Expr.Call (PySem.Expr.Name (Str.ofString "_parse_isoformat_date") _) _ [] _) _) _ _ _); k_dflt (refine Call_ ?_))
  k_with "eval Call" => (k_here; (with_reducible show wpAny _ _ (eval (PySem.Expr.Call (PySem.Expr.Name (Str.ofString "_isoweek_to_gregorian") _) _ [] _) _) _ _ _); k_dflt (refine Call_ ?_))
  k_with "eval Call" => (k_here; (with_reducible show wpAny _ _ (eval (PySem.Expr.Call (PySem.Expr.Name (Str.ofString "_isoweek1monday") _) _ [] _) _) _ _ _); k_dflt (refine Call_ ?_))
  k_with "eval Call" => (k_here; (with_reducible show wpAny _ _ (eval (PySem.Expr.Call (PySem.Expr.Name (Str.ofString "_law_length") _) _ [] _) _) _ _ _); k_dflt (refine Call_ ?_))
  k_with "eval Call" => (k_here; (with_reducible show wpAny _ _ (eval (PySem.Expr.Call (PySem.Expr.Name (Str.ofString "_law_days") _) _ [] _) _) _ _ _); k_dflt (refine Call_ ?_))
  k_with "eval Call" => (k_here; (with_reducible show wpAny _ _ (eval (PySem.Expr.Call (PySem.Expr.Name (Str.ofString "_law_week") _) _ [] _) _) _ _ _); k_dflt (refine Call_ ?_))
  k_with "eval Call" => (k_here; (with_reducible show wpAny _ _ (eval (PySem.Expr.Call (PySem.Expr.Name (Str.ofString "_law_read") _) _ [] _) _) _ _ _); k_dflt (refine Call_ ?_))
  k_with "subscriptTail Name Name ref int" => (k_here; (with_reducible show wpAny _ _ (subscriptTail _ _ (Value.ref 15) (Value.int _ _)) _ _ _); k_dflt (refine' tab_item dimT (by k_asm) (by k_asm) (by k_is) (by walk_at "mine pre") (by walk_at "mine pre") (by walk_at "mine twelve") (by with_unfolding_all rfl) ?_; k_whole); intro t9)
  k_with "subscriptTail Name Name ref int" => (k_here; (with_reducible show wpAny _ _ (subscriptTail _ _ (Value.ref 16) (Value.int _ _)) _ _ _); k_dflt (refine' tab_item dbmT (by k_asm) (by k_asm) (by k_is) (by walk_at "mine pre") (by walk_at "mine pre") (by walk_at "mine twelve") (by with_unfolding_all rfl) ?_; k_whole); intro t9)
  k_with "call ref" => (k_here; (with_reducible show wpAny _ _ (PySem.call (Value.ref 28) _) _ _ _); k_dflt (refine' c_leap (by k_asm) (by k_asm) (by k_asm) (by k_asm) (by k_asm) (by first | exact rfl | assumption) (by ktr_room) (by ktr_units) ?_; k_whole); intro t9 h9 tk9 F9 N9; (try dsimp only); (try k_fold))
  k_with "call ref" => (k_here; (with_reducible show wpAny _ _ (PySem.call (Value.ref 35) _) _ _ _); k_dflt (refine' c_dby (by k_asm) (by k_asm) (by k_asm) (by k_asm) (by k_asm) (by first | exact rfl | assumption) (by ktr_room) (by ktr_units) ?_; k_whole); intro t9 h9 tk9 F9 N9; (try dsimp only); (try k_fold))
  w_strict (
    revert kK
    k_fill
    intro kK
    refine wpAny_call ?_
    k_dflt cell_enter
    k_steps
    k_with "tree" => (simp only [dim, dimT, lpd])
    all_goals cb_end ret)
theorem c_dbm {w : World} {s₀ : Shared} {mg mb : Str → Option Value} {dp un : Nat} {gd : Option (List Code)} {cn : Str} {cs : Scope} {a : Addr} {ccd : Value} {cl : List (Str × Addr)} {outer : List Env} {A₀ : Around} {base h₀ : Heap} {L : Addr} {m : Str → Option Value} {news : List (Addr × Obj)} {s : Shared} {Q E : Value → Shared → Prop} {y : Int} {ty : Tok} {mo : Int} {tmo : Tok}
    (kB : Below A₀ base outer h₀) (kF : Fr h₀ L s.heap m) (kK : (hd11.heap_39 w.params).In h₀) (kN : News h₀ L s.heap news) (kT : Top hd11.view_39 (looseW hd11.view_39 [Str.ofString "_DAYS_IN_MONTH", Str.ofString "_DAYS_BEFORE_MONTH", Str.ofString "_DI400Y", Str.ofString "_DI100Y", Str.ofString "_DI4Y"]) (ExcName.means s₀.heap) mg mb h₀) (kk : cs.kind = .function) (kd : dp + 3 < recursionLimit) (ku : un + 24 < cLine) (h1 : 1 ≤ mo) (h2 : mo ≤ 12)
    (ret : ∀ (t : Tok) (h' : Heap) (tk' : Nat), Fr h₀ L h' m → News h₀ L h' news → Q (.int (dbm y mo) t) { s with heap := h', toks := tk' }) :
    wpAny (model Challenge.rw_dn0120_11.row.prog w) (ktrTop dp un gd cn cs L a ccd cl outer) (call (.ref 49) [Value.int y ty, Value.int mo tmo]) Q E s := by
  w_top off
  k_with_none
  k_with "mine pre" => first | with_reducible assumption | omega | l_fact
  k_with "mine twelve" => (intro k h1 h2; rcases m12 h1 h2 with h | h | h | h | h | h | h | h | h | h | h | h <;> (subst h; exact ⟨_, rfl⟩))
  k_with "mine lt" => first | with_reducible assumption | exact (by with_reducible assumption : _ ∧ AllLt _ _).2 | exact (by with_reducible assumption : _ ∧ _ ∧ AllLt _ _).2.2 | exact (by with_reducible assumption : _ ∧ _ ∧ _ ∧ AllLt _ _).2.2.2 | exact (by with_reducible assumption : _ ∧ _ ∧ _ ∧ _ ∧ AllLt _ _).2.2.2.2
  k_with "eval Call" => (k_here; (with_reducible show wpAny _ _ (eval (PySem.Expr.Call (PySem.Expr.Name (Str.ofString "_is_leap") _) _ [] _) _) _ _ _); k_dflt (refine Call_ ?_))
  k_with "eval Call" => (k_here; (with_reducible show wpAny _ _ (eval (PySem.Expr.Call (PySem.Expr.Name (Str.ofString "_days_before_year") _) _ [] _) _) _ _ _); k_dflt (refine Call_ ?_))
  k_with "eval Call" => (k_here; (with_reducible show wpAny _ _ (eval (PySem.Expr.Call (PySem.Expr.Name (Str.ofString "_days_in_month") _) _ [] _) _) _ _ _); k_dflt (refine Call_ ?_))
  k_with "eval Call" => (k_here; (with_reducible show wpAny _ _ (eval (PySem.Expr.Call (PySem.Expr.Name (Str.ofString "_days_before_month") _) _ [] _) _) _ _ _); k_dflt (refine Call_ ?_))
  k_with "eval Call" => (k_here; (with_reducible show wpAny _ _ (eval (PySem.Expr.Call (PySem.Expr.Name (Str.ofString "_ymd2ord") _) _ [] _) _) _ _ _); k_dflt (refine Call_ ?_))
  k_with "eval Call" => (k_here; (with_reducible show wpAny _ _ (eval (PySem.Expr.Call (PySem.Expr.Name (Str.ofString "_ord2ymd") _) _ [] _) _) _ _ _); k_dflt (refine Call_ ?_))
  k_with "eval Call" => (k_here; (with_reducible show wpAny _ _ (eval (PySem.Expr.Call (PySem.Expr.Name (Str.ofString "_parse_isoformat_date") _) _ [] _) _) _ _ _); k_dflt (refine Call_ ?_))
  k_with "eval Call" => (k_here; (with_reducible show wpAny _ _ (eval (PySem.Expr.Call (PySem.Expr.Name (Str.ofString "_isoweek_to_gregorian") _) _ [] _) _) _ _ _); k_dflt (refine Call_ ?_))
  k_with "eval Call" => (k_here; (with_reducible show wpAny _ _ (eval (PySem.Expr.Call (PySem.Expr.Name (Str.ofString "_isoweek1monday") _) _ [] _) _) _ _ _); k_dflt (refine Call_ ?_))
  k_with "eval Call" => (k_here; (with_reducible show wpAny _ _ (eval (PySem.Expr.Call (PySem.Expr.Name (Str.ofString "_law_length") _) _ [] _) _) _ _ _); k_dflt (refine Call_ ?_))
  k_with "eval Call" => (k_here; (with_reducible show wpAny _ _ (eval (PySem.Expr.Call (PySem.Expr.Name (Str.ofString "_law_days") _) _ [] _) _) _ _ _); k_dflt (refine Call_ ?_))
  k_with "eval Call" => (k_here; (with_reducible show wpAny _ _ (eval (PySem.Expr.Call (PySem.Expr.Name (Str.ofString "_law_week") _) _ [] _) _) _ _ _); k_dflt (refine Call_ ?_))
  k_with "eval Call" => (k_here; (with_reducible show wpAny _ _ (eval (PySem.Expr.Call (PySem.Expr.Name (Str.ofString "_law_read") _) _ [] _) _) _ _ _); k_dflt (refine Call_ ?_))
  k_with "subscriptTail Name Name ref int" => (k_here; (with_reducible show wpAny _ _ (subscriptTail _ _ (Value.ref 15) (Value.int _ _)) _ _ _); k_dflt (refine' tab_item dimT (by k_asm) (by k_asm) (by k_is) (by walk_at "mine pre") (by walk_at "mine pre") (by walk_at "mine twelve") (by with_unfolding_all rfl) ?_; k_whole); intro t9)
  k_with "subscriptTail Name Name ref int" => (k_here; (with_reducible show wpAny _ _ (subscriptTail _ _ (Value.ref 16) (Value.int _ _)) _ _ _); k_dflt (refine' tab_item dbmT (by k_asm) (by k_asm) (by k_is) (by walk_at "mine pre") (by walk_at "mine pre") (by walk_at "mine twelve") (by with_unfolding_all rfl) ?_; k_whole); intro t9)
  k_with "call ref" => (k_here; (with_reducible show wpAny _ _ (PySem.call (Value.ref 28) _) _ _ _); k_dflt (refine' c_leap (by k_asm) (by k_asm) (by k_asm) (by k_asm) (by k_asm) (by first | exact rfl | assumption) (by ktr_room) (by ktr_units) ?_; k_whole); intro t9 h9 tk9 F9 N9; (try dsimp only); (try k_fold))
  k_with "call ref" => (k_here; (with_reducible show wpAny _ _ (PySem.call (Value.ref 35) _) _ _ _); k_dflt (refine' c_dby (by k_asm) (by k_asm) (by k_asm) (by k_asm) (by k_asm) (by first | exact rfl | assumption) (by ktr_room) (by ktr_units) ?_; k_whole); intro t9 h9 tk9 F9 N9; (try dsimp only); (try k_fold))
  k_with "call ref" => (k_here; (with_reducible show wpAny _ _ (PySem.call (Value.ref 42) _) _ _ _); k_dflt (refine' c_dim (by k_asm) (by k_asm) (by k_asm) (by k_asm) (by k_asm) (by first | exact rfl | assumption) (by ktr_room) (by ktr_units) (by walk_at "mine pre") (by walk_at "mine pre") ?_; k_whole); intro t9 h9 tk9 F9 N9; (try dsimp only); (try k_fold))
  w_strict (
    revert kK
    k_fill
    intro kK
    refine wpAny_call ?_
    k_dflt cell_enter
    k_steps
    k_with "tree" => (simp only [dbm, lpd])
    all_goals cb_end ret)
theorem c_ord {w : World} {s₀ : Shared} {mg mb : Str → Option Value} {dp un : Nat} {gd : Option (List Code)} {cn : Str} {cs : Scope} {a : Addr} {ccd : Value} {cl : List (Str × Addr)} {outer : List Env} {A₀ : Around} {base h₀ : Heap} {L : Addr} {m : Str → Option Value} {news : List (Addr × Obj)} {s : Shared} {Q E : Value → Shared → Prop} {y : Int} {ty : Tok} {mo : Int} {tmo : Tok} {d : Int} {td : Tok}
    (kB : Below A₀ base outer h₀) (kF : Fr h₀ L s.heap m) (kK : (hd11.heap_39 w.params).In h₀) (kN : News h₀ L s.heap news) (kT : Top hd11.view_39 (looseW hd11.view_39 [Str.ofString "_DAYS_IN_MONTH", Str.ofString "_DAYS_BEFORE_MONTH", Str.ofString "_DI400Y", Str.ofString "_DI100Y", Str.ofString "_DI4Y"]) (ExcName.means s₀.heap) mg mb h₀) (kk : cs.kind = .function) (kd : dp + 5 < recursionLimit) (ku : un + 40 < cLine) (h1 : 1 ≤ mo) (h2 : mo ≤ 12) (h3 : 1 ≤ d) (h4 : d ≤ dim y mo)
    (ret : ∀ (t : Tok) (h' : Heap) (tk' : Nat), Valid y mo d → Fr h₀ L h' m → News h₀ L h' news → Q (.int (dby y + dbm y mo + d) t) { s with heap := h', toks := tk' }) :
    wpAny (model Challenge.rw_dn0120_11.row.prog w) (ktrTop dp un gd cn cs L a ccd cl outer) (call (.ref 56) [Value.int y ty, Value.int mo tmo, Value.int d td]) Q E s := by
  w_top off
  k_with_none
  k_with "mine pre" => first | with_reducible assumption | omega | l_fact
  k_with "mine twelve" => (intro k h1 h2; rcases m12 h1 h2 with h | h | h | h | h | h | h | h | h | h | h | h <;> (subst h; exact ⟨_, rfl⟩))
  k_with "mine lt" => first | with_reducible assumption | exact (by with_reducible assumption : _ ∧ AllLt _ _).2 | exact (by with_reducible assumption : _ ∧ _ ∧ AllLt _ _).2.2 | exact (by with_reducible assumption : _ ∧ _ ∧ _ ∧ AllLt _ _).2.2.2 | exact (by with_reducible assumption : _ ∧ _ ∧ _ ∧ _ ∧ AllLt _ _).2.2.2.2
  k_with "eval Call" => (k_here; (with_reducible show wpAny _ _ (eval (PySem.Expr.Call (PySem.Expr.Name (Str.ofString "_is_leap") _) _ [] _) _) _ _ _); k_dflt (refine Call_ ?_))
  k_with "eval Call" => (k_here; (with_reducible show wpAny _ _ (eval (PySem.Expr.Call (PySem.Expr.Name (Str.ofString "_days_before_year") _) _ [] _) _) _ _ _); k_dflt (refine Call_ ?_))
  k_with "eval Call" => (k_here; (with_reducible show wpAny _ _ (eval (PySem.Expr.Call (PySem.Expr.Name (Str.ofString "_days_in_month") _) _ [] _) _) _ _ _); k_dflt (refine Call_ ?_))
  k_with "eval Call" => (k_here; (with_reducible show wpAny _ _ (eval (PySem.Expr.Call (PySem.Expr.Name (Str.ofString "_days_before_month") _) _ [] _) _) _ _ _); k_dflt (refine Call_ ?_))
  k_with "eval Call" => (k_here; (with_reducible show wpAny _ _ (eval (PySem.Expr.Call (PySem.Expr.Name (Str.ofString "_ymd2ord") _) _ [] _) _) _ _ _); k_dflt (refine Call_ ?_))
  k_with "eval Call" => (k_here; (with_reducible show wpAny _ _ (eval (PySem.Expr.Call (PySem.Expr.Name (Str.ofString "_ord2ymd") _) _ [] _) _) _ _ _); k_dflt (refine Call_ ?_))
  k_with "eval Call" => (k_here; (with_reducible show wpAny _ _ (eval (PySem.Expr.Call (PySem.Expr.Name (Str.ofString "_parse_isoformat_date") _) _ [] _) _) _ _ _); k_dflt (refine Call_ ?_))
  k_with "eval Call" => (k_here; (with_reducible show wpAny _ _ (eval (PySem.Expr.Call (PySem.Expr.Name (Str.ofString "_isoweek_to_gregorian") _) _ [] _) _) _ _ _); k_dflt (refine Call_ ?_))
  k_with "eval Call" => (k_here; (with_reducible show wpAny _ _ (eval (PySem.Expr.Call (PySem.Expr.Name (Str.ofString "_isoweek1monday") _) _ [] _) _) _ _ _); k_dflt (refine Call_ ?_))
  k_with "eval Call" => (k_here; (with_reducible show wpAny _ _ (eval (PySem.Expr.Call (PySem.Expr.Name (Str.ofString "_law_length") _) _ [] _) _) _ _ _); k_dflt (refine Call_ ?_))
  k_with "eval Call" => (k_here; (with_reducible show wpAny _ _ (eval (PySem.Expr.Call (PySem.Expr.Name (Str.ofString "_law_days") _) _ [] _) _) _ _ _); k_dflt (refine Call_ ?_))
  k_with "eval Call" => (k_here; (with_reducible show wpAny _ _ (eval (PySem.Expr.Call (PySem.Expr.Name (Str.ofString "_law_week") _) _ [] _) _) _ _ _); k_dflt (refine Call_ ?_))
  k_with "eval Call" => (k_here; (with_reducible show wpAny _ _ (eval (PySem.Expr.Call (PySem.Expr.Name (Str.ofString "_law_read") _) _ [] _) _) _ _ _); k_dflt (refine Call_ ?_))
  k_with "subscriptTail Name Name ref int" => (k_here; (with_reducible show wpAny _ _ (subscriptTail _ _ (Value.ref 15) (Value.int _ _)) _ _ _); k_dflt (refine' tab_item dimT (by k_asm) (by k_asm) (by k_is) (by walk_at "mine pre") (by walk_at "mine pre") (by walk_at "mine twelve") (by with_unfolding_all rfl) ?_; k_whole); intro t9)
  k_with "subscriptTail Name Name ref int" => (k_here; (with_reducible show wpAny _ _ (subscriptTail _ _ (Value.ref 16) (Value.int _ _)) _ _ _); k_dflt (refine' tab_item dbmT (by k_asm) (by k_asm) (by k_is) (by walk_at "mine pre") (by walk_at "mine pre") (by walk_at "mine twelve") (by with_unfolding_all rfl) ?_; k_whole); intro t9)
  k_with "call ref" => (k_here; (with_reducible show wpAny _ _ (PySem.call (Value.ref 28) _) _ _ _); k_dflt (refine' c_leap (by k_asm) (by k_asm) (by k_asm) (by k_asm) (by k_asm) (by first | exact rfl | assumption) (by ktr_room) (by ktr_units) ?_; k_whole); intro t9 h9 tk9 F9 N9; (try dsimp only); (try k_fold))
  k_with "call ref" => (k_here; (with_reducible show wpAny _ _ (PySem.call (Value.ref 35) _) _ _ _); k_dflt (refine' c_dby (by k_asm) (by k_asm) (by k_asm) (by k_asm) (by k_asm) (by first | exact rfl | assumption) (by ktr_room) (by ktr_units) ?_; k_whole); intro t9 h9 tk9 F9 N9; (try dsimp only); (try k_fold))
  k_with "call ref" => (k_here; (with_reducible show wpAny _ _ (PySem.call (Value.ref 42) _) _ _ _); k_dflt (refine' c_dim (by k_asm) (by k_asm) (by k_asm) (by k_asm) (by k_asm) (by first | exact rfl | assumption) (by ktr_room) (by ktr_units) (by walk_at "mine pre") (by walk_at "mine pre") ?_; k_whole); intro t9 h9 tk9 F9 N9; (try dsimp only); (try k_fold))
  k_with "call ref" => (k_here; (with_reducible show wpAny _ _ (PySem.call (Value.ref 49) _) _ _ _); k_dflt (refine' c_dbm (by k_asm) (by k_asm) (by k_asm) (by k_asm) (by k_asm) (by first | exact rfl | assumption) (by ktr_room) (by ktr_units) (by walk_at "mine pre") (by walk_at "mine pre") ?_; k_whole); intro t9 h9 tk9 F9 N9; (try dsimp only); (try k_fold))
  w_strict (
    revert kK
    k_fill
    intro kK
    replace ret := fun t h' tk' => ret t h' tk' ⟨h1, h2, h3, h4⟩
    refine wpAny_call ?_
    k_dflt cell_enter
    k_steps
    all_goals cb_end ret)
section
theorem c_o2y {w : World} {s₀ : Shared} {mg mb : Str → Option Value} {dp un : Nat} {gd : Option (List Code)} {cn : Str} {cs : Scope} {a : Addr} {ccd : Value} {cl : List (Str × Addr)} {outer : List Env} {A₀ : Around} {base h₀ : Heap} {L : Addr} {m : Str → Option Value} {news : List (Addr × Obj)} {s : Shared} {Q E : Value → Shared → Prop} {n : Int} {tn : Tok}
    (kB : Below A₀ base outer h₀) (kF : Fr h₀ L s.heap m) (kK : (hd11.heap_39 w.params).In h₀) (kN : News h₀ L s.heap news) (kT : Top hd11.view_39 (looseW hd11.view_39 [Str.ofString "_DAYS_IN_MONTH", Str.ofString "_DAYS_BEFORE_MONTH", Str.ofString "_DI400Y", Str.ofString "_DI100Y", Str.ofString "_DI4Y"]) (ExcName.means s₀.heap) mg mb h₀) (kk : cs.kind = .function) (kd : dp + 5 < recursionLimit) (ku : un + 40 < cLine) 
    (ret : ∀ (D : Addr) (yy mm dd : Int) (t1 t2 t3 : Tok) (h' : Heap) (tk' : Nat), Valid yy mm dd → ord yy mm dd = n → Fr h₀ L h' m → News h₀ L h' ((D, ({ cls := .type "tuple", data := .seq #[.int yy t1, .int mm t2, .int dd t3] } : Obj)) :: news) → AllLt D news → Q (.ref D) { s with heap := h', toks := tk' }) :
    wpAny (model Challenge.rw_dn0120_11.row.prog w) (ktrTop dp un gd cn cs L a ccd cl outer) (call (.ref 66) [Value.int n tn]) Q E s := by
  w_top off
  k_with_none
  k_with "mine pre" => first | with_reducible assumption | omega | l_fact
  k_with "mine twelve" => (intro k h1 h2; rcases m12 h1 h2 with h | h | h | h | h | h | h | h | h | h | h | h <;> (subst h; exact ⟨_, rfl⟩))
  k_with "mine lt" => first | with_reducible assumption | exact (by with_reducible assumption : _ ∧ AllLt _ _).2 | exact (by with_reducible assumption : _ ∧ _ ∧ AllLt _ _).2.2 | exact (by with_reducible assumption : _ ∧ _ ∧ _ ∧ AllLt _ _).2.2.2 | exact (by with_reducible assumption : _ ∧ _ ∧ _ ∧ _ ∧ AllLt _ _).2.2.2.2
  k_with "eval Call" => (k_here; (with_reducible show wpAny _ _ (eval (PySem.Expr.Call (PySem.Expr.Name (Str.ofString "_is_leap") _) _ [] _) _) _ _ _); k_dflt (refine Call_ ?_))
  k_with "eval Call" => (k_here; (with_reducible show wpAny _ _ (eval (PySem.Expr.Call (PySem.Expr.Name (Str.ofString "_days_before_year") _) _ [] _) _) _ _ _); k_dflt (refine Call_ ?_))
  k_with "eval Call" => (k_here; (with_reducible show wpAny _ _ (eval (PySem.Expr.Call (PySem.Expr.Name (Str.ofString "_days_in_month") _) _ [] _) _) _ _ _); k_dflt (refine Call_ ?_))
  k_with "eval Call" => (k_here; (with_reducible show wpAny _ _ (eval (PySem.Expr.Call (PySem.Expr.Name (Str.ofString "_days_before_month") _) _ [] _) _) _ _ _); k_dflt (refine Call_ ?_))
  k_with "eval Call" => (k_here; (with_reducible show wpAny _ _ (eval (PySem.Expr.Call (PySem.Expr.Name (Str.ofString "_ymd2ord") _) _ [] _) _) _ _ _); k_dflt (refine Call_ ?_))
  k_with "eval Call" => (k_here; (with_reducible show wpAny _ _ (eval (PySem.Expr.Call (PySem.Expr.Name (Str.ofString "_ord2ymd") _) _ [] _) _) _ _ _); k_dflt (refine Call_ ?_))
  k_with "eval Call" => (k_here; (with_reducible show wpAny _ _ (eval (PySem.Expr.Call (PySem.Expr.Name (Str.ofString "_parse_isoformat_date") _) _ [] _) _) _ _ _); k_dflt (refine Call_ ?_))
  k_with "eval Call" => (k_here; (with_reducible show wpAny _ _ (eval (PySem.Expr.Call (PySem.Expr.Name (Str.ofString "_isoweek_to_gregorian") _) _ [] _) _) _ _ _); k_dflt (refine Call_ ?_))
  k_with "eval Call" => (k_here; (with_reducible show wpAny _ _ (eval (PySem.Expr.Call (PySem.Expr.Name (Str.ofString "_isoweek1monday") _) _ [] _) _) _ _ _); k_dflt (refine Call_ ?_))
  k_with "eval Call" => (k_here; (with_reducible show wpAny _ _ (eval (PySem.Expr.Call (PySem.Expr.Name (Str.ofString "_law_length") _) _ [] _) _) _ _ _); k_dflt (refine Call_ ?_))
  k_with "eval Call" => (k_here; (with_reducible show wpAny _ _ (eval (PySem.Expr.Call (PySem.Expr.Name (Str.ofString "_law_days") _) _ [] _) _) _ _ _); k_dflt (refine Call_ ?_))
  k_with "eval Call" => (k_here; (with_reducible show wpAny _ _ (eval (PySem.Expr.Call (PySem.Expr.Name (Str.ofString "_law_week") _) _ [] _) _) _ _ _); k_dflt (refine Call_ ?_))
  k_with "eval Call" => (k_here; (with_reducible show wpAny _ _ (eval (PySem.Expr.Call (PySem.Expr.Name (Str.ofString "_law_read") _) _ [] _) _) _ _ _); k_dflt (refine Call_ ?_))
  k_with "subscriptTail Name Name ref int" => (k_here; (with_reducible show wpAny _ _ (subscriptTail _ _ (Value.ref 15) (Value.int _ _)) _ _ _); k_dflt (refine' tab_item dimT (by k_asm) (by k_asm) (by k_is) (by walk_at "mine pre") (by walk_at "mine pre") (by walk_at "mine twelve") (by with_unfolding_all rfl) ?_; k_whole); intro t9)
  k_with "subscriptTail Name Name ref int" => (k_here; (with_reducible show wpAny _ _ (subscriptTail _ _ (Value.ref 16) (Value.int _ _)) _ _ _); k_dflt (refine' tab_item dbmT (by k_asm) (by k_asm) (by k_is) (by walk_at "mine pre") (by walk_at "mine pre") (by walk_at "mine twelve") (by with_unfolding_all rfl) ?_; k_whole); intro t9)
  k_with "call ref" => (k_here; (with_reducible show wpAny _ _ (PySem.call (Value.ref 28) _) _ _ _); k_dflt (refine' c_leap (by k_asm) (by k_asm) (by k_asm) (by k_asm) (by k_asm) (by first | exact rfl | assumption) (by ktr_room) (by ktr_units) ?_; k_whole); intro t9 h9 tk9 F9 N9; (try dsimp only); (try k_fold))
  k_with "call ref" => (k_here; (with_reducible show wpAny _ _ (PySem.call (Value.ref 35) _) _ _ _); k_dflt (refine' c_dby (by k_asm) (by k_asm) (by k_asm) (by k_asm) (by k_asm) (by first | exact rfl | assumption) (by ktr_room) (by ktr_units) ?_; k_whole); intro t9 h9 tk9 F9 N9; (try dsimp only); (try k_fold))
  k_with "call ref" => (k_here; (with_reducible show wpAny _ _ (PySem.call (Value.ref 42) _) _ _ _); k_dflt (refine' c_dim (by k_asm) (by k_asm) (by k_asm) (by k_asm) (by k_asm) (by first | exact rfl | assumption) (by ktr_room) (by ktr_units) (by walk_at "mine pre") (by walk_at "mine pre") ?_; k_whole); intro t9 h9 tk9 F9 N9; (try dsimp only); (try k_fold))
  k_with "call ref" => (k_here; (with_reducible show wpAny _ _ (PySem.call (Value.ref 49) _) _ _ _); k_dflt (refine' c_dbm (by k_asm) (by k_asm) (by k_asm) (by k_asm) (by k_asm) (by first | exact rfl | assumption) (by ktr_room) (by ktr_units) (by walk_at "mine pre") (by walk_at "mine pre") ?_; k_whole); intro t9 h9 tk9 F9 N9; (try dsimp only); (try k_fold))
  k_with "call ref" => (k_here; (with_reducible show wpAny _ _ (PySem.call (Value.ref 56) _) _ _ _); k_dflt (refine' c_ord (by k_asm) (by k_asm) (by k_asm) (by k_asm) (by k_asm) (by first | exact rfl | assumption) (by ktr_room) (by ktr_units) (by walk_at "mine pre") (by walk_at "mine pre") (by walk_at "mine pre") (by walk_at "mine pre") ?_; k_whole); intro t9 h9 tk9 hv9 F9 N9; (try dsimp only); (try k_fold))
  k_with "call builtin:divmod" => (k_here; (with_reducible show wpAny _ _ (PySem.call _ [Value.int _ _, Value.int _ _]) _ _ _); k_dflt (refine' divmod_gen (by k_asm) (by k_asm) (by decide) (by decide) ?_; k_whole); intro q' r' D' h' t1' t2' tk' dvE dvL dvU F' N' l1; (try simp only [AllLt] at l1); (try k_sweep))
  k_with "mine dec" => exact Dec.mk (by with_reducible assumption) (by with_reducible assumption) (by with_reducible assumption) (by with_reducible assumption) (by with_reducible assumption) (by with_reducible assumption) (by with_reducible assumption) (by with_reducible assumption) (by with_reducible assumption) (by with_reducible assumption) (by with_reducible assumption) (by with_reducible assumption)
  k_with "eval BoolOp And" => (k_here; (with_reducible show wpAny _ _ (eval (PySem.Expr.BoolOp BoolOp.And [PySem.Expr.Compare (PySem.Expr.Name (Str.ofString "n1") _) _ _ _, _] _) _) _ _ _); (fail_if_success (with_reducible show wpAny _ _ _ (fun v s' => CutB _ _ _ _ _ _ v s') _ _)); obtain ⟨z9, y9, hy8, hz8, hz9, hz7, hy7⟩ := o2y_year (by walk_at "mine dec") (by with_reducible assumption) (by with_reducible assumption); refine' cut_bool z9 (by k_asm) (by k_asm) ?_ ?_; rotate_left; (intro tk' h' F' N'; (try dsimp only); (try k_sweep)); rotate_left)
  k_with "eval BoolOp And" => (k_here; (with_reducible show wpAny _ _ (eval (PySem.Expr.BoolOp BoolOp.And [PySem.Expr.Compare (PySem.Expr.Name (Str.ofString "month") _) [CmpOp.Gt] _ _, PySem.Expr.Name (Str.ofString "leapyear") _] _) _) _ _ _); (fail_if_success (with_reducible show wpAny _ _ _ (fun v s' => CutB _ _ _ _ _ _ v s') _ _)); refine' cut_iff (P := ((2 : Int) < _ ∧ _ = true)) (by with_reducible assumption) (by k_asm) (by k_asm) ?_ ?_; rotate_left; (intro tk' h' F' N'; (try dsimp only); (try k_sweep)); rotate_left)
  k_with "eval BoolOp And" => (k_here; (with_reducible show wpAny _ _ (eval (PySem.Expr.BoolOp BoolOp.And [PySem.Expr.Compare (PySem.Expr.Name (Str.ofString "month") _) [CmpOp.Eq] _ _, PySem.Expr.Name (Str.ofString "leapyear") _] _) _) _ _ _); (fail_if_success (with_reducible show wpAny _ _ _ (fun v s' => CutB _ _ _ _ _ _ v s') _ _)); refine' cut_iff (P := (_ = (2 : Int) ∧ _ = true)) (by with_reducible assumption) (by k_asm) (by k_asm) ?_ ?_; rotate_left; (intro tk' h' F' N'; (try dsimp only); (try k_sweep)); rotate_left)
  k_with "CutB" => (refine CutB.intro (by k_asm) (by k_asm) ?_; refine iff_bool ?_; refine Iff.trans ?_ (Iff.symm (by with_reducible assumption)); first | exact w_y1 (by with_reducible assumption) (by with_reducible assumption) | exact w_y2 (by with_reducible assumption) (by with_reducible assumption) | exact w_y3 (by with_reducible assumption) | exact w_gt (by with_reducible assumption) | exact w_ngt (by with_reducible assumption) | exact w_eq (by with_reducible assumption) | exact w_neq (by with_reducible assumption))
  k_with "compareOp Eq bool bool" => (k_here; refine cmp_bool_tt (by with_reducible assumption) ?_)
  k_with "binaryOp RShift int int" => (k_here; refine rshift5_gen ?_; intro q9 t9 hq8 hq9; obtain ⟨hm1, hm2, hm3, hm4⟩ := o2y_month (by with_reducible assumption) (by with_reducible assumption) (by with_reducible assumption) hq8 hq9; obtain ⟨b8, hb8, hb7⟩ := o2y_gt2 (q := q9) (by with_reducible assumption); obtain ⟨b9, hb9, hb6⟩ := o2y_eq2 (q := q9 - 1) (by with_reducible assumption))
  k_with "mine endA" => exact o2y_endA (by with_reducible assumption) (by with_reducible assumption) (by with_reducible assumption) (by with_reducible assumption) (by with_reducible assumption) (by with_reducible assumption) (by with_reducible assumption)
  k_with "mine endB" => exact o2y_endB (by with_reducible assumption) (by with_reducible assumption) (by with_reducible assumption) (by with_reducible assumption) (by with_reducible assumption) (by with_reducible assumption) (by with_reducible assumption)
  k_with "mine o2y no" => (exfalso; first | with_reducible exact absurd (Dec.last (by walk_at "mine dec") (Or.inl (by with_reducible assumption))).1 (by with_reducible assumption) | with_reducible exact absurd (Dec.last (by walk_at "mine dec") (Or.inr (by with_reducible assumption))).1 (by with_reducible assumption) | with_reducible exact absurd (And.left (by walk_at "mine endA")) (by with_reducible assumption) | with_reducible exact absurd (And.left (And.right (by walk_at "mine endA"))) (by with_reducible assumption) | with_reducible exact absurd (And.left (by walk_at "mine endB")) (by with_reducible assumption) | with_reducible exact absurd (And.left (And.right (by walk_at "mine endB"))) (by with_reducible assumption))
  w_strict (
    revert kK
    k_fill
    intro kK
    refine wpAny_call ?_
    k_dflt cell_enter
    k_steps
    all_goals (first | (refine' ret _ _ _ _ _ _ _ _ _ ?v ?o ?f (news_keep4 ?n) ?l; (case f => k_asm); (case n => k_asm); (case l => walk_at "mine lt"); (case v => first | with_reducible exact (Dec.last (by walk_at "mine dec") (Or.inl (by with_reducible assumption))).2.1 | with_reducible exact (Dec.last (by walk_at "mine dec") (Or.inr (by with_reducible assumption))).2.1 | with_reducible exact And.left (And.right (And.right (by walk_at "mine endA"))) | with_reducible exact And.left (And.right (And.right (by walk_at "mine endB")))); (case o => first | with_reducible exact (Dec.last (by walk_at "mine dec") (Or.inl (by with_reducible assumption))).2.2 | with_reducible exact (Dec.last (by walk_at "mine dec") (Or.inr (by with_reducible assumption))).2.2 | with_reducible exact And.right (And.right (And.right (by walk_at "mine endA"))) | with_reducible exact And.right (And.right (And.right (by walk_at "mine endB"))))) | walk_at "mine o2y no"))
end
theorem c_len {w : World} {s₀ : Shared} {mg mb : Str → Option Value} {dp un : Nat} {gd : Option (List Code)} {cn : Str} {cs : Scope} {a : Addr} {ccd : Value} {cl : List (Str × Addr)} {outer : List Env} {A₀ : Around} {base h₀ : Heap} {L : Addr} {m : Str → Option Value} {news : List (Addr × Obj)} {s : Shared} {Q E : Value → Shared → Prop} {y : Int} {ty : Tok} {mo : Int} {tmo : Tok}
    (kB : Below A₀ base outer h₀) (kF : Fr h₀ L s.heap m) (kK : (hd11.heap_39 w.params).In h₀) (kN : News h₀ L s.heap news) (kT : Top hd11.view_39 (looseW hd11.view_39 [Str.ofString "_DAYS_IN_MONTH", Str.ofString "_DAYS_BEFORE_MONTH", Str.ofString "_DI400Y", Str.ofString "_DI100Y", Str.ofString "_DI4Y"]) (ExcName.means s₀.heap) mg mb h₀) (kk : cs.kind = .function) (kd : dp + 1 < recursionLimit) (ku : un + 8 < cLine) (h1 : 1 ≤ mo) (h2 : mo ≤ 12)
    (ret : ∀ (t : Tok) (h' : Heap) (tk' : Nat), Fr h₀ L h' m → News h₀ L h' news → Q (.int (dim y mo) t) { s with heap := h', toks := tk' }) :
    wpAny (model Challenge.rw_dn0120_11.row.prog w) (ktrTop dp un gd cn cs L a ccd cl outer) (call (.ref 94) [Value.int y ty, Value.int mo tmo]) Q E s := by
  w_top off
  k_with_none
  k_with "mine pre" => first | with_reducible assumption | omega | l_fact
  k_with "mine twelve" => (intro k h1 h2; rcases m12 h1 h2 with h | h | h | h | h | h | h | h | h | h | h | h <;> (subst h; exact ⟨_, rfl⟩))
  k_with "mine lt" => first | with_reducible assumption | exact (by with_reducible assumption : _ ∧ AllLt _ _).2 | exact (by with_reducible assumption : _ ∧ _ ∧ AllLt _ _).2.2 | exact (by with_reducible assumption : _ ∧ _ ∧ _ ∧ AllLt _ _).2.2.2 | exact (by with_reducible assumption : _ ∧ _ ∧ _ ∧ _ ∧ AllLt _ _).2.2.2.2
  k_with "eval Call" => (k_here; (with_reducible show wpAny _ _ (eval (PySem.Expr.Call (PySem.Expr.Name (Str.ofString "_is_leap") _) _ [] _) _) _ _ _); k_dflt (refine Call_ ?_))
  k_with "eval Call" => (k_here; (with_reducible show wpAny _ _ (eval (PySem.Expr.Call (PySem.Expr.Name (Str.ofString "_days_before_year") _) _ [] _) _) _ _ _); k_dflt (refine Call_ ?_))
  k_with "eval Call" => (k_here; (with_reducible show wpAny _ _ (eval (PySem.Expr.Call (PySem.Expr.Name (Str.ofString "_days_in_month") _) _ [] _) _) _ _ _); k_dflt (refine Call_ ?_))
  k_with "eval Call" => (k_here; (with_reducible show wpAny _ _ (eval (PySem.Expr.Call (PySem.Expr.Name (Str.ofString "_days_before_month") _) _ [] _) _) _ _ _); k_dflt (refine Call_ ?_))
  k_with "eval Call" => (k_here; (with_reducible show wpAny _ _ (eval (PySem.Expr.Call (PySem.Expr.Name (Str.ofString "_ymd2ord") _) _ [] _) _) _ _ _); k_dflt (refine Call_ ?_))
  k_with "eval Call" => (k_here; (with_reducible show wpAny _ _ (eval (PySem.Expr.Call (PySem.Expr.Name (Str.ofString "_ord2ymd") _) _ [] _) _) _ _ _); k_dflt (refine Call_ ?_))
  k_with "eval Call" => (k_here; (with_reducible show wpAny _ _ (eval (PySem.Expr.Call (PySem.Expr.Name (Str.ofString "_parse_isoformat_date") _) _ [] _) _) _ _ _); k_dflt (refine Call_ ?_))
  k_with "eval Call" => (k_here; (with_reducible show wpAny _ _ (eval (PySem.Expr.Call (PySem.Expr.Name (Str.ofString "_isoweek_to_gregorian") _) _ [] _) _) _ _ _); k_dflt (refine Call_ ?_))
  k_with "eval Call" => (k_here; (with_reducible show wpAny _ _ (eval (PySem.Expr.Call (PySem.Expr.Name (Str.ofString "_isoweek1monday") _) _ [] _) _) _ _ _); k_dflt (refine Call_ ?_))
  k_with "eval Call" => (k_here; (with_reducible show wpAny _ _ (eval (PySem.Expr.Call (PySem.Expr.Name (Str.ofString "_law_length") _) _ [] _) _) _ _ _); k_dflt (refine Call_ ?_))
  k_with "eval Call" => (k_here; (with_reducible show wpAny _ _ (eval (PySem.Expr.Call (PySem.Expr.Name (Str.ofString "_law_days") _) _ [] _) _) _ _ _); k_dflt (refine Call_ ?_))
  k_with "eval Call" => (k_here; (with_reducible show wpAny _ _ (eval (PySem.Expr.Call (PySem.Expr.Name (Str.ofString "_law_week") _) _ [] _) _) _ _ _); k_dflt (refine Call_ ?_))
  k_with "eval Call" => (k_here; (with_reducible show wpAny _ _ (eval (PySem.Expr.Call (PySem.Expr.Name (Str.ofString "_law_read") _) _ [] _) _) _ _ _); k_dflt (refine Call_ ?_))
  k_with "subscriptTail Name Name ref int" => (k_here; (with_reducible show wpAny _ _ (subscriptTail _ _ (Value.ref 15) (Value.int _ _)) _ _ _); k_dflt (refine' tab_item dimT (by k_asm) (by k_asm) (by k_is) (by walk_at "mine pre") (by walk_at "mine pre") (by walk_at "mine twelve") (by with_unfolding_all rfl) ?_; k_whole); intro t9)
  k_with "subscriptTail Name Name ref int" => (k_here; (with_reducible show wpAny _ _ (subscriptTail _ _ (Value.ref 16) (Value.int _ _)) _ _ _); k_dflt (refine' tab_item dbmT (by k_asm) (by k_asm) (by k_is) (by walk_at "mine pre") (by walk_at "mine pre") (by walk_at "mine twelve") (by with_unfolding_all rfl) ?_; k_whole); intro t9)
  k_with "call ref" => (k_here; (with_reducible show wpAny _ _ (PySem.call (Value.ref 28) _) _ _ _); k_dflt (refine' c_leap (by k_asm) (by k_asm) (by k_asm) (by k_asm) (by k_asm) (by first | exact rfl | assumption) (by ktr_room) (by ktr_units) ?_; k_whole); intro t9 h9 tk9 F9 N9; (try dsimp only); (try k_fold))
  k_with "call ref" => (k_here; (with_reducible show wpAny _ _ (PySem.call (Value.ref 35) _) _ _ _); k_dflt (refine' c_dby (by k_asm) (by k_asm) (by k_asm) (by k_asm) (by k_asm) (by first | exact rfl | assumption) (by ktr_room) (by ktr_units) ?_; k_whole); intro t9 h9 tk9 F9 N9; (try dsimp only); (try k_fold))
  k_with "call ref" => (k_here; (with_reducible show wpAny _ _ (PySem.call (Value.ref 42) _) _ _ _); k_dflt (refine' c_dim (by k_asm) (by k_asm) (by k_asm) (by k_asm) (by k_asm) (by first | exact rfl | assumption) (by ktr_room) (by ktr_units) (by walk_at "mine pre") (by walk_at "mine pre") ?_; k_whole); intro t9 h9 tk9 F9 N9; (try dsimp only); (try k_fold))
  k_with "call ref" => (k_here; (with_reducible show wpAny _ _ (PySem.call (Value.ref 49) _) _ _ _); k_dflt (refine' c_dbm (by k_asm) (by k_asm) (by k_asm) (by k_asm) (by k_asm) (by first | exact rfl | assumption) (by ktr_room) (by ktr_units) (by walk_at "mine pre") (by walk_at "mine pre") ?_; k_whole); intro t9 h9 tk9 F9 N9; (try dsimp only); (try k_fold))
  k_with "call ref" => (k_here; (with_reducible show wpAny _ _ (PySem.call (Value.ref 56) _) _ _ _); k_dflt (refine' c_ord (by k_asm) (by k_asm) (by k_asm) (by k_asm) (by k_asm) (by first | exact rfl | assumption) (by ktr_room) (by ktr_units) (by walk_at "mine pre") (by walk_at "mine pre") (by walk_at "mine pre") (by walk_at "mine pre") ?_; k_whole); intro t9 h9 tk9 hv9 F9 N9; (try dsimp only); (try k_fold))
  k_with "mine pre" => first | with_reducible assumption | omega | with_reducible exact dim_one (by decide) (by decide) | l_fact
  w_strict (
    revert kK
    k_fill
    intro kK
    refine wpAny_call ?_
    k_dflt cell_enter
    k_steps
    k_with "tree" => (with_reducible first | exact v_len1 (by assumption) (by assumption) (by assumption) | exact v_len2 (by assumption) (by assumption) (by assumption) | exact v_len3 (by assumption) (by assumption) (by assumption) | exact v_len5 (by assumption) (by assumption) (by assumption) | exact v_len4 (by assumption) (by assumption) (by assumption))
    all_goals cb_end ret)
section
theorem c_days {w : World} {s₀ : Shared} {mg mb : Str → Option Value} {dp un : Nat} {gd : Option (List Code)} {cn : Str} {cs : Scope} {a : Addr} {ccd : Value} {cl : List (Str × Addr)} {outer : List Env} {A₀ : Around} {base h₀ : Heap} {L : Addr} {m : Str → Option Value} {news : List (Addr × Obj)} {s : Shared} {Q E : Value → Shared → Prop} {y : Int} {ty : Tok}
    (kB : Below A₀ base outer h₀) (kF : Fr h₀ L s.heap m) (kK : (hd11.heap_39 w.params).In h₀) (kN : News h₀ L s.heap news) (kT : Top hd11.view_39 (looseW hd11.view_39 [Str.ofString "_DAYS_IN_MONTH", Str.ofString "_DAYS_BEFORE_MONTH", Str.ofString "_DI400Y", Str.ofString "_DI100Y", Str.ofString "_DI4Y"]) (ExcName.means s₀.heap) mg mb h₀) (kk : cs.kind = .function) (kd : dp + 4 < recursionLimit) (ku : un + 32 < cLine) 
    (ret : ∀ (t : Tok) (h' : Heap) (tk' : Nat), Fr h₀ L h' m → News h₀ L h' news → Q (.int (ylen y) t) { s with heap := h', toks := tk' }) :
    wpAny (model Challenge.rw_dn0120_11.row.prog w) (ktrTop dp un gd cn cs L a ccd cl outer) (call (.ref 99) [Value.int y ty]) Q E s := by
  w_top off
  k_with_none
  k_with "mine pre" => first | with_reducible assumption | omega | l_fact
  k_with "mine twelve" => (intro k h1 h2; rcases m12 h1 h2 with h | h | h | h | h | h | h | h | h | h | h | h <;> (subst h; exact ⟨_, rfl⟩))
  k_with "mine lt" => first | with_reducible assumption | exact (by with_reducible assumption : _ ∧ AllLt _ _).2 | exact (by with_reducible assumption : _ ∧ _ ∧ AllLt _ _).2.2 | exact (by with_reducible assumption : _ ∧ _ ∧ _ ∧ AllLt _ _).2.2.2 | exact (by with_reducible assumption : _ ∧ _ ∧ _ ∧ _ ∧ AllLt _ _).2.2.2.2
  k_with "eval Call" => (k_here; (with_reducible show wpAny _ _ (eval (PySem.Expr.Call (PySem.Expr.Name (Str.ofString "_is_leap") _) _ [] _) _) _ _ _); k_dflt (refine Call_ ?_))
  k_with "eval Call" => (k_here; (with_reducible show wpAny _ _ (eval (PySem.Expr.Call (PySem.Expr.Name (Str.ofString "_days_before_year") _) _ [] _) _) _ _ _); k_dflt (refine Call_ ?_))
  k_with "eval Call" => (k_here; (with_reducible show wpAny _ _ (eval (PySem.Expr.Call (PySem.Expr.Name (Str.ofString "_days_in_month") _) _ [] _) _) _ _ _); k_dflt (refine Call_ ?_))
  k_with "eval Call" => (k_here; (with_reducible show wpAny _ _ (eval (PySem.Expr.Call (PySem.Expr.Name (Str.ofString "_days_before_month") _) _ [] _) _) _ _ _); k_dflt (refine Call_ ?_))
  k_with "eval Call" => (k_here; (with_reducible show wpAny _ _ (eval (PySem.Expr.Call (PySem.Expr.Name (Str.ofString "_ymd2ord") _) _ [] _) _) _ _ _); k_dflt (refine Call_ ?_))
  k_with "eval Call" => (k_here; (with_reducible show wpAny _ _ (eval (PySem.Expr.Call (PySem.Expr.Name (Str.ofString "_ord2ymd") _) _ [] _) _) _ _ _); k_dflt (refine Call_ ?_))
  k_with "eval Call" => (k_here; (with_reducible show wpAny _ _ (eval (PySem.Expr.Call (PySem.Expr.Name (Str.ofString "_parse_isoformat_date") _) _ [] _) _) _ _ _); k_dflt (refine Call_ ?_))
  k_with "eval Call" => (k_here; (with_reducible show wpAny _ _ (eval (PySem.Expr.Call (PySem.Expr.Name (Str.ofString "_isoweek_to_gregorian") _) _ [] _) _) _ _ _); k_dflt (refine Call_ ?_))
  k_with "eval Call" => (k_here; (with_reducible show wpAny _ _ (eval (PySem.Expr.Call (PySem.Expr.Name (Str.ofString "_isoweek1monday") _) _ [] _) _) _ _ _); k_dflt (refine Call_ ?_))
  k_with "eval Call" => (k_here; (with_reducible show wpAny _ _ (eval (PySem.Expr.Call (PySem.Expr.Name (Str.ofString "_law_length") _) _ [] _) _) _ _ _); k_dflt (refine Call_ ?_))
  k_with "eval Call" => (k_here; (with_reducible show wpAny _ _ (eval (PySem.Expr.Call (PySem.Expr.Name (Str.ofString "_law_days") _) _ [] _) _) _ _ _); k_dflt (refine Call_ ?_))
  k_with "eval Call" => (k_here; (with_reducible show wpAny _ _ (eval (PySem.Expr.Call (PySem.Expr.Name (Str.ofString "_law_week") _) _ [] _) _) _ _ _); k_dflt (refine Call_ ?_))
  k_with "eval Call" => (k_here; (with_reducible show wpAny _ _ (eval (PySem.Expr.Call (PySem.Expr.Name (Str.ofString "_law_read") _) _ [] _) _) _ _ _); k_dflt (refine Call_ ?_))
  k_with "subscriptTail Name Name ref int" => (k_here; (with_reducible show wpAny _ _ (subscriptTail _ _ (Value.ref 15) (Value.int _ _)) _ _ _); k_dflt (refine' tab_item dimT (by k_asm) (by k_asm) (by k_is) (by walk_at "mine pre") (by walk_at "mine pre") (by walk_at "mine twelve") (by with_unfolding_all rfl) ?_; k_whole); intro t9)
  k_with "subscriptTail Name Name ref int" => (k_here; (with_reducible show wpAny _ _ (subscriptTail _ _ (Value.ref 16) (Value.int _ _)) _ _ _); k_dflt (refine' tab_item dbmT (by k_asm) (by k_asm) (by k_is) (by walk_at "mine pre") (by walk_at "mine pre") (by walk_at "mine twelve") (by with_unfolding_all rfl) ?_; k_whole); intro t9)
  k_with "call ref" => (k_here; (with_reducible show wpAny _ _ (PySem.call (Value.ref 28) _) _ _ _); k_dflt (refine' c_leap (by k_asm) (by k_asm) (by k_asm) (by k_asm) (by k_asm) (by first | exact rfl | assumption) (by ktr_room) (by ktr_units) ?_; k_whole); intro t9 h9 tk9 F9 N9; (try dsimp only); (try k_fold))
  k_with "call ref" => (k_here; (with_reducible show wpAny _ _ (PySem.call (Value.ref 35) _) _ _ _); k_dflt (refine' c_dby (by k_asm) (by k_asm) (by k_asm) (by k_asm) (by k_asm) (by first | exact rfl | assumption) (by ktr_room) (by ktr_units) ?_; k_whole); intro t9 h9 tk9 F9 N9; (try dsimp only); (try k_fold))
  k_with "call ref" => (k_here; (with_reducible show wpAny _ _ (PySem.call (Value.ref 42) _) _ _ _); k_dflt (refine' c_dim (by k_asm) (by k_asm) (by k_asm) (by k_asm) (by k_asm) (by first | exact rfl | assumption) (by ktr_room) (by ktr_units) (by walk_at "mine pre") (by walk_at "mine pre") ?_; k_whole); intro t9 h9 tk9 F9 N9; (try dsimp only); (try k_fold))
  k_with "call ref" => (k_here; (with_reducible show wpAny _ _ (PySem.call (Value.ref 49) _) _ _ _); k_dflt (refine' c_dbm (by k_asm) (by k_asm) (by k_asm) (by k_asm) (by k_asm) (by first | exact rfl | assumption) (by ktr_room) (by ktr_units) (by walk_at "mine pre") (by walk_at "mine pre") ?_; k_whole); intro t9 h9 tk9 F9 N9; (try dsimp only); (try k_fold))
  k_with "call ref" => (k_here; (with_reducible show wpAny _ _ (PySem.call (Value.ref 56) _) _ _ _); k_dflt (refine' c_ord (by k_asm) (by k_asm) (by k_asm) (by k_asm) (by k_asm) (by first | exact rfl | assumption) (by ktr_room) (by ktr_units) (by walk_at "mine pre") (by walk_at "mine pre") (by walk_at "mine pre") (by walk_at "mine pre") ?_; k_whole); intro t9 h9 tk9 hv9 F9 N9; (try dsimp only); (try k_fold))
  k_with "mine pre" => first | with_reducible assumption | omega | with_reducible exact dim_one (by decide) (by decide) | l_fact
  k_with "call ref" => (k_here; (with_reducible show wpAny _ _ (PySem.call (Value.ref 94) _) _ _ _); k_dflt (refine' c_len (by k_asm) (by k_asm) (by k_asm) (by k_asm) (by k_asm) (by first | exact rfl | assumption) (by ktr_room) (by ktr_units) (by walk_at "mine pre") (by walk_at "mine pre") ?_; k_whole); intro t9 h9 tk9 F9 N9; (try dsimp only); (try k_fold))
  k_with "eval ListComp" => (k_here; (with_reducible show wpAny _ _ (eval (PySem.Expr.ListComp (PySem.Expr.Call _ _ _ _) [⟨PySem.Expr.Name _ _, PySem.Expr.Call _ _ _ _, [], _⟩] _ _) _) _ _ _); k_dflt (refine LCg.ListComp_U (F₀ := by k_asm) (by with_unfolding_all rfl) (by decide) (by rfl) (by decide) (by rfl) ?_))
  k_with "CompSrc" => (k_here; k_dflt (refine' src03 (by with_reducible assumption) (by rfl) (by k_asm) (by k_asm) (by assumption) ?_ ?_))
  k_with "EltIs" => (unfold EltIs; intro n' t' I' oI' C' oC' D' oD' m' h' tk' E' s' hn' hC' hx' F' N'; (try (obtain ⟨hn1, hn2⟩ := hn')); (try k_fold))
  k_with "EltOk" => exact EltOk.intro (by k_asm) (by first | k_asm | exact news_tail (by assumption) | (refine cb_drop ?_ ?_; (· assumption); (· kcj_all))) ⟨_, rfl⟩
  k_with "call builtin:sum" => (k_here; (with_reducible show wpAny _ _ (PySem.call (Value.builtin "sum") [Value.ref _]) _ _ _); k_dflt (refine' sum_to (by k_asm) (by k_asm) (by rfl) (by is_list) (by l_ints) (by exact sum_ylen _) ?_; k_whole); intro h' tk' t' F' N'; (try k_sweep))
  w_strict (
    revert kK
    k_fill
    intro kK
    have hY9 : Yr y := Yr.mk
    refine wpAny_call ?_
    k_dflt (refine' code_defC ?k1 ?k2 ?k3 ?k4 ?k5 ?kA ?kF ?kK ?k6 ?k7 ?k8 ?k9 ?kB ?kD ?_ ?c2 ?c3 ?c4; (case kA => exact rfl); (case kF => exact rfl); (case kK => assumption); (case k1 => k_asm); (case k2 => k_asm); (case k3 => k_asm); (case k4 => k_asm); (case k5 => k_asm); (case k6 => k_is); (case k7 => k_is); (case k8 => ktr_room); (case k9 => exact BindsTo.of_eq rfl); (case kB => exact rfl); (case kD => decide +kernel); (case c2 => exact rfl); (case c3 => exact rfl); (case c4 => exact rfl); k_whole; intro g' L' h' tk' cells' FG' F' N' Y' B' X' T' l1; (try k_lt l1); k_cells Y'; (try simp only [List.cons_append, List.nil_append] at N'); (try dsimp only); (try k_lift B'); (try k_fold))
    k_steps
    all_goals cb_end ret)
end
section
theorem c_wk1 {w : World} {s₀ : Shared} {mg mb : Str → Option Value} {dp un : Nat} {gd : Option (List Code)} {cn : Str} {cs : Scope} {a : Addr} {ccd : Value} {cl : List (Str × Addr)} {outer : List Env} {A₀ : Around} {base h₀ : Heap} {L : Addr} {m : Str → Option Value} {news : List (Addr × Obj)} {s : Shared} {Q E : Value → Shared → Prop} {y : Int} {ty : Tok} {k : Int} {tk : Tok} {d : Int} {td : Tok}
    (kB : Below A₀ base outer h₀) (kF : Fr h₀ L s.heap m) (kK : (hd11.heap_39 w.params).In h₀) (kN : News h₀ L s.heap news) (kT : Top hd11.view_39 (looseW hd11.view_39 [Str.ofString "_DAYS_IN_MONTH", Str.ofString "_DAYS_BEFORE_MONTH", Str.ofString "_DI400Y", Str.ofString "_DI100Y", Str.ofString "_DI4Y"]) (ExcName.means s₀.heap) mg mb h₀) (kk : cs.kind = .function) (kd : dp + 10 < recursionLimit) (ku : un + 80 < cLine) (ok : WeekOk y k d)
    (ret : ∀ (D : Addr) (yy mm dd : Int) (t1 t2 t3 : Tok) (h' : Heap) (tk' : Nat), Valid yy mm dd → ord yy mm dd = num y k d → Fr h₀ L h' m → News h₀ L h' ((D, W.listOf #[.int yy t1, .int mm t2, .int dd t3] 0) :: news) → AllLt D news → Q (.ref D) { s with heap := h', toks := tk' }) :
    wpAny (model Challenge.rw_dn0120_11.row.prog w) (ktrTop dp un gd cn cs L a ccd cl outer) (call (.ref 106) [Value.int y ty, Value.int k tk, Value.int d td]) Q E s := by
  w_top off
  k_with_none
  k_with "mine pre" => first | with_reducible assumption | omega | l_fact
  k_with "mine twelve" => (intro k h1 h2; rcases m12 h1 h2 with h | h | h | h | h | h | h | h | h | h | h | h <;> (subst h; exact ⟨_, rfl⟩))
  k_with "mine lt" => first | with_reducible assumption | exact (by with_reducible assumption : _ ∧ AllLt _ _).2 | exact (by with_reducible assumption : _ ∧ _ ∧ AllLt _ _).2.2 | exact (by with_reducible assumption : _ ∧ _ ∧ _ ∧ AllLt _ _).2.2.2 | exact (by with_reducible assumption : _ ∧ _ ∧ _ ∧ _ ∧ AllLt _ _).2.2.2.2
  k_with "eval Call" => (k_here; (with_reducible show wpAny _ _ (eval (PySem.Expr.Call (PySem.Expr.Name (Str.ofString "_is_leap") _) _ [] _) _) _ _ _); k_dflt (refine Call_ ?_))
  k_with "eval Call" => (k_here; (with_reducible show wpAny _ _ (eval (PySem.Expr.Call (PySem.Expr.Name (Str.ofString "_days_before_year") _) _ [] _) _) _ _ _); k_dflt (refine Call_ ?_))
  k_with "eval Call" => (k_here; (with_reducible show wpAny _ _ (eval (PySem.Expr.Call (PySem.Expr.Name (Str.ofString "_days_in_month") _) _ [] _) _) _ _ _); k_dflt (refine Call_ ?_))
  k_with "eval Call" => (k_here; (with_reducible show wpAny _ _ (eval (PySem.Expr.Call (PySem.Expr.Name (Str.ofString "_days_before_month") _) _ [] _) _) _ _ _); k_dflt (refine Call_ ?_))
  k_with "eval Call" => (k_here; (with_reducible show wpAny _ _ (eval (PySem.Expr.Call (PySem.Expr.Name (Str.ofString "_ymd2ord") _) _ [] _) _) _ _ _); k_dflt (refine Call_ ?_))
  k_with "eval Call" => (k_here; (with_reducible show wpAny _ _ (eval (PySem.Expr.Call (PySem.Expr.Name (Str.ofString "_ord2ymd") _) _ [] _) _) _ _ _); k_dflt (refine Call_ ?_))
  k_with "eval Call" => (k_here; (with_reducible show wpAny _ _ (eval (PySem.Expr.Call (PySem.Expr.Name (Str.ofString "_parse_isoformat_date") _) _ [] _) _) _ _ _); k_dflt (refine Call_ ?_))
  k_with "eval Call" => (k_here; (with_reducible show wpAny _ _ (eval (PySem.Expr.Call (PySem.Expr.Name (Str.ofString "_isoweek_to_gregorian") _) _ [] _) _) _ _ _); k_dflt (refine Call_ ?_))
  k_with "eval Call" => (k_here; (with_reducible show wpAny _ _ (eval (PySem.Expr.Call (PySem.Expr.Name (Str.ofString "_isoweek1monday") _) _ [] _) _) _ _ _); k_dflt (refine Call_ ?_))
  k_with "eval Call" => (k_here; (with_reducible show wpAny _ _ (eval (PySem.Expr.Call (PySem.Expr.Name (Str.ofString "_law_length") _) _ [] _) _) _ _ _); k_dflt (refine Call_ ?_))
  k_with "eval Call" => (k_here; (with_reducible show wpAny _ _ (eval (PySem.Expr.Call (PySem.Expr.Name (Str.ofString "_law_days") _) _ [] _) _) _ _ _); k_dflt (refine Call_ ?_))
  k_with "eval Call" => (k_here; (with_reducible show wpAny _ _ (eval (PySem.Expr.Call (PySem.Expr.Name (Str.ofString "_law_week") _) _ [] _) _) _ _ _); k_dflt (refine Call_ ?_))
  k_with "eval Call" => (k_here; (with_reducible show wpAny _ _ (eval (PySem.Expr.Call (PySem.Expr.Name (Str.ofString "_law_read") _) _ [] _) _) _ _ _); k_dflt (refine Call_ ?_))
  k_with "subscriptTail Name Name ref int" => (k_here; (with_reducible show wpAny _ _ (subscriptTail _ _ (Value.ref 15) (Value.int _ _)) _ _ _); k_dflt (refine' tab_item dimT (by k_asm) (by k_asm) (by k_is) (by walk_at "mine pre") (by walk_at "mine pre") (by walk_at "mine twelve") (by with_unfolding_all rfl) ?_; k_whole); intro t9)
  k_with "subscriptTail Name Name ref int" => (k_here; (with_reducible show wpAny _ _ (subscriptTail _ _ (Value.ref 16) (Value.int _ _)) _ _ _); k_dflt (refine' tab_item dbmT (by k_asm) (by k_asm) (by k_is) (by walk_at "mine pre") (by walk_at "mine pre") (by walk_at "mine twelve") (by with_unfolding_all rfl) ?_; k_whole); intro t9)
  k_with "call ref" => (k_here; (with_reducible show wpAny _ _ (PySem.call (Value.ref 28) _) _ _ _); k_dflt (refine' c_leap (by k_asm) (by k_asm) (by k_asm) (by k_asm) (by k_asm) (by first | exact rfl | assumption) (by ktr_room) (by ktr_units) ?_; k_whole); intro t9 h9 tk9 F9 N9; (try dsimp only); (try k_fold))
  k_with "call ref" => (k_here; (with_reducible show wpAny _ _ (PySem.call (Value.ref 35) _) _ _ _); k_dflt (refine' c_dby (by k_asm) (by k_asm) (by k_asm) (by k_asm) (by k_asm) (by first | exact rfl | assumption) (by ktr_room) (by ktr_units) ?_; k_whole); intro t9 h9 tk9 F9 N9; (try dsimp only); (try k_fold))
  k_with "call ref" => (k_here; (with_reducible show wpAny _ _ (PySem.call (Value.ref 42) _) _ _ _); k_dflt (refine' c_dim (by k_asm) (by k_asm) (by k_asm) (by k_asm) (by k_asm) (by first | exact rfl | assumption) (by ktr_room) (by ktr_units) (by walk_at "mine pre") (by walk_at "mine pre") ?_; k_whole); intro t9 h9 tk9 F9 N9; (try dsimp only); (try k_fold))
  k_with "call ref" => (k_here; (with_reducible show wpAny _ _ (PySem.call (Value.ref 49) _) _ _ _); k_dflt (refine' c_dbm (by k_asm) (by k_asm) (by k_asm) (by k_asm) (by k_asm) (by first | exact rfl | assumption) (by ktr_room) (by ktr_units) (by walk_at "mine pre") (by walk_at "mine pre") ?_; k_whole); intro t9 h9 tk9 F9 N9; (try dsimp only); (try k_fold))
  k_with "call ref" => (k_here; (with_reducible show wpAny _ _ (PySem.call (Value.ref 56) _) _ _ _); k_dflt (refine' c_ord (by k_asm) (by k_asm) (by k_asm) (by k_asm) (by k_asm) (by first | exact rfl | assumption) (by ktr_room) (by ktr_units) (by walk_at "mine pre") (by walk_at "mine pre") (by walk_at "mine pre") (by walk_at "mine pre") ?_; k_whole); intro t9 h9 tk9 hv9 F9 N9; (try dsimp only); (try k_fold))
  k_with "mine pre" => first | with_reducible assumption | omega | with_reducible exact dim_one (by decide) (by decide) | l_fact
  k_with "call ref" => (k_here; (with_reducible show wpAny _ _ (PySem.call (Value.ref 94) _) _ _ _); k_dflt (refine' c_len (by k_asm) (by k_asm) (by k_asm) (by k_asm) (by k_asm) (by first | exact rfl | assumption) (by ktr_room) (by ktr_units) (by walk_at "mine pre") (by walk_at "mine pre") ?_; k_whole); intro t9 h9 tk9 F9 N9; (try dsimp only); (try k_fold))
  k_with "call ref" => (k_here; (with_reducible show wpAny _ _ (PySem.call (Value.ref 99) _) _ _ _); k_dflt (refine' c_days (by k_asm) (by k_asm) (by k_asm) (by k_asm) (by k_asm) (by first | exact rfl | assumption) (by ktr_room) (by ktr_units) ?_; k_whole); intro t9 h9 tk9 F9 N9; (try dsimp only); (try k_fold))
  k_with "compareOp Lt int int" => (k_here; k_dflt (first | refine lt_yes (by omega) ?_ | refine lt_no (by omega) ?_))
  k_with "compareOp LtE int int" => (k_here; k_dflt (first | refine le_yes (by omega) ?_ | refine le_no (by omega) ?_))
  k_with "compareOp Gt int int" => (k_here; k_dflt (first | refine gt_yes (by omega) ?_ | refine gt_no (by omega) ?_))
  k_with "compareOp Eq int int" => (k_here; k_dflt (first | refine eq_yes (by omega) ?_ | refine eq_no (by omega) ?_))
  k_with "mine pre" => first | with_reducible assumption | omega | with_reducible exact WInv.m1 (by assumption) | with_reducible exact WInv.m2 (by assumption) | l_fact
  k_with "binaryOp Mod int int" => (k_here; (with_reducible show wpAny _ _ (binaryOp _ (Value.int _ _) (Value.int 7 _)) _ _ _); k_dflt (refine mod_to fourth_is ?_); intro t9)
  w_strict (
    revert kK
    k_fill
    intro kK
    obtain ⟨g1, g2, g3, g4, g5⟩ := id ok
    obtain ⟨g6, g7⟩ := thursday.mpr ⟨g2, g3⟩
    refine wpAny_call ?_
    k_dflt cell_enter
    k_with "exec While Compare cons nil" => k_while_given ["year"] (fun yr script day month => WInv y k d yr day month) (fun yr script day month => (13 - month).toNat) "day" "month"
    k_with "measure" => (with_reducible exact winv_meas (by assumption))
    k_with "state" => (with_reducible first | exact winv_step (by assumption) (by assumption) | exact winv_a (by assumption) (by assumption) (by assumption) | exact winv_b (by assumption) (by assumption) | exact winv_c (by assumption) (by assumption))
    k_steps
    all_goals (obtain ⟨hv9, ho9⟩ := winv_end (by with_reducible assumption) (by with_reducible assumption); exact ret _ _ _ _ _ _ _ _ _ hv9 ho9 (by k_asm) (by k_asm) (allLt_of (by with_reducible assumption))))
theorem c_wk0 {w : World} {s₀ : Shared} {mg mb : Str → Option Value} {dp un : Nat} {gd : Option (List Code)} {cn : Str} {cs : Scope} {a : Addr} {ccd : Value} {cl : List (Str × Addr)} {outer : List Env} {A₀ : Around} {base h₀ : Heap} {L : Addr} {m : Str → Option Value} {news : List (Addr × Obj)} {s : Shared} {Q E : Value → Shared → Prop} {y : Int} {ty : Tok} {k : Int} {tk : Tok} {d : Int} {td : Tok}
    (kB : Below A₀ base outer h₀) (kF : Fr h₀ L s.heap m) (kK : (hd11.heap_39 w.params).In h₀) (kN : News h₀ L s.heap news) (kT : Top hd11.view_39 (looseW hd11.view_39 [Str.ofString "_DAYS_IN_MONTH", Str.ofString "_DAYS_BEFORE_MONTH", Str.ofString "_DI400Y", Str.ofString "_DI100Y", Str.ofString "_DI4Y"]) (ExcName.means s₀.heap) mg mb h₀) (kk : cs.kind = .function) (kd : dp + 10 < recursionLimit) (ku : un + 80 < cLine) (y0 : 0 ≤ y) (no : ¬ WeekOk y k d)
    (ret : ∀ (t : Tok) (h' : Heap) (tk' : Nat), Fr h₀ L h' m → News h₀ L h' news → Q (.str (Str.ofString "refused") t) { s with heap := h', toks := tk' }) :
    wpAny (model Challenge.rw_dn0120_11.row.prog w) (ktrTop dp un gd cn cs L a ccd cl outer) (call (.ref 106) [Value.int y ty, Value.int k tk, Value.int d td]) Q E s := by
  w_top off
  k_with_none
  k_with "mine pre" => first | with_reducible assumption | omega | l_fact
  k_with "mine twelve" => (intro k h1 h2; rcases m12 h1 h2 with h | h | h | h | h | h | h | h | h | h | h | h <;> (subst h; exact ⟨_, rfl⟩))
  k_with "mine lt" => first | with_reducible assumption | exact (by with_reducible assumption : _ ∧ AllLt _ _).2 | exact (by with_reducible assumption : _ ∧ _ ∧ AllLt _ _).2.2 | exact (by with_reducible assumption : _ ∧ _ ∧ _ ∧ AllLt _ _).2.2.2 | exact (by with_reducible assumption : _ ∧ _ ∧ _ ∧ _ ∧ AllLt _ _).2.2.2.2
  k_with "eval Call" => (k_here; (with_reducible show wpAny _ _ (eval (PySem.Expr.Call (PySem.Expr.Name (Str.ofString "_is_leap") _) _ [] _) _) _ _ _); k_dflt (refine Call_ ?_))
  k_with "eval Call" => (k_here; (with_reducible show wpAny _ _ (eval (PySem.Expr.Call (PySem.Expr.Name (Str.ofString "_days_before_year") _) _ [] _) _) _ _ _); k_dflt (refine Call_ ?_))
  k_with "eval Call" => (k_here; (with_reducible show wpAny _ _ (eval (PySem.Expr.Call (PySem.Expr.Name (Str.ofString "_days_in_month") _) _ [] _) _) _ _ _); k_dflt (refine Call_ ?_))
  k_with "eval Call" => (k_here; (with_reducible show wpAny _ _ (eval (PySem.Expr.Call (PySem.Expr.Name (Str.ofString "_days_before_month") _) _ [] _) _) _ _ _); k_dflt (refine Call_ ?_))
  k_with "eval Call" => (k_here; (with_reducible show wpAny _ _ (eval (PySem.Expr.Call (PySem.Expr.Name (Str.ofString "_ymd2ord") _) _ [] _) _) _ _ _); k_dflt (refine Call_ ?_))
  k_with "eval Call" => (k_here; (with_reducible show wpAny _ _ (eval (PySem.Expr.Call (PySem.Expr.Name (Str.ofString "_ord2ymd") _) _ [] _) _) _ _ _); k_dflt (refine Call_ ?_))
  k_with "eval Call" => (k_here; (with_reducible show wpAny _ _ (eval (PySem.Expr.Call (PySem.Expr.Name (Str.ofString "_parse_isoformat_date") _) _ [] _) _) _ _ _); k_dflt (refine Call_ ?_))
  k_with "eval Call" => (k_here; (with_reducible show wpAny _ _ (eval (PySem.Expr.Call (PySem.Expr.Name (Str.ofString "_isoweek_to_gregorian") _) _ [] _) _) _ _ _); k_dflt (refine Call_ ?_))
  k_with "eval Call" => (k_here; (with_reducible show wpAny _ _ (eval (PySem.Expr.Call (PySem.Expr.Name (Str.ofString "_isoweek1monday") _) _ [] _) _) _ _ _); k_dflt (refine Call_ ?_))
  k_with "eval Call" => (k_here; (with_reducible show wpAny _ _ (eval (PySem.Expr.Call (PySem.Expr.Name (Str.ofString "_law_length") _) _ [] _) _) _ _ _); k_dflt (refine Call_ ?_))
  k_with "eval Call" => (k_here; (with_reducible show wpAny _ _ (eval (PySem.Expr.Call (PySem.Expr.Name (Str.ofString "_law_days") _) _ [] _) _) _ _ _); k_dflt (refine Call_ ?_))
  k_with "eval Call" => (k_here; (with_reducible show wpAny _ _ (eval (PySem.Expr.Call (PySem.Expr.Name (Str.ofString "_law_week") _) _ [] _) _) _ _ _); k_dflt (refine Call_ ?_))
  k_with "eval Call" => (k_here; (with_reducible show wpAny _ _ (eval (PySem.Expr.Call (PySem.Expr.Name (Str.ofString "_law_read") _) _ [] _) _) _ _ _); k_dflt (refine Call_ ?_))
  k_with "subscriptTail Name Name ref int" => (k_here; (with_reducible show wpAny _ _ (subscriptTail _ _ (Value.ref 15) (Value.int _ _)) _ _ _); k_dflt (refine' tab_item dimT (by k_asm) (by k_asm) (by k_is) (by walk_at "mine pre") (by walk_at "mine pre") (by walk_at "mine twelve") (by with_unfolding_all rfl) ?_; k_whole); intro t9)
  k_with "subscriptTail Name Name ref int" => (k_here; (with_reducible show wpAny _ _ (subscriptTail _ _ (Value.ref 16) (Value.int _ _)) _ _ _); k_dflt (refine' tab_item dbmT (by k_asm) (by k_asm) (by k_is) (by walk_at "mine pre") (by walk_at "mine pre") (by walk_at "mine twelve") (by with_unfolding_all rfl) ?_; k_whole); intro t9)
  k_with "call ref" => (k_here; (with_reducible show wpAny _ _ (PySem.call (Value.ref 28) _) _ _ _); k_dflt (refine' c_leap (by k_asm) (by k_asm) (by k_asm) (by k_asm) (by k_asm) (by first | exact rfl | assumption) (by ktr_room) (by ktr_units) ?_; k_whole); intro t9 h9 tk9 F9 N9; (try dsimp only); (try k_fold))
  k_with "call ref" => (k_here; (with_reducible show wpAny _ _ (PySem.call (Value.ref 35) _) _ _ _); k_dflt (refine' c_dby (by k_asm) (by k_asm) (by k_asm) (by k_asm) (by k_asm) (by first | exact rfl | assumption) (by ktr_room) (by ktr_units) ?_; k_whole); intro t9 h9 tk9 F9 N9; (try dsimp only); (try k_fold))
  k_with "call ref" => (k_here; (with_reducible show wpAny _ _ (PySem.call (Value.ref 42) _) _ _ _); k_dflt (refine' c_dim (by k_asm) (by k_asm) (by k_asm) (by k_asm) (by k_asm) (by first | exact rfl | assumption) (by ktr_room) (by ktr_units) (by walk_at "mine pre") (by walk_at "mine pre") ?_; k_whole); intro t9 h9 tk9 F9 N9; (try dsimp only); (try k_fold))
  k_with "call ref" => (k_here; (with_reducible show wpAny _ _ (PySem.call (Value.ref 49) _) _ _ _); k_dflt (refine' c_dbm (by k_asm) (by k_asm) (by k_asm) (by k_asm) (by k_asm) (by first | exact rfl | assumption) (by ktr_room) (by ktr_units) (by walk_at "mine pre") (by walk_at "mine pre") ?_; k_whole); intro t9 h9 tk9 F9 N9; (try dsimp only); (try k_fold))
  k_with "call ref" => (k_here; (with_reducible show wpAny _ _ (PySem.call (Value.ref 56) _) _ _ _); k_dflt (refine' c_ord (by k_asm) (by k_asm) (by k_asm) (by k_asm) (by k_asm) (by first | exact rfl | assumption) (by ktr_room) (by ktr_units) (by walk_at "mine pre") (by walk_at "mine pre") (by walk_at "mine pre") (by walk_at "mine pre") ?_; k_whole); intro t9 h9 tk9 hv9 F9 N9; (try dsimp only); (try k_fold))
  k_with "mine pre" => first | with_reducible assumption | omega | with_reducible exact dim_one (by decide) (by decide) | l_fact
  k_with "call ref" => (k_here; (with_reducible show wpAny _ _ (PySem.call (Value.ref 94) _) _ _ _); k_dflt (refine' c_len (by k_asm) (by k_asm) (by k_asm) (by k_asm) (by k_asm) (by first | exact rfl | assumption) (by ktr_room) (by ktr_units) (by walk_at "mine pre") (by walk_at "mine pre") ?_; k_whole); intro t9 h9 tk9 F9 N9; (try dsimp only); (try k_fold))
  k_with "call ref" => (k_here; (with_reducible show wpAny _ _ (PySem.call (Value.ref 99) _) _ _ _); k_dflt (refine' c_days (by k_asm) (by k_asm) (by k_asm) (by k_asm) (by k_asm) (by first | exact rfl | assumption) (by ktr_room) (by ktr_units) ?_; k_whole); intro t9 h9 tk9 F9 N9; (try dsimp only); (try k_fold))
  k_with "compareOp Lt int int" => (k_here; k_dflt (first | refine lt_yes (by omega) ?_ | refine lt_no (by omega) ?_))
  k_with "compareOp LtE int int" => (k_here; k_dflt (first | refine le_yes (by omega) ?_ | refine le_no (by omega) ?_))
  k_with "compareOp Gt int int" => (k_here; k_dflt (first | refine gt_yes (by omega) ?_ | refine gt_no (by omega) ?_))
  k_with "compareOp Eq int int" => (k_here; k_dflt (first | refine eq_yes (by omega) ?_ | refine eq_no (by omega) ?_))
  k_with "mine pre" => first | with_reducible assumption | omega | with_reducible exact WInv.m1 (by assumption) | with_reducible exact WInv.m2 (by assumption) | l_fact
  k_with "binaryOp Mod int int" => (k_here; (with_reducible show wpAny _ _ (binaryOp _ (Value.int _ _) (Value.int 7 _)) _ _ _); k_dflt (refine mod_to fourth_is ?_); intro t9)
  w_strict (
    revert kK
    k_fill
    intro kK
    rcases week_no no y0 with hc | ⟨hc, hd⟩ | ⟨hc, hd, he⟩ | ⟨hc, hd, he, hf⟩ | ⟨hc, hd, he, hf⟩ <;> (
      refine wpAny_call ?_
      k_dflt cell_enter
      k_steps
      all_goals (exact ret _ _ _ (by k_asm) (by k_asm))))
end
section
theorem c_mon {w : World} {s₀ : Shared} {mg mb : Str → Option Value} {dp un : Nat} {gd : Option (List Code)} {cn : Str} {cs : Scope} {a : Addr} {ccd : Value} {cl : List (Str × Addr)} {outer : List Env} {A₀ : Around} {base h₀ : Heap} {L : Addr} {m : Str → Option Value} {news : List (Addr × Obj)} {s : Shared} {Q E : Value → Shared → Prop} {y : Int} {ty : Tok}
    (kB : Below A₀ base outer h₀) (kF : Fr h₀ L s.heap m) (kK : (hd11.heap_39 w.params).In h₀) (kN : News h₀ L s.heap news) (kT : Top hd11.view_39 (looseW hd11.view_39 [Str.ofString "_DAYS_IN_MONTH", Str.ofString "_DAYS_BEFORE_MONTH", Str.ofString "_DI400Y", Str.ofString "_DI100Y", Str.ofString "_DI4Y"]) (ExcName.means s₀.heap) mg mb h₀) (kk : cs.kind = .function) (kd : dp + 7 < recursionLimit) (ku : un + 56 < cLine) 
    (ret : ∀ (t : Tok) (h' : Heap) (tk' : Nat), Fr h₀ L h' m → News h₀ L h' news → Q (.int (mon y) t) { s with heap := h', toks := tk' }) :
    wpAny (model Challenge.rw_dn0120_11.row.prog w) (ktrTop dp un gd cn cs L a ccd cl outer) (call (.ref 87) [Value.int y ty]) Q E s := by
  w_top off
  k_with_none
  k_with "mine pre" => first | with_reducible assumption | omega | l_fact
  k_with "mine twelve" => (intro k h1 h2; rcases m12 h1 h2 with h | h | h | h | h | h | h | h | h | h | h | h <;> (subst h; exact ⟨_, rfl⟩))
  k_with "mine lt" => first | with_reducible assumption | exact (by with_reducible assumption : _ ∧ AllLt _ _).2 | exact (by with_reducible assumption : _ ∧ _ ∧ AllLt _ _).2.2 | exact (by with_reducible assumption : _ ∧ _ ∧ _ ∧ AllLt _ _).2.2.2 | exact (by with_reducible assumption : _ ∧ _ ∧ _ ∧ _ ∧ AllLt _ _).2.2.2.2
  k_with "eval Call" => (k_here; (with_reducible show wpAny _ _ (eval (PySem.Expr.Call (PySem.Expr.Name (Str.ofString "_is_leap") _) _ [] _) _) _ _ _); k_dflt (refine Call_ ?_))
  k_with "eval Call" => (k_here; (with_reducible show wpAny _ _ (eval (PySem.Expr.Call (PySem.Expr.Name (Str.ofString "_days_before_year") _) _ [] _) _) _ _ _); k_dflt (refine Call_ ?_))
  k_with "eval Call" => (k_here; (with_reducible show wpAny _ _ (eval (PySem.Expr.Call (PySem.Expr.Name (Str.ofString "_days_in_month") _) _ [] _) _) _ _ _); k_dflt (refine Call_ ?_))
  k_with "eval Call" => (k_here; (with_reducible show wpAny _ _ (eval (PySem.Expr.Call (PySem.Expr.Name (Str.ofString "_days_before_month") _) _ [] _) _) _ _ _); k_dflt (refine Call_ ?_))
  k_with "eval Call" => (k_here; (with_reducible show wpAny _ _ (eval (PySem.Expr.Call (PySem.Expr.Name (Str.ofString "_ymd2ord") _) _ [] _) _) _ _ _); k_dflt (refine Call_ ?_))
  k_with "eval Call" => (k_here; (with_reducible show wpAny _ _ (eval (PySem.Expr.Call (PySem.Expr.Name (Str.ofString "_ord2ymd") _) _ [] _) _) _ _ _); k_dflt (refine Call_ ?_))
  k_with "eval Call" => (k_here; (with_reducible show wpAny _ _ (eval (PySem.Expr.Call (PySem.Expr.Name (Str.ofString "_parse_isoformat_date") _) _ [] _) _) _ _ _); k_dflt (refine Call_ ?_))
  k_with "eval Call" => (k_here; (with_reducible show wpAny _ _ (eval (PySem.Expr.Call (PySem.Expr.Name (Str.ofString "_isoweek_to_gregorian") _) _ [] _) _) _ _ _); k_dflt (refine Call_ ?_))
  k_with "eval Call" => (k_here; (with_reducible show wpAny _ _ (eval (PySem.Expr.Call (PySem.Expr.Name (Str.ofString "_isoweek1monday") _) _ [] _) _) _ _ _); k_dflt (refine Call_ ?_))
  k_with "eval Call" => (k_here; (with_reducible show wpAny _ _ (eval (PySem.Expr.Call (PySem.Expr.Name (Str.ofString "_law_length") _) _ [] _) _) _ _ _); k_dflt (refine Call_ ?_))
  k_with "eval Call" => (k_here; (with_reducible show wpAny _ _ (eval (PySem.Expr.Call (PySem.Expr.Name (Str.ofString "_law_days") _) _ [] _) _) _ _ _); k_dflt (refine Call_ ?_))
  k_with "eval Call" => (k_here; (with_reducible show wpAny _ _ (eval (PySem.Expr.Call (PySem.Expr.Name (Str.ofString "_law_week") _) _ [] _) _) _ _ _); k_dflt (refine Call_ ?_))
  k_with "eval Call" => (k_here; (with_reducible show wpAny _ _ (eval (PySem.Expr.Call (PySem.Expr.Name (Str.ofString "_law_read") _) _ [] _) _) _ _ _); k_dflt (refine Call_ ?_))
  k_with "subscriptTail Name Name ref int" => (k_here; (with_reducible show wpAny _ _ (subscriptTail _ _ (Value.ref 15) (Value.int _ _)) _ _ _); k_dflt (refine' tab_item dimT (by k_asm) (by k_asm) (by k_is) (by walk_at "mine pre") (by walk_at "mine pre") (by walk_at "mine twelve") (by with_unfolding_all rfl) ?_; k_whole); intro t9)
  k_with "subscriptTail Name Name ref int" => (k_here; (with_reducible show wpAny _ _ (subscriptTail _ _ (Value.ref 16) (Value.int _ _)) _ _ _); k_dflt (refine' tab_item dbmT (by k_asm) (by k_asm) (by k_is) (by walk_at "mine pre") (by walk_at "mine pre") (by walk_at "mine twelve") (by with_unfolding_all rfl) ?_; k_whole); intro t9)
  k_with "call ref" => (k_here; (with_reducible show wpAny _ _ (PySem.call (Value.ref 28) _) _ _ _); k_dflt (refine' c_leap (by k_asm) (by k_asm) (by k_asm) (by k_asm) (by k_asm) (by first | exact rfl | assumption) (by ktr_room) (by ktr_units) ?_; k_whole); intro t9 h9 tk9 F9 N9; (try dsimp only); (try k_fold))
  k_with "call ref" => (k_here; (with_reducible show wpAny _ _ (PySem.call (Value.ref 35) _) _ _ _); k_dflt (refine' c_dby (by k_asm) (by k_asm) (by k_asm) (by k_asm) (by k_asm) (by first | exact rfl | assumption) (by ktr_room) (by ktr_units) ?_; k_whole); intro t9 h9 tk9 F9 N9; (try dsimp only); (try k_fold))
  k_with "call ref" => (k_here; (with_reducible show wpAny _ _ (PySem.call (Value.ref 42) _) _ _ _); k_dflt (refine' c_dim (by k_asm) (by k_asm) (by k_asm) (by k_asm) (by k_asm) (by first | exact rfl | assumption) (by ktr_room) (by ktr_units) (by walk_at "mine pre") (by walk_at "mine pre") ?_; k_whole); intro t9 h9 tk9 F9 N9; (try dsimp only); (try k_fold))
  k_with "call ref" => (k_here; (with_reducible show wpAny _ _ (PySem.call (Value.ref 49) _) _ _ _); k_dflt (refine' c_dbm (by k_asm) (by k_asm) (by k_asm) (by k_asm) (by k_asm) (by first | exact rfl | assumption) (by ktr_room) (by ktr_units) (by walk_at "mine pre") (by walk_at "mine pre") ?_; k_whole); intro t9 h9 tk9 F9 N9; (try dsimp only); (try k_fold))
  k_with "call ref" => (k_here; (with_reducible show wpAny _ _ (PySem.call (Value.ref 56) _) _ _ _); k_dflt (refine' c_ord (by k_asm) (by k_asm) (by k_asm) (by k_asm) (by k_asm) (by first | exact rfl | assumption) (by ktr_room) (by ktr_units) (by walk_at "mine pre") (by walk_at "mine pre") (by walk_at "mine pre") (by walk_at "mine pre") ?_; k_whole); intro t9 h9 tk9 hv9 F9 N9; (try dsimp only); (try k_fold))
  k_with "mine pre" => first | with_reducible assumption | omega | with_reducible exact dim_one (by decide) (by decide) | l_fact
  k_with "call ref" => (k_here; (with_reducible show wpAny _ _ (PySem.call (Value.ref 94) _) _ _ _); k_dflt (refine' c_len (by k_asm) (by k_asm) (by k_asm) (by k_asm) (by k_asm) (by first | exact rfl | assumption) (by ktr_room) (by ktr_units) (by walk_at "mine pre") (by walk_at "mine pre") ?_; k_whole); intro t9 h9 tk9 F9 N9; (try dsimp only); (try k_fold))
  k_with "call ref" => (k_here; (with_reducible show wpAny _ _ (PySem.call (Value.ref 99) _) _ _ _); k_dflt (refine' c_days (by k_asm) (by k_asm) (by k_asm) (by k_asm) (by k_asm) (by first | exact rfl | assumption) (by ktr_room) (by ktr_units) ?_; k_whole); intro t9 h9 tk9 F9 N9; (try dsimp only); (try k_fold))
  w_strict (
    revert kK
    k_fill
    intro kK
    refine wpAny_call ?_
    k_dflt cell_enter
    k_steps
    k_with "tree" => (with_reducible first | exact w_mon1 (by assumption) | exact w_mon2 (by assumption))
    all_goals cb_end ret)
theorem c_isoB {w : World} {s₀ : Shared} {mg mb : Str → Option Value} {dp un : Nat} {gd : Option (List Code)} {cn : Str} {cs : Scope} {a : Addr} {ccd : Value} {cl : List (Str × Addr)} {outer : List Env} {A₀ : Around} {base h₀ : Heap} {L : Addr} {m : Str → Option Value} {news : List (Addr × Obj)} {s : Shared} {Q E : Value → Shared → Prop} {y : Int} {ty : Tok} {k : Int} {tk : Tok} {d : Int} {td : Tok}
    (kB : Below A₀ base outer h₀) (kF : Fr h₀ L s.heap m) (kK : (hd11.heap_39 w.params).In h₀) (kN : News h₀ L s.heap news) (kT : Top hd11.view_39 (looseW hd11.view_39 [Str.ofString "_DAYS_IN_MONTH", Str.ofString "_DAYS_BEFORE_MONTH", Str.ofString "_DI400Y", Str.ofString "_DI100Y", Str.ofString "_DI4Y"]) (ExcName.means s₀.heap) mg mb h₀) (kk : cs.kind = .function) (kd : dp + 10 < recursionLimit) (ku : un + 80 < cLine) (a1 : 0 ≤ y) (a2 : y ≤ 9999) (b1 : 0 ≤ k) (b2 : k ≤ 99) (c1 : 0 ≤ d) (c2 : d ≤ 9)
    (ret1 : WeekOk y k d → ∀ (D : Addr) (yy mm dd : Int) (t1 t2 t3 : Tok) (h' : Heap) (tk' : Nat), Valid yy mm dd → ord yy mm dd = num y k d → Fr h₀ L h' m → News h₀ L h' ((D, ({ cls := .type "tuple", data := .seq #[.int yy t1, .int mm t2, .int dd t3] } : Obj)) :: news) → AllLt D news → Q (.ref D) { s with heap := h', toks := tk' })
    (ret0 : ¬ WeekOk y k d → ∀ (g' h' : Heap) (e t : Addr) (vs : List Value) (tk' : Nat), Fr h₀ L g' m → RaisedS base g' (envX cn cs L a ccd cl :: outer) e (.type "ValueError") t vs news h' → g'.UpToSlots h' → E (.ref e) { s with heap := h', toks := tk' }) :
    wpAny (model Challenge.rw_dn0120_11.row.prog w) (ktrTop dp un gd cn cs L a ccd cl outer) (call (.ref 80) [Value.int y ty, Value.int k tk, Value.int d td]) Q E s := by
  w_top off
  k_with_none
  k_with "mine pre" => first | with_reducible assumption | omega | l_fact
  k_with "mine twelve" => (intro k h1 h2; rcases m12 h1 h2 with h | h | h | h | h | h | h | h | h | h | h | h <;> (subst h; exact ⟨_, rfl⟩))
  k_with "mine lt" => first | with_reducible assumption | exact (by with_reducible assumption : _ ∧ AllLt _ _).2 | exact (by with_reducible assumption : _ ∧ _ ∧ AllLt _ _).2.2 | exact (by with_reducible assumption : _ ∧ _ ∧ _ ∧ AllLt _ _).2.2.2 | exact (by with_reducible assumption : _ ∧ _ ∧ _ ∧ _ ∧ AllLt _ _).2.2.2.2
  k_with "eval Call" => (k_here; (with_reducible show wpAny _ _ (eval (PySem.Expr.Call (PySem.Expr.Name (Str.ofString "_is_leap") _) _ [] _) _) _ _ _); k_dflt (refine Call_ ?_))
  k_with "eval Call" => (k_here; (with_reducible show wpAny _ _ (eval (PySem.Expr.Call (PySem.Expr.Name (Str.ofString "_days_before_year") _) _ [] _) _) _ _ _); k_dflt (refine Call_ ?_))
  k_with "eval Call" => (k_here; (with_reducible show wpAny _ _ (eval (PySem.Expr.Call (PySem.Expr.Name (Str.ofString "_days_in_month") _) _ [] _) _) _ _ _); k_dflt (refine Call_ ?_))
  k_with "eval Call" => (k_here; (with_reducible show wpAny _ _ (eval (PySem.Expr.Call (PySem.Expr.Name (Str.ofString "_days_before_month") _) _ [] _) _) _ _ _); k_dflt (refine Call_ ?_))
  k_with "eval Call" => (k_here; (with_reducible show wpAny _ _ (eval (PySem.Expr.Call (PySem.Expr.Name (Str.ofString "_ymd2ord") _) _ [] _) _) _ _ _); k_dflt (refine Call_ ?_))
  k_with "eval Call" => (k_here; (with_reducible show wpAny _ _ (eval (PySem.Expr.Call (PySem.Expr.Name (Str.ofString "_ord2ymd") _) _ [] _) _) _ _ _); k_dflt (refine Call_ ?_))
  k_with "eval Call" => (k_here; (with_reducible show wpAny _ _ (eval (PySem.Expr.Call (PySem.Expr.Name (Str.ofString "_parse_isoformat_date") _) _ [] _) _) _ _ _); k_dflt (refine Call_ ?_))
  k_with "eval Call" => (k_here; (with_reducible show wpAny _ _ (eval (PySem.Expr.Call (PySem.Expr.Name (Str.ofString "_isoweek_to_gregorian") _) _ [] _) _) _ _ _); k_dflt (refine Call_ ?_))
  k_with "eval Call" => (k_here; (with_reducible show wpAny _ _ (eval (PySem.Expr.Call (PySem.Expr.Name (Str.ofString "_isoweek1monday") _) _ [] _) _) _ _ _); k_dflt (refine Call_ ?_))
  k_with "eval Call" => (k_here; (with_reducible show wpAny _ _ (eval (PySem.Expr.Call (PySem.Expr.Name (Str.ofString "_law_length") _) _ [] _) _) _ _ _); k_dflt (refine Call_ ?_))
  k_with "eval Call" => (k_here; (with_reducible show wpAny _ _ (eval (PySem.Expr.Call (PySem.Expr.Name (Str.ofString "_law_days") _) _ [] _) _) _ _ _); k_dflt (refine Call_ ?_))
  k_with "eval Call" => (k_here; (with_reducible show wpAny _ _ (eval (PySem.Expr.Call (PySem.Expr.Name (Str.ofString "_law_week") _) _ [] _) _) _ _ _); k_dflt (refine Call_ ?_))
  k_with "eval Call" => (k_here; (with_reducible show wpAny _ _ (eval (PySem.Expr.Call (PySem.Expr.Name (Str.ofString "_law_read") _) _ [] _) _) _ _ _); k_dflt (refine Call_ ?_))
  k_with "subscriptTail Name Name ref int" => (k_here; (with_reducible show wpAny _ _ (subscriptTail _ _ (Value.ref 15) (Value.int _ _)) _ _ _); k_dflt (refine' tab_item dimT (by k_asm) (by k_asm) (by k_is) (by walk_at "mine pre") (by walk_at "mine pre") (by walk_at "mine twelve") (by with_unfolding_all rfl) ?_; k_whole); intro t9)
  k_with "subscriptTail Name Name ref int" => (k_here; (with_reducible show wpAny _ _ (subscriptTail _ _ (Value.ref 16) (Value.int _ _)) _ _ _); k_dflt (refine' tab_item dbmT (by k_asm) (by k_asm) (by k_is) (by walk_at "mine pre") (by walk_at "mine pre") (by walk_at "mine twelve") (by with_unfolding_all rfl) ?_; k_whole); intro t9)
  k_with "call ref" => (k_here; (with_reducible show wpAny _ _ (PySem.call (Value.ref 28) _) _ _ _); k_dflt (refine' c_leap (by k_asm) (by k_asm) (by k_asm) (by k_asm) (by k_asm) (by first | exact rfl | assumption) (by ktr_room) (by ktr_units) ?_; k_whole); intro t9 h9 tk9 F9 N9; (try dsimp only); (try k_fold))
  k_with "call ref" => (k_here; (with_reducible show wpAny _ _ (PySem.call (Value.ref 35) _) _ _ _); k_dflt (refine' c_dby (by k_asm) (by k_asm) (by k_asm) (by k_asm) (by k_asm) (by first | exact rfl | assumption) (by ktr_room) (by ktr_units) ?_; k_whole); intro t9 h9 tk9 F9 N9; (try dsimp only); (try k_fold))
  k_with "call ref" => (k_here; (with_reducible show wpAny _ _ (PySem.call (Value.ref 42) _) _ _ _); k_dflt (refine' c_dim (by k_asm) (by k_asm) (by k_asm) (by k_asm) (by k_asm) (by first | exact rfl | assumption) (by ktr_room) (by ktr_units) (by walk_at "mine pre") (by walk_at "mine pre") ?_; k_whole); intro t9 h9 tk9 F9 N9; (try dsimp only); (try k_fold))
  k_with "call ref" => (k_here; (with_reducible show wpAny _ _ (PySem.call (Value.ref 49) _) _ _ _); k_dflt (refine' c_dbm (by k_asm) (by k_asm) (by k_asm) (by k_asm) (by k_asm) (by first | exact rfl | assumption) (by ktr_room) (by ktr_units) (by walk_at "mine pre") (by walk_at "mine pre") ?_; k_whole); intro t9 h9 tk9 F9 N9; (try dsimp only); (try k_fold))
  k_with "call ref" => (k_here; (with_reducible show wpAny _ _ (PySem.call (Value.ref 56) _) _ _ _); k_dflt (refine' c_ord (by k_asm) (by k_asm) (by k_asm) (by k_asm) (by k_asm) (by first | exact rfl | assumption) (by ktr_room) (by ktr_units) (by walk_at "mine pre") (by walk_at "mine pre") (by walk_at "mine pre") (by walk_at "mine pre") ?_; k_whole); intro t9 h9 tk9 hv9 F9 N9; (try dsimp only); (try k_fold))
  k_with "mine pre" => first | with_reducible assumption | omega | with_reducible exact dim_one (by decide) (by decide) | l_fact
  k_with "call ref" => (k_here; (with_reducible show wpAny _ _ (PySem.call (Value.ref 94) _) _ _ _); k_dflt (refine' c_len (by k_asm) (by k_asm) (by k_asm) (by k_asm) (by k_asm) (by first | exact rfl | assumption) (by ktr_room) (by ktr_units) (by walk_at "mine pre") (by walk_at "mine pre") ?_; k_whole); intro t9 h9 tk9 F9 N9; (try dsimp only); (try k_fold))
  k_with "call ref" => (k_here; (with_reducible show wpAny _ _ (PySem.call (Value.ref 99) _) _ _ _); k_dflt (refine' c_days (by k_asm) (by k_asm) (by k_asm) (by k_asm) (by k_asm) (by first | exact rfl | assumption) (by ktr_room) (by ktr_units) ?_; k_whole); intro t9 h9 tk9 F9 N9; (try dsimp only); (try k_fold))
  k_with "call ref" => (k_here; (with_reducible show wpAny _ _ (PySem.call (Value.ref 87) _) _ _ _); k_dflt (refine' c_mon (by k_asm) (by k_asm) (by k_asm) (by k_asm) (by k_asm) (by first | exact rfl | assumption) (by ktr_room) (by ktr_units) ?_; k_whole); intro t9 h9 tk9 F9 N9; (try dsimp only); (try k_fold))
  k_with "call ref" => (k_here; (with_reducible show wpAny _ _ (PySem.call (Value.ref 66) _) _ _ _); k_dflt (refine' c_o2y (by k_asm) (by k_asm) (by k_asm) (by k_asm) (by k_asm) (by first | exact rfl | assumption) (by ktr_room) (by ktr_units) ?_; k_whole); intro D9 yy9 mm9 dd9 t7 t8 t9 h9 tk9 hV9 hO9 F9 N9 l9; (try simp only [AllLt, and_true] at l9); (try dsimp only); (try k_fold))
  k_with "compareOp Lt int int" => (k_here; k_dflt (first | refine lt_yes (by omega) ?_ | refine lt_no (by omega) ?_))
  k_with "compareOp LtE int int" => (k_here; k_dflt (first | refine le_yes (by omega) ?_ | refine le_no (by omega) ?_))
  k_with "compareOp Gt int int" => (k_here; k_dflt (first | refine gt_yes (by omega) ?_ | refine gt_no (by omega) ?_))
  k_with "compareOp Eq int int" => (k_here; k_dflt (first | refine eq_yes (by omega) ?_ | refine eq_no (by omega) ?_))
  k_with "joinParts" => (k_here; (with_reducible show wpAny _ _ (joinParts (_ ++ Str.ofString (toString _) ++ _) (evalEach [] _)) _ _ _); refine join_fs (fs2 (by omega) (by omega)) ?_)
  k_with "joinParts" => (k_here; (with_reducible show wpAny _ _ (joinParts (_ ++ Str.ofString (toString _)) (evalEach [] _)) _ _ _); refine join_fs (fs1 (by omega) (by omega)) ?_)
  k_with "execs cons" => (k_here; (with_reducible show wpAny _ _ (execs (PySem.Stmt.If (PySem.Expr.UnaryOp _ (PySem.Expr.Compare _ _ (PySem.Expr.Name (Str.ofString "week") _ :: _) _) _) _ _ _ :: _ :: _) _) _ _ _); k_dflt (refine' cut_week (by k_asm) (by k_asm) (by with_unfolding_all rfl) (by with_unfolding_all rfl) (by with_unfolding_all rfl) ?_ ?_); rotate_left; (intro hp9 m9 h9 tk9 F9 N9; (obtain ⟨hp8, hp7⟩ := hp9); (try dsimp only); (try k_fold)); rotate_left)
  k_with "CutV" => exact CutV.intro (by k_asm) (by k_asm) (by with_unfolding_all rfl) (by with_unfolding_all rfl) (by with_unfolding_all rfl) (by with_reducible first | exact wk_ok1 (by assumption) (by assumption) | exact wk_ok2 (by assumption) (by assumption) | exact wk_ok3 (by assumption) (by assumption) (by assumption))
  w_strict (
    revert kK
    k_fill
    intro kK
    have kD9 : KtsDicts [] h₀ := ktsDicts_nil
    refine wpAny_call ?_
    k_dflt (refine' code_def ?k1 ?k2 ?k3 ?k4 ?k5 ?kA ?kF ?kK ?k6 ?k7 ?k8 ?k9 ?kB ?_ ?c2 ?c3 ?c4 ?c5; (case kA => exact rfl); (case kF => exact rfl); (case kK => first | exact rfl | assumption); (case k1 => k_asm); (case k2 => k_asm); (case k3 => k_asm); (case k4 => k_asm); (case k5 => k_asm); (case k6 => k_is); (case k7 => k_is); (case k8 => ktr_room); (case k9 => exact BindsTo.of_eq rfl); (case c5 => decide); (case kB => exact locs rfl); (case c2 => exact rfl); (case c3 => exact rfl); (case c4 => exact rfl); k_whole; intro g' L' h' FG' F' N' B' X' T'; (try dsimp only); (try k_lift B'); (try k_fold))
    k_steps
    all_goals (first | exact ret0 (by first | exact no_year (by with_reducible assumption) | exact no_wk0 (by with_reducible assumption) | exact no_wk54 (by with_reducible assumption) (by with_reducible assumption) | exact no_wk53a (by with_reducible assumption) (by with_reducible assumption) (by with_reducible assumption) | exact no_wk53b (by with_reducible assumption) (by with_reducible assumption) (by with_reducible assumption) | exact no_day0 (by with_reducible assumption) | exact no_day8 (by with_reducible assumption)) _ _ _ _ _ _ (by assumption) (by assumption) (by assumption) | exact ret1 (wk_is (by with_reducible assumption) (by with_reducible assumption) (by with_reducible assumption) (by with_reducible assumption) (by with_reducible assumption)) _ _ _ _ _ _ _ _ _ (by with_reducible assumption) (num_eq (by with_reducible assumption)) (by k_asm) (by k_asm) (by with_reducible assumption)))
end
section
theorem c_pa0 {w : World} {s₀ : Shared} {mg mb : Str → Option Value} {dp un : Nat} {gd : Option (List Code)} {cn : Str} {cs : Scope} {a : Addr} {ccd : Value} {cl : List (Str × Addr)} {outer : List Env} {A₀ : Around} {base h₀ : Heap} {L : Addr} {m : Str → Option Value} {news : List (Addr × Obj)} {s : Shared} {Q E : Value → Shared → Prop} {x : Str} {tx : Tok}
    (kB : Below A₀ base outer h₀) (kF : Fr h₀ L s.heap m) (kK : (hd11.heap_39 w.params).In h₀) (kN : News h₀ L s.heap news) (kT : Top hd11.view_39 (looseW hd11.view_39 [Str.ofString "_DAYS_IN_MONTH", Str.ofString "_DAYS_BEFORE_MONTH", Str.ofString "_DI400Y", Str.ofString "_DI100Y", Str.ofString "_DI4Y"]) (ExcName.means s₀.heap) mg mb h₀) (kk : cs.kind = .function) (kd : dp + 14 < recursionLimit) (ku : un + 112 < cLine) (n7 : x.length ≠ 7) (n8 : x.length ≠ 8) (n10 : x.length ≠ 10) (xl : x.length ≤ 20)
    (ret : ∀ (g' h' : Heap) (e t : Addr) (vs : List Value) (tk' : Nat), Fr h₀ L g' m → RaisedS base g' (envX cn cs L a ccd cl :: outer) e (.type "ValueError") t vs news h' → g'.UpToSlots h' → E (.ref e) { s with heap := h', toks := tk' }) :
    wpAny (model Challenge.rw_dn0120_11.row.prog w) (ktrTop dp un gd cn cs L a ccd cl outer) (call (.ref 73) [Value.str x tx]) Q E s := by
  w_top off
  k_with_none
  k_with "mine pre" => first | with_reducible assumption | omega | l_fact
  k_with "mine twelve" => (intro k h1 h2; rcases m12 h1 h2 with h | h | h | h | h | h | h | h | h | h | h | h <;> (subst h; exact ⟨_, rfl⟩))
  k_with "mine lt" => first | with_reducible assumption | exact (by with_reducible assumption : _ ∧ AllLt _ _).2 | exact (by with_reducible assumption : _ ∧ _ ∧ AllLt _ _).2.2 | exact (by with_reducible assumption : _ ∧ _ ∧ _ ∧ AllLt _ _).2.2.2 | exact (by with_reducible assumption : _ ∧ _ ∧ _ ∧ _ ∧ AllLt _ _).2.2.2.2
  k_with "eval Call" => (k_here; (with_reducible show wpAny _ _ (eval (PySem.Expr.Call (PySem.Expr.Name (Str.ofString "_is_leap") _) _ [] _) _) _ _ _); k_dflt (refine Call_ ?_))
  k_with "eval Call" => (k_here; (with_reducible show wpAny _ _ (eval (PySem.Expr.Call (PySem.Expr.Name (Str.ofString "_days_before_year") _) _ [] _) _) _ _ _); k_dflt (refine Call_ ?_))
  k_with "eval Call" => (k_here; (with_reducible show wpAny _ _ (eval (PySem.Expr.Call (PySem.Expr.Name (Str.ofString "_days_in_month") _) _ [] _) _) _ _ _); k_dflt (refine Call_ ?_))
  k_with "eval Call" => (k_here; (with_reducible show wpAny _ _ (eval (PySem.Expr.Call (PySem.Expr.Name (Str.ofString "_days_before_month") _) _ [] _) _) _ _ _); k_dflt (refine Call_ ?_))
  k_with "eval Call" => (k_here; (with_reducible show wpAny _ _ (eval (PySem.Expr.Call (PySem.Expr.Name (Str.ofString "_ymd2ord") _) _ [] _) _) _ _ _); k_dflt (refine Call_ ?_))
  k_with "eval Call" => (k_here; (with_reducible show wpAny _ _ (eval (PySem.Expr.Call (PySem.Expr.Name (Str.ofString "_ord2ymd") _) _ [] _) _) _ _ _); k_dflt (refine Call_ ?_))
  k_with "eval Call" => (k_here; (with_reducible show wpAny _ _ (eval (PySem.Expr.Call (PySem.Expr.Name (Str.ofString "_parse_isoformat_date") _) _ [] _) _) _ _ _); k_dflt (refine Call_ ?_))
  k_with "eval Call" => (k_here; (with_reducible show wpAny _ _ (eval (PySem.Expr.Call (PySem.Expr.Name (Str.ofString "_isoweek_to_gregorian") _) _ [] _) _) _ _ _); k_dflt (refine Call_ ?_))
  k_with "eval Call" => (k_here; (with_reducible show wpAny _ _ (eval (PySem.Expr.Call (PySem.Expr.Name (Str.ofString "_isoweek1monday") _) _ [] _) _) _ _ _); k_dflt (refine Call_ ?_))
  k_with "eval Call" => (k_here; (with_reducible show wpAny _ _ (eval (PySem.Expr.Call (PySem.Expr.Name (Str.ofString "_law_length") _) _ [] _) _) _ _ _); k_dflt (refine Call_ ?_))
  k_with "eval Call" => (k_here; (with_reducible show wpAny _ _ (eval (PySem.Expr.Call (PySem.Expr.Name (Str.ofString "_law_days") _) _ [] _) _) _ _ _); k_dflt (refine Call_ ?_))
  k_with "eval Call" => (k_here; (with_reducible show wpAny _ _ (eval (PySem.Expr.Call (PySem.Expr.Name (Str.ofString "_law_week") _) _ [] _) _) _ _ _); k_dflt (refine Call_ ?_))
  k_with "eval Call" => (k_here; (with_reducible show wpAny _ _ (eval (PySem.Expr.Call (PySem.Expr.Name (Str.ofString "_law_read") _) _ [] _) _) _ _ _); k_dflt (refine Call_ ?_))
  k_with "subscriptTail Name Name ref int" => (k_here; (with_reducible show wpAny _ _ (subscriptTail _ _ (Value.ref 15) (Value.int _ _)) _ _ _); k_dflt (refine' tab_item dimT (by k_asm) (by k_asm) (by k_is) (by walk_at "mine pre") (by walk_at "mine pre") (by walk_at "mine twelve") (by with_unfolding_all rfl) ?_; k_whole); intro t9)
  k_with "subscriptTail Name Name ref int" => (k_here; (with_reducible show wpAny _ _ (subscriptTail _ _ (Value.ref 16) (Value.int _ _)) _ _ _); k_dflt (refine' tab_item dbmT (by k_asm) (by k_asm) (by k_is) (by walk_at "mine pre") (by walk_at "mine pre") (by walk_at "mine twelve") (by with_unfolding_all rfl) ?_; k_whole); intro t9)
  k_with "call ref" => (k_here; (with_reducible show wpAny _ _ (PySem.call (Value.ref 28) _) _ _ _); k_dflt (refine' c_leap (by k_asm) (by k_asm) (by k_asm) (by k_asm) (by k_asm) (by first | exact rfl | assumption) (by ktr_room) (by ktr_units) ?_; k_whole); intro t9 h9 tk9 F9 N9; (try dsimp only); (try k_fold))
  k_with "call ref" => (k_here; (with_reducible show wpAny _ _ (PySem.call (Value.ref 35) _) _ _ _); k_dflt (refine' c_dby (by k_asm) (by k_asm) (by k_asm) (by k_asm) (by k_asm) (by first | exact rfl | assumption) (by ktr_room) (by ktr_units) ?_; k_whole); intro t9 h9 tk9 F9 N9; (try dsimp only); (try k_fold))
  k_with "call ref" => (k_here; (with_reducible show wpAny _ _ (PySem.call (Value.ref 42) _) _ _ _); k_dflt (refine' c_dim (by k_asm) (by k_asm) (by k_asm) (by k_asm) (by k_asm) (by first | exact rfl | assumption) (by ktr_room) (by ktr_units) (by walk_at "mine pre") (by walk_at "mine pre") ?_; k_whole); intro t9 h9 tk9 F9 N9; (try dsimp only); (try k_fold))
  k_with "call ref" => (k_here; (with_reducible show wpAny _ _ (PySem.call (Value.ref 49) _) _ _ _); k_dflt (refine' c_dbm (by k_asm) (by k_asm) (by k_asm) (by k_asm) (by k_asm) (by first | exact rfl | assumption) (by ktr_room) (by ktr_units) (by walk_at "mine pre") (by walk_at "mine pre") ?_; k_whole); intro t9 h9 tk9 F9 N9; (try dsimp only); (try k_fold))
  k_with "call ref" => (k_here; (with_reducible show wpAny _ _ (PySem.call (Value.ref 56) _) _ _ _); k_dflt (refine' c_ord (by k_asm) (by k_asm) (by k_asm) (by k_asm) (by k_asm) (by first | exact rfl | assumption) (by ktr_room) (by ktr_units) (by walk_at "mine pre") (by walk_at "mine pre") (by walk_at "mine pre") (by walk_at "mine pre") ?_; k_whole); intro t9 h9 tk9 hv9 F9 N9; (try dsimp only); (try k_fold))
  k_with "mine pre" => first | with_reducible assumption | omega | with_reducible exact dim_one (by decide) (by decide) | l_fact
  k_with "call ref" => (k_here; (with_reducible show wpAny _ _ (PySem.call (Value.ref 94) _) _ _ _); k_dflt (refine' c_len (by k_asm) (by k_asm) (by k_asm) (by k_asm) (by k_asm) (by first | exact rfl | assumption) (by ktr_room) (by ktr_units) (by walk_at "mine pre") (by walk_at "mine pre") ?_; k_whole); intro t9 h9 tk9 F9 N9; (try dsimp only); (try k_fold))
  k_with "call ref" => (k_here; (with_reducible show wpAny _ _ (PySem.call (Value.ref 99) _) _ _ _); k_dflt (refine' c_days (by k_asm) (by k_asm) (by k_asm) (by k_asm) (by k_asm) (by first | exact rfl | assumption) (by ktr_room) (by ktr_units) ?_; k_whole); intro t9 h9 tk9 F9 N9; (try dsimp only); (try k_fold))
  k_with "compareOp NotIn int ref" => (k_here; k_dflt (refine' notin_710 (by k_asm) (by k_mem) ?_; k_whole))
  k_with "newList" => (k_here; k_dflt (refine' newList_K (hsz := Nat.le_of_ble_eq_true rfl) (by k_asm) (by k_asm) ?_; k_whole); intro l' h' F' N' l1; (try k_lt l1); (try k_sweep))
  k_with "subscriptTail Name Slice str ref" => (k_here; (with_reducible show wpAny _ _ (subscriptTail _ (PySem.Expr.Slice (some _) (some _) none _) (Value.str _ _) (Value.ref _)) _ _ _); k_dflt (refine any_slice (by with_reducible assumption) (by k_asm) (by k_asm) ?_; k_whole); intro h' t' k' F' N'; (try dsimp only); (try k_sweep))
  k_with "subscriptTail Name Constant str int" => (k_here; (with_reducible show wpAny _ _ (subscriptTail _ _ (Value.str _ _) (Value.int 4 _)) _ _ _); k_dflt (refine any_item (by with_reducible assumption) ?_; k_whole); intro t9)
  k_with "call builtin:len" => (k_here; (with_reducible show wpAny _ _ (PySem.call _ [Value.str _ _]) _ _ _); k_dflt (refine any_len (by with_reducible assumption) ?_; k_whole); intro t9)
  k_with "compareOp Eq str str" => (k_here; k_dflt (refine eq_to (by with_reducible assumption) ?_))
  k_with "call type:int" => (k_here; (with_reducible show wpAny _ _ (PySem.call (Value.type "int") [Value.str _ _]) _ _ _); k_dflt (refine any_int (by with_reducible assumption) (by with_reducible assumption) ?_; k_whole); intro t9)
  k_with "binaryOp Add int bool" => (k_here; k_dflt (refine add_to (by with_reducible assumption) ?_; k_whole); intro t9)
  k_with "inplaceOp Add int bool" => (k_here; k_dflt (refine iadd_to (by with_reducible assumption) ?_; k_whole); intro t9)
  k_with "compareOp NotEq bool bool" => (k_here; k_dflt (refine ne_to (by with_reducible assumption) ?_))
  k_with "compareOp Gt int int" => (k_here; k_dflt (first | refine gt_yes (by with_reducible assumption) ?_ | refine gt_no (by with_reducible assumption) ?_))
  k_with "truthy bool" => (k_here; (with_reducible show wpAny _ _ (truthy (Value.bool (!List.any _ _))) _ _ _); k_dflt (first | refine truthy_to (by with_reducible assumption) ?_ | refine truthy_to (len_no (by with_reducible assumption) (by with_reducible assumption) (by with_reducible assumption)) ?_))
  w_strict (
    revert kK
    k_fill
    intro kK
    have kD9 : KtsDicts [] h₀ := ktsDicts_nil
    skip
    refine wpAny_call ?_
    k_dflt (refine' code_def ?k1 ?k2 ?k3 ?k4 ?k5 ?kA ?kF ?kK ?k6 ?k7 ?k8 ?k9 ?kB ?_ ?c2 ?c3 ?c4 ?c5; (case kA => exact rfl); (case kF => exact rfl); (case kK => first | exact rfl | assumption); (case k1 => k_asm); (case k2 => k_asm); (case k3 => k_asm); (case k4 => k_asm); (case k5 => k_asm); (case k6 => k_is); (case k7 => k_is); (case k8 => ktr_room); (case k9 => exact BindsTo.of_eq rfl); (case c5 => decide); (case kB => exact locs rfl); (case c2 => exact rfl); (case c3 => exact rfl); (case c4 => exact rfl); k_whole; intro g' L' h' FG' F' N' B' X' T'; (try dsimp only); (try k_lift B'); (try k_fold))
    k_steps
    all_goals (exact ret _ _ _ _ _ _ (by assumption) (by first | assumption | exact raised_drop (by assumption)) (by assumption)))
theorem c_pa1 {w : World} {s₀ : Shared} {mg mb : Str → Option Value} {dp un : Nat} {gd : Option (List Code)} {cn : Str} {cs : Scope} {a : Addr} {ccd : Value} {cl : List (Str × Addr)} {outer : List Env} {A₀ : Around} {base h₀ : Heap} {L : Addr} {m : Str → Option Value} {news : List (Addr × Obj)} {s : Shared} {Q E : Value → Shared → Prop} {x : Str} {tx : Tok}
    (kB : Below A₀ base outer h₀) (kF : Fr h₀ L s.heap m) (kK : (hd11.heap_39 w.params).In h₀) (kN : News h₀ L s.heap news) (kT : Top hd11.view_39 (looseW hd11.view_39 [Str.ofString "_DAYS_IN_MONTH", Str.ofString "_DAYS_BEFORE_MONTH", Str.ofString "_DI400Y", Str.ofString "_DI100Y", Str.ofString "_DI4Y"]) (ExcName.means s₀.heap) mg mb h₀) (kk : cs.kind = .function) (kd : dp + 14 < recursionLimit) (ku : un + 112 < cLine) {y mo d : Int} (hx : DateF x y mo d)
    (ret : ∀ (D : Addr) (t1 t2 t3 : Tok) (n : Nat) (h' : Heap) (tk' : Nat), Fr h₀ L h' m → News h₀ L h' ((D, W.listOf #[.int y t1, .int mo t2, .int d t3] n) :: news) → AllLt D news → Q (.ref D) { s with heap := h', toks := tk' }) :
    wpAny (model Challenge.rw_dn0120_11.row.prog w) (ktrTop dp un gd cn cs L a ccd cl outer) (call (.ref 73) [Value.str x tx]) Q E s := by
  w_top off
  k_with_none
  k_with "mine pre" => first | with_reducible assumption | omega | l_fact
  k_with "mine twelve" => (intro k h1 h2; rcases m12 h1 h2 with h | h | h | h | h | h | h | h | h | h | h | h <;> (subst h; exact ⟨_, rfl⟩))
  k_with "mine lt" => first | with_reducible assumption | exact (by with_reducible assumption : _ ∧ AllLt _ _).2 | exact (by with_reducible assumption : _ ∧ _ ∧ AllLt _ _).2.2 | exact (by with_reducible assumption : _ ∧ _ ∧ _ ∧ AllLt _ _).2.2.2 | exact (by with_reducible assumption : _ ∧ _ ∧ _ ∧ _ ∧ AllLt _ _).2.2.2.2
  k_with "eval Call" => (k_here; (with_reducible show wpAny _ _ (eval (PySem.Expr.Call (PySem.Expr.Name (Str.ofString "_is_leap") _) _ [] _) _) _ _ _); k_dflt (refine Call_ ?_))
  k_with "eval Call" => (k_here; (with_reducible show wpAny _ _ (eval (PySem.Expr.Call (PySem.Expr.Name (Str.ofString "_days_before_year") _) _ [] _) _) _ _ _); k_dflt (refine Call_ ?_))
  k_with "eval Call" => (k_here; (with_reducible show wpAny _ _ (eval (PySem.Expr.Call (PySem.Expr.Name (Str.ofString "_days_in_month") _) _ [] _) _) _ _ _); k_dflt (refine Call_ ?_))
  k_with "eval Call" => (k_here; (with_reducible show wpAny _ _ (eval (PySem.Expr.Call (PySem.Expr.Name (Str.ofString "_days_before_month") _) _ [] _) _) _ _ _); k_dflt (refine Call_ ?_))
  k_with "eval Call" => (k_here; (with_reducible show wpAny _ _ (eval (PySem.Expr.Call (PySem.Expr.Name (Str.ofString "_ymd2ord") _) _ [] _) _) _ _ _); k_dflt (refine Call_ ?_))
  k_with "eval Call" => (k_here; (with_reducible show wpAny _ _ (eval (PySem.Expr.Call (PySem.Expr.Name (Str.ofString "_ord2ymd") _) _ [] _) _) _ _ _); k_dflt (refine Call_ ?_))
  k_with "eval Call" => (k_here; (with_reducible show wpAny _ _ (eval (PySem.Expr.Call (PySem.Expr.Name (Str.ofString "_parse_isoformat_date") _) _ [] _) _) _ _ _); k_dflt (refine Call_ ?_))
  k_with "eval Call" => (k_here; (with_reducible show wpAny _ _ (eval (PySem.Expr.Call (PySem.Expr.Name (Str.ofString "_isoweek_to_gregorian") _) _ [] _) _) _ _ _); k_dflt (refine Call_ ?_))
  k_with "eval Call" => (k_here; (with_reducible show wpAny _ _ (eval (PySem.Expr.Call (PySem.Expr.Name (Str.ofString "_isoweek1monday") _) _ [] _) _) _ _ _); k_dflt (refine Call_ ?_))
  k_with "eval Call" => (k_here; (with_reducible show wpAny _ _ (eval (PySem.Expr.Call (PySem.Expr.Name (Str.ofString "_law_length") _) _ [] _) _) _ _ _); k_dflt (refine Call_ ?_))
  k_with "eval Call" => (k_here; (with_reducible show wpAny _ _ (eval (PySem.Expr.Call (PySem.Expr.Name (Str.ofString "_law_days") _) _ [] _) _) _ _ _); k_dflt (refine Call_ ?_))
  k_with "eval Call" => (k_here; (with_reducible show wpAny _ _ (eval (PySem.Expr.Call (PySem.Expr.Name (Str.ofString "_law_week") _) _ [] _) _) _ _ _); k_dflt (refine Call_ ?_))
  k_with "eval Call" => (k_here; (with_reducible show wpAny _ _ (eval (PySem.Expr.Call (PySem.Expr.Name (Str.ofString "_law_read") _) _ [] _) _) _ _ _); k_dflt (refine Call_ ?_))
  k_with "subscriptTail Name Name ref int" => (k_here; (with_reducible show wpAny _ _ (subscriptTail _ _ (Value.ref 15) (Value.int _ _)) _ _ _); k_dflt (refine' tab_item dimT (by k_asm) (by k_asm) (by k_is) (by walk_at "mine pre") (by walk_at "mine pre") (by walk_at "mine twelve") (by with_unfolding_all rfl) ?_; k_whole); intro t9)
  k_with "subscriptTail Name Name ref int" => (k_here; (with_reducible show wpAny _ _ (subscriptTail _ _ (Value.ref 16) (Value.int _ _)) _ _ _); k_dflt (refine' tab_item dbmT (by k_asm) (by k_asm) (by k_is) (by walk_at "mine pre") (by walk_at "mine pre") (by walk_at "mine twelve") (by with_unfolding_all rfl) ?_; k_whole); intro t9)
  k_with "call ref" => (k_here; (with_reducible show wpAny _ _ (PySem.call (Value.ref 28) _) _ _ _); k_dflt (refine' c_leap (by k_asm) (by k_asm) (by k_asm) (by k_asm) (by k_asm) (by first | exact rfl | assumption) (by ktr_room) (by ktr_units) ?_; k_whole); intro t9 h9 tk9 F9 N9; (try dsimp only); (try k_fold))
  k_with "call ref" => (k_here; (with_reducible show wpAny _ _ (PySem.call (Value.ref 35) _) _ _ _); k_dflt (refine' c_dby (by k_asm) (by k_asm) (by k_asm) (by k_asm) (by k_asm) (by first | exact rfl | assumption) (by ktr_room) (by ktr_units) ?_; k_whole); intro t9 h9 tk9 F9 N9; (try dsimp only); (try k_fold))
  k_with "call ref" => (k_here; (with_reducible show wpAny _ _ (PySem.call (Value.ref 42) _) _ _ _); k_dflt (refine' c_dim (by k_asm) (by k_asm) (by k_asm) (by k_asm) (by k_asm) (by first | exact rfl | assumption) (by ktr_room) (by ktr_units) (by walk_at "mine pre") (by walk_at "mine pre") ?_; k_whole); intro t9 h9 tk9 F9 N9; (try dsimp only); (try k_fold))
  k_with "call ref" => (k_here; (with_reducible show wpAny _ _ (PySem.call (Value.ref 49) _) _ _ _); k_dflt (refine' c_dbm (by k_asm) (by k_asm) (by k_asm) (by k_asm) (by k_asm) (by first | exact rfl | assumption) (by ktr_room) (by ktr_units) (by walk_at "mine pre") (by walk_at "mine pre") ?_; k_whole); intro t9 h9 tk9 F9 N9; (try dsimp only); (try k_fold))
  k_with "call ref" => (k_here; (with_reducible show wpAny _ _ (PySem.call (Value.ref 56) _) _ _ _); k_dflt (refine' c_ord (by k_asm) (by k_asm) (by k_asm) (by k_asm) (by k_asm) (by first | exact rfl | assumption) (by ktr_room) (by ktr_units) (by walk_at "mine pre") (by walk_at "mine pre") (by walk_at "mine pre") (by walk_at "mine pre") ?_; k_whole); intro t9 h9 tk9 hv9 F9 N9; (try dsimp only); (try k_fold))
  k_with "mine pre" => first | with_reducible assumption | omega | with_reducible exact dim_one (by decide) (by decide) | l_fact
  k_with "call ref" => (k_here; (with_reducible show wpAny _ _ (PySem.call (Value.ref 94) _) _ _ _); k_dflt (refine' c_len (by k_asm) (by k_asm) (by k_asm) (by k_asm) (by k_asm) (by first | exact rfl | assumption) (by ktr_room) (by ktr_units) (by walk_at "mine pre") (by walk_at "mine pre") ?_; k_whole); intro t9 h9 tk9 F9 N9; (try dsimp only); (try k_fold))
  k_with "call ref" => (k_here; (with_reducible show wpAny _ _ (PySem.call (Value.ref 99) _) _ _ _); k_dflt (refine' c_days (by k_asm) (by k_asm) (by k_asm) (by k_asm) (by k_asm) (by first | exact rfl | assumption) (by ktr_room) (by ktr_units) ?_; k_whole); intro t9 h9 tk9 F9 N9; (try dsimp only); (try k_fold))
  k_with "compareOp NotIn int ref" => (k_here; k_dflt (refine' notin_710 (by k_asm) (by k_mem) ?_; k_whole))
  k_with "newList" => (k_here; k_dflt (refine' newList_K (hsz := Nat.le_of_ble_eq_true rfl) (by k_asm) (by k_asm) ?_; k_whole); intro l' h' F' N' l1; (try k_lt l1); (try k_sweep))
  k_with "subscriptTail Name Slice str ref" => (k_here; (with_reducible show wpAny _ _ (subscriptTail _ (PySem.Expr.Slice (some _) (some _) none _) (Value.str _ _) (Value.ref _)) _ _ _); k_dflt (refine any_slice (by with_reducible assumption) (by k_asm) (by k_asm) ?_; k_whole); intro h' t' k' F' N'; (try dsimp only); (try k_sweep))
  k_with "subscriptTail Name Constant str int" => (k_here; (with_reducible show wpAny _ _ (subscriptTail _ _ (Value.str _ _) (Value.int 4 _)) _ _ _); k_dflt (refine any_item (by with_reducible assumption) ?_; k_whole); intro t9)
  k_with "call builtin:len" => (k_here; (with_reducible show wpAny _ _ (PySem.call _ [Value.str _ _]) _ _ _); k_dflt (refine any_len (by with_reducible assumption) ?_; k_whole); intro t9)
  k_with "compareOp Eq str str" => (k_here; k_dflt (refine eq_to (by with_reducible assumption) ?_))
  k_with "call type:int" => (k_here; (with_reducible show wpAny _ _ (PySem.call (Value.type "int") [Value.str _ _]) _ _ _); k_dflt (refine any_int (by with_reducible assumption) (by with_reducible assumption) ?_; k_whole); intro t9)
  k_with "binaryOp Add int bool" => (k_here; k_dflt (refine add_to (by with_reducible assumption) ?_; k_whole); intro t9)
  k_with "inplaceOp Add int bool" => (k_here; k_dflt (refine iadd_to (by with_reducible assumption) ?_; k_whole); intro t9)
  k_with "compareOp NotEq bool bool" => (k_here; k_dflt (refine ne_to (by with_reducible assumption) ?_))
  k_with "compareOp Gt int int" => (k_here; k_dflt (first | refine gt_yes (by with_reducible assumption) ?_ | refine gt_no (by with_reducible assumption) ?_))
  k_with "truthy bool" => (k_here; (with_reducible show wpAny _ _ (truthy (Value.bool (!List.any _ _))) _ _ _); k_dflt (first | refine truthy_to (by with_reducible assumption) ?_ | refine truthy_to (len_no (by with_reducible assumption) (by with_reducible assumption) (by with_reducible assumption)) ?_))
  w_strict (
    revert kK
    k_fill
    intro kK
    have kD9 : KtsDicts [] h₀ := ktsDicts_nil
    obtain ⟨b, p, c, r, ⟨hl20, hlen, hyr, h4, hsep, hpos⟩, ⟨hw, hmo, hc⟩, hcb, hr, hd⟩ := hx
    refine wpAny_call ?_
    k_dflt cell_enter
    k_steps
    all_goals (exact ret _ _ _ _ _ _ _ (by k_asm) (by first | k_asm | exact news_2of3 (by assumption)) (by walk_at "mine lt")))
theorem c_pa2 {w : World} {s₀ : Shared} {mg mb : Str → Option Value} {dp un : Nat} {gd : Option (List Code)} {cn : Str} {cs : Scope} {a : Addr} {ccd : Value} {cl : List (Str × Addr)} {outer : List Env} {A₀ : Around} {base h₀ : Heap} {L : Addr} {m : Str → Option Value} {news : List (Addr × Obj)} {s : Shared} {Q E : Value → Shared → Prop} {x : Str} {tx : Tok}
    (kB : Below A₀ base outer h₀) (kF : Fr h₀ L s.heap m) (kK : (hd11.heap_39 w.params).In h₀) (kN : News h₀ L s.heap news) (kT : Top hd11.view_39 (looseW hd11.view_39 [Str.ofString "_DAYS_IN_MONTH", Str.ofString "_DAYS_BEFORE_MONTH", Str.ofString "_DI400Y", Str.ofString "_DI100Y", Str.ofString "_DI4Y"]) (ExcName.means s₀.heap) mg mb h₀) (kk : cs.kind = .function) (kd : dp + 14 < recursionLimit) (ku : un + 112 < cLine) (hx : MixF1 x ∨ MixF2 x)
    (ret : ∀ (g' h' : Heap) (e t : Addr) (vs : List Value) (tk' : Nat), Fr h₀ L g' m → RaisedS base g' (envX cn cs L a ccd cl :: outer) e (.type "ValueError") t vs news h' → g'.UpToSlots h' → E (.ref e) { s with heap := h', toks := tk' }) :
    wpAny (model Challenge.rw_dn0120_11.row.prog w) (ktrTop dp un gd cn cs L a ccd cl outer) (call (.ref 73) [Value.str x tx]) Q E s := by
  w_top off
  k_with_none
  k_with "mine pre" => first | with_reducible assumption | omega | l_fact
  k_with "mine twelve" => (intro k h1 h2; rcases m12 h1 h2 with h | h | h | h | h | h | h | h | h | h | h | h <;> (subst h; exact ⟨_, rfl⟩))
  k_with "mine lt" => first | with_reducible assumption | exact (by with_reducible assumption : _ ∧ AllLt _ _).2 | exact (by with_reducible assumption : _ ∧ _ ∧ AllLt _ _).2.2 | exact (by with_reducible assumption : _ ∧ _ ∧ _ ∧ AllLt _ _).2.2.2 | exact (by with_reducible assumption : _ ∧ _ ∧ _ ∧ _ ∧ AllLt _ _).2.2.2.2
  k_with "eval Call" => (k_here; (with_reducible show wpAny _ _ (eval (PySem.Expr.Call (PySem.Expr.Name (Str.ofString "_is_leap") _) _ [] _) _) _ _ _); k_dflt (refine Call_ ?_))
  k_with "eval Call" => (k_here; (with_reducible show wpAny _ _ (eval (PySem.Expr.Call (PySem.Expr.Name (Str.ofString "_days_before_year") _) _ [] _) _) _ _ _); k_dflt (refine Call_ ?_))
  k_with "eval Call" => (k_here; (with_reducible show wpAny _ _ (eval (PySem.Expr.Call (PySem.Expr.Name (Str.ofString "_days_in_month") _) _ [] _) _) _ _ _); k_dflt (refine Call_ ?_))
  k_with "eval Call" => (k_here; (with_reducible show wpAny _ _ (eval (PySem.Expr.Call (PySem.Expr.Name (Str.ofString "_days_before_month") _) _ [] _) _) _ _ _); k_dflt (refine Call_ ?_))
  k_with "eval Call" => (k_here; (with_reducible show wpAny _ _ (eval (PySem.Expr.Call (PySem.Expr.Name (Str.ofString "_ymd2ord") _) _ [] _) _) _ _ _); k_dflt (refine Call_ ?_))
  k_with "eval Call" => (k_here; (with_reducible show wpAny _ _ (eval (PySem.Expr.Call (PySem.Expr.Name (Str.ofString "_ord2ymd") _) _ [] _) _) _ _ _); k_dflt (refine Call_ ?_))
  k_with "eval Call" => (k_here; (with_reducible show wpAny _ _ (eval (PySem.Expr.Call (PySem.Expr.Name (Str.ofString "_parse_isoformat_date") _) _ [] _) _) _ _ _); k_dflt (refine Call_ ?_))
  k_with "eval Call" => (k_here; (with_reducible show wpAny _ _ (eval (PySem.Expr.Call (PySem.Expr.Name (Str.ofString "_isoweek_to_gregorian") _) _ [] _) _) _ _ _); k_dflt (refine Call_ ?_))
  k_with "eval Call" => (k_here; (with_reducible show wpAny _ _ (eval (PySem.Expr.Call (PySem.Expr.Name (Str.ofString "_isoweek1monday") _) _ [] _) _) _ _ _); k_dflt (refine Call_ ?_))
  k_with "eval Call" => (k_here; (with_reducible show wpAny _ _ (eval (PySem.Expr.Call (PySem.Expr.Name (Str.ofString "_law_length") _) _ [] _) _) _ _ _); k_dflt (refine Call_ ?_))
  k_with "eval Call" => (k_here; (with_reducible show wpAny _ _ (eval (PySem.Expr.Call (PySem.Expr.Name (Str.ofString "_law_days") _) _ [] _) _) _ _ _); k_dflt (refine Call_ ?_))
  k_with "eval Call" => (k_here; (with_reducible show wpAny _ _ (eval (PySem.Expr.Call (PySem.Expr.Name (Str.ofString "_law_week") _) _ [] _) _) _ _ _); k_dflt (refine Call_ ?_))
  k_with "eval Call" => (k_here; (with_reducible show wpAny _ _ (eval (PySem.Expr.Call (PySem.Expr.Name (Str.ofString "_law_read") _) _ [] _) _) _ _ _); k_dflt (refine Call_ ?_))
  k_with "subscriptTail Name Name ref int" => (k_here; (with_reducible show wpAny _ _ (subscriptTail _ _ (Value.ref 15) (Value.int _ _)) _ _ _); k_dflt (refine' tab_item dimT (by k_asm) (by k_asm) (by k_is) (by walk_at "mine pre") (by walk_at "mine pre") (by walk_at "mine twelve") (by with_unfolding_all rfl) ?_; k_whole); intro t9)
  k_with "subscriptTail Name Name ref int" => (k_here; (with_reducible show wpAny _ _ (subscriptTail _ _ (Value.ref 16) (Value.int _ _)) _ _ _); k_dflt (refine' tab_item dbmT (by k_asm) (by k_asm) (by k_is) (by walk_at "mine pre") (by walk_at "mine pre") (by walk_at "mine twelve") (by with_unfolding_all rfl) ?_; k_whole); intro t9)
  k_with "call ref" => (k_here; (with_reducible show wpAny _ _ (PySem.call (Value.ref 28) _) _ _ _); k_dflt (refine' c_leap (by k_asm) (by k_asm) (by k_asm) (by k_asm) (by k_asm) (by first | exact rfl | assumption) (by ktr_room) (by ktr_units) ?_; k_whole); intro t9 h9 tk9 F9 N9; (try dsimp only); (try k_fold))
  k_with "call ref" => (k_here; (with_reducible show wpAny _ _ (PySem.call (Value.ref 35) _) _ _ _); k_dflt (refine' c_dby (by k_asm) (by k_asm) (by k_asm) (by k_asm) (by k_asm) (by first | exact rfl | assumption) (by ktr_room) (by ktr_units) ?_; k_whole); intro t9 h9 tk9 F9 N9; (try dsimp only); (try k_fold))
  k_with "call ref" => (k_here; (with_reducible show wpAny _ _ (PySem.call (Value.ref 42) _) _ _ _); k_dflt (refine' c_dim (by k_asm) (by k_asm) (by k_asm) (by k_asm) (by k_asm) (by first | exact rfl | assumption) (by ktr_room) (by ktr_units) (by walk_at "mine pre") (by walk_at "mine pre") ?_; k_whole); intro t9 h9 tk9 F9 N9; (try dsimp only); (try k_fold))
  k_with "call ref" => (k_here; (with_reducible show wpAny _ _ (PySem.call (Value.ref 49) _) _ _ _); k_dflt (refine' c_dbm (by k_asm) (by k_asm) (by k_asm) (by k_asm) (by k_asm) (by first | exact rfl | assumption) (by ktr_room) (by ktr_units) (by walk_at "mine pre") (by walk_at "mine pre") ?_; k_whole); intro t9 h9 tk9 F9 N9; (try dsimp only); (try k_fold))
  k_with "call ref" => (k_here; (with_reducible show wpAny _ _ (PySem.call (Value.ref 56) _) _ _ _); k_dflt (refine' c_ord (by k_asm) (by k_asm) (by k_asm) (by k_asm) (by k_asm) (by first | exact rfl | assumption) (by ktr_room) (by ktr_units) (by walk_at "mine pre") (by walk_at "mine pre") (by walk_at "mine pre") (by walk_at "mine pre") ?_; k_whole); intro t9 h9 tk9 hv9 F9 N9; (try dsimp only); (try k_fold))
  k_with "mine pre" => first | with_reducible assumption | omega | with_reducible exact dim_one (by decide) (by decide) | l_fact
  k_with "call ref" => (k_here; (with_reducible show wpAny _ _ (PySem.call (Value.ref 94) _) _ _ _); k_dflt (refine' c_len (by k_asm) (by k_asm) (by k_asm) (by k_asm) (by k_asm) (by first | exact rfl | assumption) (by ktr_room) (by ktr_units) (by walk_at "mine pre") (by walk_at "mine pre") ?_; k_whole); intro t9 h9 tk9 F9 N9; (try dsimp only); (try k_fold))
  k_with "call ref" => (k_here; (with_reducible show wpAny _ _ (PySem.call (Value.ref 99) _) _ _ _); k_dflt (refine' c_days (by k_asm) (by k_asm) (by k_asm) (by k_asm) (by k_asm) (by first | exact rfl | assumption) (by ktr_room) (by ktr_units) ?_; k_whole); intro t9 h9 tk9 F9 N9; (try dsimp only); (try k_fold))
  k_with "compareOp NotIn int ref" => (k_here; k_dflt (refine' notin_710 (by k_asm) (by k_mem) ?_; k_whole))
  k_with "newList" => (k_here; k_dflt (refine' newList_K (hsz := Nat.le_of_ble_eq_true rfl) (by k_asm) (by k_asm) ?_; k_whole); intro l' h' F' N' l1; (try k_lt l1); (try k_sweep))
  k_with "subscriptTail Name Slice str ref" => (k_here; (with_reducible show wpAny _ _ (subscriptTail _ (PySem.Expr.Slice (some _) (some _) none _) (Value.str _ _) (Value.ref _)) _ _ _); k_dflt (refine any_slice (by with_reducible assumption) (by k_asm) (by k_asm) ?_; k_whole); intro h' t' k' F' N'; (try dsimp only); (try k_sweep))
  k_with "subscriptTail Name Constant str int" => (k_here; (with_reducible show wpAny _ _ (subscriptTail _ _ (Value.str _ _) (Value.int 4 _)) _ _ _); k_dflt (refine any_item (by with_reducible assumption) ?_; k_whole); intro t9)
  k_with "call builtin:len" => (k_here; (with_reducible show wpAny _ _ (PySem.call _ [Value.str _ _]) _ _ _); k_dflt (refine any_len (by with_reducible assumption) ?_; k_whole); intro t9)
  k_with "compareOp Eq str str" => (k_here; k_dflt (refine eq_to (by with_reducible assumption) ?_))
  k_with "call type:int" => (k_here; (with_reducible show wpAny _ _ (PySem.call (Value.type "int") [Value.str _ _]) _ _ _); k_dflt (refine any_int (by with_reducible assumption) (by with_reducible assumption) ?_; k_whole); intro t9)
  k_with "binaryOp Add int bool" => (k_here; k_dflt (refine add_to (by with_reducible assumption) ?_; k_whole); intro t9)
  k_with "inplaceOp Add int bool" => (k_here; k_dflt (refine iadd_to (by with_reducible assumption) ?_; k_whole); intro t9)
  k_with "compareOp NotEq bool bool" => (k_here; k_dflt (refine ne_to (by with_reducible assumption) ?_))
  k_with "compareOp Gt int int" => (k_here; k_dflt (first | refine gt_yes (by with_reducible assumption) ?_ | refine gt_no (by with_reducible assumption) ?_))
  k_with "truthy bool" => (k_here; (with_reducible show wpAny _ _ (truthy (Value.bool (!List.any _ _))) _ _ _); k_dflt (first | refine truthy_to (by with_reducible assumption) ?_ | refine truthy_to (len_no (by with_reducible assumption) (by with_reducible assumption) (by with_reducible assumption)) ?_))
  w_strict (
    revert kK
    k_fill
    intro kK
    have kD9 : KtsDicts [] h₀ := ktsDicts_nil
    skip
    rcases hx with ⟨y, mo, b, p, c, ⟨hl20, hlen, hyr, h4, hsep, hpos⟩, ⟨hw, hmo, hc⟩, hcb⟩ | ⟨y, k, b, p, c, ⟨hl20, hlen, hyr, h4, hsep, hpos⟩, ⟨hw, hk⟩, hg, hc, hcb⟩ <;> (
    refine wpAny_call ?_
    k_dflt (refine' code_def ?k1 ?k2 ?k3 ?k4 ?k5 ?kA ?kF ?kK ?k6 ?k7 ?k8 ?k9 ?kB ?_ ?c2 ?c3 ?c4 ?c5; (case kA => exact rfl); (case kF => exact rfl); (case kK => first | exact rfl | assumption); (case k1 => k_asm); (case k2 => k_asm); (case k3 => k_asm); (case k4 => k_asm); (case k5 => k_asm); (case k6 => k_is); (case k7 => k_is); (case k8 => ktr_room); (case k9 => exact BindsTo.of_eq rfl); (case c5 => decide); (case kB => exact locs rfl); (case c2 => exact rfl); (case c3 => exact rfl); (case c4 => exact rfl); k_whole; intro g' L' h' FG' F' N' B' X' T'; (try dsimp only); (try k_lift B'); (try k_fold))
    k_steps
    all_goals (exact ret _ _ _ _ _ _ (by assumption) (by first | assumption | exact raised_drop (by assumption)) (by assumption))))
theorem c_pa3 {w : World} {s₀ : Shared} {mg mb : Str → Option Value} {dp un : Nat} {gd : Option (List Code)} {cn : Str} {cs : Scope} {a : Addr} {ccd : Value} {cl : List (Str × Addr)} {outer : List Env} {A₀ : Around} {base h₀ : Heap} {L : Addr} {m : Str → Option Value} {news : List (Addr × Obj)} {s : Shared} {Q E : Value → Shared → Prop} {x : Str} {tx : Tok}
    (kB : Below A₀ base outer h₀) (kF : Fr h₀ L s.heap m) (kK : (hd11.heap_39 w.params).In h₀) (kN : News h₀ L s.heap news) (kT : Top hd11.view_39 (looseW hd11.view_39 [Str.ofString "_DAYS_IN_MONTH", Str.ofString "_DAYS_BEFORE_MONTH", Str.ofString "_DI400Y", Str.ofString "_DI100Y", Str.ofString "_DI4Y"]) (ExcName.means s₀.heap) mg mb h₀) (kk : cs.kind = .function) (kd : dp + 14 < recursionLimit) (ku : un + 112 < cLine) {y k d : Int} (hx : WeekF1 x y k d ∨ WeekF2 x y k d) (hz : 0 ≤ y ∧ y ≤ 9999 ∧ 0 ≤ k ∧ k ≤ 99 ∧ 0 ≤ d ∧ d ≤ 9)
    (ret1 : WeekOk y k d → ∀ (D : Addr) (yy mm dd : Int) (t1 t2 t3 : Tok) (n : Nat) (h' : Heap) (tk' : Nat), Valid yy mm dd → ord yy mm dd = num y k d → Fr h₀ L h' m → News h₀ L h' ((D, W.listOf #[.int yy t1, .int mm t2, .int dd t3] n) :: news) → AllLt D news → Q (.ref D) { s with heap := h', toks := tk' })
    (ret0 : ¬ WeekOk y k d → ∀ (g' h' : Heap) (e t : Addr) (vs : List Value) (tk' : Nat), Fr h₀ L g' m → RaisedS base g' (envX cn cs L a ccd cl :: outer) e (.type "ValueError") t vs news h' → g'.UpToSlots h' → E (.ref e) { s with heap := h', toks := tk' }) :
    wpAny (model Challenge.rw_dn0120_11.row.prog w) (ktrTop dp un gd cn cs L a ccd cl outer) (call (.ref 73) [Value.str x tx]) Q E s := by
  w_top off
  k_with_none
  k_with "mine pre" => first | with_reducible assumption | omega | l_fact
  k_with "mine twelve" => (intro k h1 h2; rcases m12 h1 h2 with h | h | h | h | h | h | h | h | h | h | h | h <;> (subst h; exact ⟨_, rfl⟩))
  k_with "mine lt" => first | with_reducible assumption | exact (by with_reducible assumption : _ ∧ AllLt _ _).2 | exact (by with_reducible assumption : _ ∧ _ ∧ AllLt _ _).2.2 | exact (by with_reducible assumption : _ ∧ _ ∧ _ ∧ AllLt _ _).2.2.2 | exact (by with_reducible assumption : _ ∧ _ ∧ _ ∧ _ ∧ AllLt _ _).2.2.2.2
  k_with "eval Call" => (k_here; (with_reducible show wpAny _ _ (eval (PySem.Expr.Call (PySem.Expr.Name (Str.ofString "_is_leap") _) _ [] _) _) _ _ _); k_dflt (refine Call_ ?_))
  k_with "eval Call" => (k_here; (with_reducible show wpAny _ _ (eval (PySem.Expr.Call (PySem.Expr.Name (Str.ofString "_days_before_year") _) _ [] _) _) _ _ _); k_dflt (refine Call_ ?_))
  k_with "eval Call" => (k_here; (with_reducible show wpAny _ _ (eval (PySem.Expr.Call (PySem.Expr.Name (Str.ofString "_days_in_month") _) _ [] _) _) _ _ _); k_dflt (refine Call_ ?_))
  k_with "eval Call" => (k_here; (with_reducible show wpAny _ _ (eval (PySem.Expr.Call (PySem.Expr.Name (Str.ofString "_days_before_month") _) _ [] _) _) _ _ _); k_dflt (refine Call_ ?_))
  k_with "eval Call" => (k_here; (with_reducible show wpAny _ _ (eval (PySem.Expr.Call (PySem.Expr.Name (Str.ofString "_ymd2ord") _) _ [] _) _) _ _ _); k_dflt (refine Call_ ?_))
  k_with "eval Call" => (k_here; (with_reducible show wpAny _ _ (eval (PySem.Expr.Call (PySem.Expr.Name (Str.ofString "_ord2ymd") _) _ [] _) _) _ _ _); k_dflt (refine Call_ ?_))
  k_with "eval Call" => (k_here; (with_reducible show wpAny _ _ (eval (PySem.Expr.Call (PySem.Expr.Name (Str.ofString "_parse_isoformat_date") _) _ [] _) _) _ _ _); k_dflt (refine Call_ ?_))
  k_with "eval Call" => (k_here; (with_reducible show wpAny _ _ (eval (PySem.Expr.Call (PySem.Expr.Name (Str.ofString "_isoweek_to_gregorian") _) _ [] _) _) _ _ _); k_dflt (refine Call_ ?_))
  k_with "eval Call" => (k_here; (with_reducible show wpAny _ _ (eval (PySem.Expr.Call (PySem.Expr.Name (Str.ofString "_isoweek1monday") _) _ [] _) _) _ _ _); k_dflt (refine Call_ ?_))
  k_with "eval Call" => (k_here; (with_reducible show wpAny _ _ (eval (PySem.Expr.Call (PySem.Expr.Name (Str.ofString "_law_length") _) _ [] _) _) _ _ _); k_dflt (refine Call_ ?_))
  k_with "eval Call" => (k_here; (with_reducible show wpAny _ _ (eval (PySem.Expr.Call (PySem.Expr.Name (Str.ofString "_law_days") _) _ [] _) _) _ _ _); k_dflt (refine Call_ ?_))
  k_with "eval Call" => (k_here; (with_reducible show wpAny _ _ (eval (PySem.Expr.Call (PySem.Expr.Name (Str.ofString "_law_week") _) _ [] _) _) _ _ _); k_dflt (refine Call_ ?_))
  k_with "eval Call" => (k_here; (with_reducible show wpAny _ _ (eval (PySem.Expr.Call (PySem.Expr.Name (Str.ofString "_law_read") _) _ [] _) _) _ _ _); k_dflt (refine Call_ ?_))
  k_with "subscriptTail Name Name ref int" => (k_here; (with_reducible show wpAny _ _ (subscriptTail _ _ (Value.ref 15) (Value.int _ _)) _ _ _); k_dflt (refine' tab_item dimT (by k_asm) (by k_asm) (by k_is) (by walk_at "mine pre") (by walk_at "mine pre") (by walk_at "mine twelve") (by with_unfolding_all rfl) ?_; k_whole); intro t9)
  k_with "subscriptTail Name Name ref int" => (k_here; (with_reducible show wpAny _ _ (subscriptTail _ _ (Value.ref 16) (Value.int _ _)) _ _ _); k_dflt (refine' tab_item dbmT (by k_asm) (by k_asm) (by k_is) (by walk_at "mine pre") (by walk_at "mine pre") (by walk_at "mine twelve") (by with_unfolding_all rfl) ?_; k_whole); intro t9)
  k_with "call ref" => (k_here; (with_reducible show wpAny _ _ (PySem.call (Value.ref 28) _) _ _ _); k_dflt (refine' c_leap (by k_asm) (by k_asm) (by k_asm) (by k_asm) (by k_asm) (by first | exact rfl | assumption) (by ktr_room) (by ktr_units) ?_; k_whole); intro t9 h9 tk9 F9 N9; (try dsimp only); (try k_fold))
  k_with "call ref" => (k_here; (with_reducible show wpAny _ _ (PySem.call (Value.ref 35) _) _ _ _); k_dflt (refine' c_dby (by k_asm) (by k_asm) (by k_asm) (by k_asm) (by k_asm) (by first | exact rfl | assumption) (by ktr_room) (by ktr_units) ?_; k_whole); intro t9 h9 tk9 F9 N9; (try dsimp only); (try k_fold))
  k_with "call ref" => (k_here; (with_reducible show wpAny _ _ (PySem.call (Value.ref 42) _) _ _ _); k_dflt (refine' c_dim (by k_asm) (by k_asm) (by k_asm) (by k_asm) (by k_asm) (by first | exact rfl | assumption) (by ktr_room) (by ktr_units) (by walk_at "mine pre") (by walk_at "mine pre") ?_; k_whole); intro t9 h9 tk9 F9 N9; (try dsimp only); (try k_fold))
  k_with "call ref" => (k_here; (with_reducible show wpAny _ _ (PySem.call (Value.ref 49) _) _ _ _); k_dflt (refine' c_dbm (by k_asm) (by k_asm) (by k_asm) (by k_asm) (by k_asm) (by first | exact rfl | assumption) (by ktr_room) (by ktr_units) (by walk_at "mine pre") (by walk_at "mine pre") ?_; k_whole); intro t9 h9 tk9 F9 N9; (try dsimp only); (try k_fold))
  k_with "call ref" => (k_here; (with_reducible show wpAny _ _ (PySem.call (Value.ref 56) _) _ _ _); k_dflt (refine' c_ord (by k_asm) (by k_asm) (by k_asm) (by k_asm) (by k_asm) (by first | exact rfl | assumption) (by ktr_room) (by ktr_units) (by walk_at "mine pre") (by walk_at "mine pre") (by walk_at "mine pre") (by walk_at "mine pre") ?_; k_whole); intro t9 h9 tk9 hv9 F9 N9; (try dsimp only); (try k_fold))
  k_with "mine pre" => first | with_reducible assumption | omega | with_reducible exact dim_one (by decide) (by decide) | l_fact
  k_with "call ref" => (k_here; (with_reducible show wpAny _ _ (PySem.call (Value.ref 94) _) _ _ _); k_dflt (refine' c_len (by k_asm) (by k_asm) (by k_asm) (by k_asm) (by k_asm) (by first | exact rfl | assumption) (by ktr_room) (by ktr_units) (by walk_at "mine pre") (by walk_at "mine pre") ?_; k_whole); intro t9 h9 tk9 F9 N9; (try dsimp only); (try k_fold))
  k_with "call ref" => (k_here; (with_reducible show wpAny _ _ (PySem.call (Value.ref 99) _) _ _ _); k_dflt (refine' c_days (by k_asm) (by k_asm) (by k_asm) (by k_asm) (by k_asm) (by first | exact rfl | assumption) (by ktr_room) (by ktr_units) ?_; k_whole); intro t9 h9 tk9 F9 N9; (try dsimp only); (try k_fold))
  k_with "compareOp NotIn int ref" => (k_here; k_dflt (refine' notin_710 (by k_asm) (by k_mem) ?_; k_whole))
  k_with "newList" => (k_here; k_dflt (refine' newList_K (hsz := Nat.le_of_ble_eq_true rfl) (by k_asm) (by k_asm) ?_; k_whole); intro l' h' F' N' l1; (try k_lt l1); (try k_sweep))
  k_with "subscriptTail Name Slice str ref" => (k_here; (with_reducible show wpAny _ _ (subscriptTail _ (PySem.Expr.Slice (some _) (some _) none _) (Value.str _ _) (Value.ref _)) _ _ _); k_dflt (refine any_slice (by with_reducible assumption) (by k_asm) (by k_asm) ?_; k_whole); intro h' t' k' F' N'; (try dsimp only); (try k_sweep))
  k_with "subscriptTail Name Constant str int" => (k_here; (with_reducible show wpAny _ _ (subscriptTail _ _ (Value.str _ _) (Value.int 4 _)) _ _ _); k_dflt (refine any_item (by with_reducible assumption) ?_; k_whole); intro t9)
  k_with "call builtin:len" => (k_here; (with_reducible show wpAny _ _ (PySem.call _ [Value.str _ _]) _ _ _); k_dflt (refine any_len (by with_reducible assumption) ?_; k_whole); intro t9)
  k_with "compareOp Eq str str" => (k_here; k_dflt (refine eq_to (by with_reducible assumption) ?_))
  k_with "call type:int" => (k_here; (with_reducible show wpAny _ _ (PySem.call (Value.type "int") [Value.str _ _]) _ _ _); k_dflt (refine any_int (by with_reducible assumption) (by with_reducible assumption) ?_; k_whole); intro t9)
  k_with "binaryOp Add int bool" => (k_here; k_dflt (refine add_to (by with_reducible assumption) ?_; k_whole); intro t9)
  k_with "inplaceOp Add int bool" => (k_here; k_dflt (refine iadd_to (by with_reducible assumption) ?_; k_whole); intro t9)
  k_with "compareOp NotEq bool bool" => (k_here; k_dflt (refine ne_to (by with_reducible assumption) ?_))
  k_with "compareOp Gt int int" => (k_here; k_dflt (first | refine gt_yes (by with_reducible assumption) ?_ | refine gt_no (by with_reducible assumption) ?_))
  k_with "truthy bool" => (k_here; (with_reducible show wpAny _ _ (truthy (Value.bool (!List.any _ _))) _ _ _); k_dflt (first | refine truthy_to (by with_reducible assumption) ?_ | refine truthy_to (len_no (by with_reducible assumption) (by with_reducible assumption) (by with_reducible assumption)) ?_))
  k_with "call ref" => (k_here; (with_reducible show wpAny _ _ (PySem.call (Value.ref 80) _) _ _ _); k_dflt (refine' c_isoB (by k_asm) (by k_asm) (by k_asm) (by k_asm) (by k_asm) (by first | exact rfl | assumption) (by ktr_room) (by ktr_units) (by omega) (by omega) (by omega) (by omega) (by omega) (by omega) ?_ ?_); (intro hok9 D9 yy9 mm9 dd9 t7 t8 t9 h9 tk9 hV9 hO9 F9 N9 l9; (try simp only [AllLt, and_true] at l9); (try dsimp only); (try k_fold)); rotate_left; (intro hno9 g9 h9 e9 t9 vs9 tk9 F9 S9 U9; (try dsimp only); (try k_fold)); rotate_left)
  w_strict (
    revert kK
    k_fill
    intro kK
    have kD9 : KtsDicts [] h₀ := ktsDicts_nil
    obtain ⟨hy0, hy1, hk0, hk1, hd0, hd1⟩ := hz
    rcases hx with ⟨b, p, ⟨hl20, hlen, hyr, h4, hsep, hpos⟩, ⟨hw, hk⟩, hg, rfl⟩ | ⟨b, p, c, r, ⟨hl20, hlen, hyr, h4, hsep, hpos⟩, ⟨hw, hk⟩, hg, hc, hcb, hr, hd⟩ <;> (
    refine wpAny_call ?_
    k_dflt (refine' code_def ?k1 ?k2 ?k3 ?k4 ?k5 ?kA ?kF ?kK ?k6 ?k7 ?k8 ?k9 ?kB ?_ ?c2 ?c3 ?c4 ?c5; (case kA => exact rfl); (case kF => exact rfl); (case kK => first | exact rfl | assumption); (case k1 => k_asm); (case k2 => k_asm); (case k3 => k_asm); (case k4 => k_asm); (case k5 => k_asm); (case k6 => k_is); (case k7 => k_is); (case k8 => ktr_room); (case k9 => exact BindsTo.of_eq rfl); (case c5 => decide); (case kB => exact locs rfl); (case c2 => exact rfl); (case c3 => exact rfl); (case c4 => exact rfl); k_whole; intro g' L' h' FG' F' N' B' X' T'; (try dsimp only); (try k_lift B'); (try k_fold))
    k_steps
    all_goals (first | exact ret1 (by assumption) _ _ _ _ _ _ _ _ _ _ (by with_reducible assumption) (by with_reducible assumption) (by k_asm) (by first | k_asm | exact news_2of3 (by assumption) | exact news_1of3 (by assumption)) (by walk_at "mine lt") | exact ret0 (by assumption) _ _ _ _ _ _ (by assumption) (by first | assumption | exact raised_drop (by assumption)) (by assumption))))
end
theorem c_pa {w : World} {s₀ : Shared} {mg mb : Str → Option Value} {dp un : Nat} {gd : Option (List Code)} {cn : Str} {cs : Scope} {a : Addr} {ccd : Value} {cl : List (Str × Addr)} {outer : List Env} {A₀ : Around} {base h₀ : Heap} {L : Addr} {m : Str → Option Value} {news : List (Addr × Obj)} {s : Shared} {Q E : Value → Shared → Prop} {x : Str} {tx : Tok}
    (kB : Below A₀ base outer h₀) (kF : Fr h₀ L s.heap m) (kK : (hd11.heap_39 w.params).In h₀) (kN : News h₀ L s.heap news) (kT : Top hd11.view_39 (looseW hd11.view_39 [Str.ofString "_DAYS_IN_MONTH", Str.ofString "_DAYS_BEFORE_MONTH", Str.ofString "_DI400Y", Str.ofString "_DI100Y", Str.ofString "_DI4Y"]) (ExcName.means s₀.heap) mg mb h₀) (kk : cs.kind = .function) (kd : dp + 14 < recursionLimit) (ku : un + 112 < cLine) {G : Int → Int → Int → Prop} {B : Prop} (hx : Reads x G B)
    (ret1 : ∀ (D : Addr) (yy mm dd : Int) (t1 t2 t3 : Tok) (n : Nat) (h' : Heap) (tk' : Nat), G yy mm dd → Fr h₀ L h' m → News h₀ L h' ((D, W.listOf #[.int yy t1, .int mm t2, .int dd t3] n) :: news) → AllLt D news → Q (.ref D) { s with heap := h', toks := tk' })
    (ret0 : B → ∀ (g' h' : Heap) (e t : Addr) (vs : List Value) (tk' : Nat), Fr h₀ L g' m → RaisedS base g' (envX cn cs L a ccd cl :: outer) e (.type "ValueError") t vs news h' → g'.UpToSlots h' → E (.ref e) { s with heap := h', toks := tk' }) :
    wpAny (model Challenge.rw_dn0120_11.row.prog w) (ktrTop dp un gd cn cs L a ccd cl outer) (call (.ref 73) [Value.str x tx]) Q E s := by
  cases hx with
  | date hx => exact c_pa1 kB kF kK kN kT kk kd ku hx (fun D t1 t2 t3 n h' tk' => ret1 D _ _ _ t1 t2 t3 n h' tk' ⟨rfl, rfl, rfl⟩)
  | week hx hz => exact c_pa3 kB kF kK kN kT kk kd ku hx hz (fun ok D yy mm dd t1 t2 t3 n h' tk' hv ho => ret1 D yy mm dd t1 t2 t3 n h' tk' ⟨ok, hv, ho⟩) ret0
  | mix hx => exact c_pa2 kB kF kK kN kT kk kd ku hx (ret0 trivial)
  | len n7 n8 n10 xl => exact c_pa0 kB kF kK kN kT kk kd ku n7 n8 n10 xl (ret0 trivial)
section
theorem c_read {w : World} {s₀ : Shared} {mg mb : Str → Option Value} {dp un : Nat} {gd : Option (List Code)} {cn : Str} {cs : Scope} {a : Addr} {ccd : Value} {cl : List (Str × Addr)} {A₀ : Around} {base h₀ : Heap} {L : Addr} {m : Str → Option Value} {news : List (Addr × Obj)} {s : Shared} {Q E : Value → Shared → Prop} {x : Str} {tx : Tok}
    (kB : Below A₀ base [] h₀) (kF : Fr h₀ L s.heap m) (kK : (hd11.heap_39 w.params).In h₀) (kN : News h₀ L s.heap news) (kT : Top hd11.view_39 (looseW hd11.view_39 [Str.ofString "_DAYS_IN_MONTH", Str.ofString "_DAYS_BEFORE_MONTH", Str.ofString "_DI400Y", Str.ofString "_DI100Y", Str.ofString "_DI4Y"]) (ExcName.means s₀.heap) mg mb h₀) (kXB : (hd11.heap_39 w.params).In base) (kTB : Top hd11.view_39 (looseW hd11.view_39 [Str.ofString "_DAYS_IN_MONTH", Str.ofString "_DAYS_BEFORE_MONTH", Str.ofString "_DI400Y", Str.ofString "_DI100Y", Str.ofString "_DI4Y"]) (ExcName.means s₀.heap) mg mb base) (kk : cs.kind = .function) (kd : dp + 22 < recursionLimit) (ku : un + 176 < cLine) {G : Int → Int → Int → Prop} {B : Prop} (hx : Reads x G B)
    (ret1 : ∀ (D : Addr) (yy mm dd : Int) (t1 t2 t3 : Tok) (n : Nat) (h' : Heap) (tk' : Nat), G yy mm dd → Fr h₀ L h' m → News h₀ L h' ((D, W.listOf #[.int yy t1, .int mm t2, .int dd t3] n) :: news) → AllLt D news → Q (.ref D) { s with heap := h', toks := tk' })
    (ret0 : B → ∀ (t : Tok) (h' : Heap) (tk' : Nat), Fr h₀ L h' m → News h₀ L h' news → Q (.str (Str.ofString "refused") t) { s with heap := h', toks := tk' }) :
    wpAny (model Challenge.rw_dn0120_11.row.prog w) (ktrTop dp un gd cn cs L a ccd cl []) (call (.ref 111) [Value.str x tx]) Q E s := by
  w_top off
  k_with_none
  k_with "mine pre" => first | with_reducible assumption | omega | l_fact
  k_with "mine twelve" => (intro k h1 h2; rcases m12 h1 h2 with h | h | h | h | h | h | h | h | h | h | h | h <;> (subst h; exact ⟨_, rfl⟩))
  k_with "mine lt" => first | with_reducible assumption | exact (by with_reducible assumption : _ ∧ AllLt _ _).2 | exact (by with_reducible assumption : _ ∧ _ ∧ AllLt _ _).2.2 | exact (by with_reducible assumption : _ ∧ _ ∧ _ ∧ AllLt _ _).2.2.2 | exact (by with_reducible assumption : _ ∧ _ ∧ _ ∧ _ ∧ AllLt _ _).2.2.2.2
  k_with "eval Call" => (k_here; (with_reducible show wpAny _ _ (eval (PySem.Expr.Call (PySem.Expr.Name (Str.ofString "_is_leap") _) _ [] _) _) _ _ _); k_dflt (refine Call_ ?_))
  k_with "eval Call" => (k_here; (with_reducible show wpAny _ _ (eval (PySem.Expr.Call (PySem.Expr.Name (Str.ofString "_days_before_year") _) _ [] _) _) _ _ _); k_dflt (refine Call_ ?_))
  k_with "eval Call" => (k_here; (with_reducible show wpAny _ _ (eval (PySem.Expr.Call (PySem.Expr.Name (Str.ofString "_days_in_month") _) _ [] _) _) _ _ _); k_dflt (refine Call_ ?_))
  k_with "eval Call" => (k_here; (with_reducible show wpAny _ _ (eval (PySem.Expr.Call (PySem.Expr.Name (Str.ofString "_days_before_month") _) _ [] _) _) _ _ _); k_dflt (refine Call_ ?_))
  k_with "eval Call" => (k_here; (with_reducible show wpAny _ _ (eval (PySem.Expr.Call (PySem.Expr.Name (Str.ofString "_ymd2ord") _) _ [] _) _) _ _ _); k_dflt (refine Call_ ?_))
  k_with "eval Call" => (k_here; (with_reducible show wpAny _ _ (eval (PySem.Expr.Call (PySem.Expr.Name (Str.ofString "_ord2ymd") _) _ [] _) _) _ _ _); k_dflt (refine Call_ ?_))
  k_with "eval Call" => (k_here; (with_reducible show wpAny _ _ (eval (PySem.Expr.Call (PySem.Expr.Name (Str.ofString "_parse_isoformat_date") _) _ [] _) _) _ _ _); k_dflt (refine Call_ ?_))
  k_with "eval Call" => (k_here; (with_reducible show wpAny _ _ (eval (PySem.Expr.Call (PySem.Expr.Name (Str.ofString "_isoweek_to_gregorian") _) _ [] _) _) _ _ _); k_dflt (refine Call_ ?_))
  k_with "eval Call" => (k_here; (with_reducible show wpAny _ _ (eval (PySem.Expr.Call (PySem.Expr.Name (Str.ofString "_isoweek1monday") _) _ [] _) _) _ _ _); k_dflt (refine Call_ ?_))
  k_with "eval Call" => (k_here; (with_reducible show wpAny _ _ (eval (PySem.Expr.Call (PySem.Expr.Name (Str.ofString "_law_length") _) _ [] _) _) _ _ _); k_dflt (refine Call_ ?_))
  k_with "eval Call" => (k_here; (with_reducible show wpAny _ _ (eval (PySem.Expr.Call (PySem.Expr.Name (Str.ofString "_law_days") _) _ [] _) _) _ _ _); k_dflt (refine Call_ ?_))
  k_with "eval Call" => (k_here; (with_reducible show wpAny _ _ (eval (PySem.Expr.Call (PySem.Expr.Name (Str.ofString "_law_week") _) _ [] _) _) _ _ _); k_dflt (refine Call_ ?_))
  k_with "eval Call" => (k_here; (with_reducible show wpAny _ _ (eval (PySem.Expr.Call (PySem.Expr.Name (Str.ofString "_law_read") _) _ [] _) _) _ _ _); k_dflt (refine Call_ ?_))
  k_with "subscriptTail Name Name ref int" => (k_here; (with_reducible show wpAny _ _ (subscriptTail _ _ (Value.ref 15) (Value.int _ _)) _ _ _); k_dflt (refine' tab_item dimT (by k_asm) (by k_asm) (by k_is) (by walk_at "mine pre") (by walk_at "mine pre") (by walk_at "mine twelve") (by with_unfolding_all rfl) ?_; k_whole); intro t9)
  k_with "subscriptTail Name Name ref int" => (k_here; (with_reducible show wpAny _ _ (subscriptTail _ _ (Value.ref 16) (Value.int _ _)) _ _ _); k_dflt (refine' tab_item dbmT (by k_asm) (by k_asm) (by k_is) (by walk_at "mine pre") (by walk_at "mine pre") (by walk_at "mine twelve") (by with_unfolding_all rfl) ?_; k_whole); intro t9)
  k_with "call ref" => (k_here; (with_reducible show wpAny _ _ (PySem.call (Value.ref 28) _) _ _ _); k_dflt (refine' c_leap (by k_asm) (by k_asm) (by k_asm) (by k_asm) (by k_asm) (by first | exact rfl | assumption) (by ktr_room) (by ktr_units) ?_; k_whole); intro t9 h9 tk9 F9 N9; (try dsimp only); (try k_fold))
  k_with "call ref" => (k_here; (with_reducible show wpAny _ _ (PySem.call (Value.ref 35) _) _ _ _); k_dflt (refine' c_dby (by k_asm) (by k_asm) (by k_asm) (by k_asm) (by k_asm) (by first | exact rfl | assumption) (by ktr_room) (by ktr_units) ?_; k_whole); intro t9 h9 tk9 F9 N9; (try dsimp only); (try k_fold))
  k_with "call ref" => (k_here; (with_reducible show wpAny _ _ (PySem.call (Value.ref 42) _) _ _ _); k_dflt (refine' c_dim (by k_asm) (by k_asm) (by k_asm) (by k_asm) (by k_asm) (by first | exact rfl | assumption) (by ktr_room) (by ktr_units) (by walk_at "mine pre") (by walk_at "mine pre") ?_; k_whole); intro t9 h9 tk9 F9 N9; (try dsimp only); (try k_fold))
  k_with "call ref" => (k_here; (with_reducible show wpAny _ _ (PySem.call (Value.ref 49) _) _ _ _); k_dflt (refine' c_dbm (by k_asm) (by k_asm) (by k_asm) (by k_asm) (by k_asm) (by first | exact rfl | assumption) (by ktr_room) (by ktr_units) (by walk_at "mine pre") (by walk_at "mine pre") ?_; k_whole); intro t9 h9 tk9 F9 N9; (try dsimp only); (try k_fold))
  k_with "call ref" => (k_here; (with_reducible show wpAny _ _ (PySem.call (Value.ref 56) _) _ _ _); k_dflt (refine' c_ord (by k_asm) (by k_asm) (by k_asm) (by k_asm) (by k_asm) (by first | exact rfl | assumption) (by ktr_room) (by ktr_units) (by walk_at "mine pre") (by walk_at "mine pre") (by walk_at "mine pre") (by walk_at "mine pre") ?_; k_whole); intro t9 h9 tk9 hv9 F9 N9; (try dsimp only); (try k_fold))
  k_with "mine pre" => first | with_reducible assumption | omega | with_reducible exact dim_one (by decide) (by decide) | l_fact
  k_with "call ref" => (k_here; (with_reducible show wpAny _ _ (PySem.call (Value.ref 94) _) _ _ _); k_dflt (refine' c_len (by k_asm) (by k_asm) (by k_asm) (by k_asm) (by k_asm) (by first | exact rfl | assumption) (by ktr_room) (by ktr_units) (by walk_at "mine pre") (by walk_at "mine pre") ?_; k_whole); intro t9 h9 tk9 F9 N9; (try dsimp only); (try k_fold))
  k_with "call ref" => (k_here; (with_reducible show wpAny _ _ (PySem.call (Value.ref 99) _) _ _ _); k_dflt (refine' c_days (by k_asm) (by k_asm) (by k_asm) (by k_asm) (by k_asm) (by first | exact rfl | assumption) (by ktr_room) (by ktr_units) ?_; k_whole); intro t9 h9 tk9 F9 N9; (try dsimp only); (try k_fold))
  k_with "call ref" => (k_here; (with_reducible show wpAny _ _ (PySem.call (Value.ref 73) _) _ _ _); k_dflt (refine' c_pa (by k_asm) (by k_asm) (by k_asm) (by k_asm) (by k_asm) (by first | exact rfl | assumption) (by ktr_room) (by ktr_units) (by with_reducible assumption) ?_ ?_); (intro D9 yy9 mm9 dd9 t7 t8 t9 n9 h9 tk9 hG9 F9 N9 l9; (try simp only [AllLt, and_true] at l9); (try dsimp only); (try k_fold)); rotate_left; (intro hno9 g9 h9 e9 t9 vs9 tk9 F9 S9 U9; (try dsimp only); (try k_fold)); rotate_left)
  k_with "eval ListComp" => (k_here; (with_reducible show wpAny _ _ (eval (PySem.Expr.ListComp (PySem.Expr.Name _ _) [⟨PySem.Expr.Name _ _, _, [PySem.Expr.BoolOp BoolOp.Or _ _], _⟩] _ _) _) _ _ _); k_dflt (refine comp_no (F₀ := by k_asm) (by rfl) (by with_unfolding_all rfl) (by decide) (by rfl) (by decide) (by rfl) ?_ ?_))
  k_with "TestNo" => (unfold TestNo; intro n' t' I' oI' C' oC' D' oD' m' h' tk' E' s' nw' hC' hx' F' N'; (try k_fold))
  k_with "NoOk" => exact ⟨by first | rfl | decide, _, rfl⟩
  k_with "mine ints" => (refine all_ints ?_; (try dsimp only); repeat' (first | exact ints_nil | refine ints_cons ?_ | exact ints_are (by with_reducible assumption)))
  k_with "SrcNo" => (k_here; k_dflt (refine' SrcNo.intro (by k_asm) (by k_asm) (by k_mem) (by decide) (by first | exact Nat.le_of_ble_eq_true rfl | size_fits) (by walk_at "mine ints") ?_); intro D' h' tk' F' N' o1'; (try simp only [LCg.Off1, and_true] at o1'); (try dsimp only); (try k_sweep))
  k_with "subscriptTail List" => (k_here; (with_reducible show wpAny _ _ (subscriptTail _ (PySem.Expr.Slice _ none none _) (Value.ref _) (Value.ref _)) _ _ _); k_dflt (refine kba_turn (value' := PySem.Expr.Name (PySem.Str.ofString "_") ⟨0, 0, 0, 0⟩) (fun _ => rfl) ?_); k_dflt (refine' kmk_slice_ints (by k_asm) (by k_asm) (by kmk_list) (by kmk_part) (by kmk_part) (by l_ints) (by exact kmk_from (by l_ints) (by first | exact Int.natCast_nonneg _ | omega)) (by exact rfl) ?_ (by with_unfolding_all rfl) (by kmk_pure) (by exact Nat.le_of_ble_eq_true rfl)); intro D' ws' h' F' N' l1 hI' hC' hL'; clear hC' hL'; (try k_lt l1); (try k_sweep))
  k_with "assign Tuple cons ref" => (k_here; (with_reducible rename IntsAre _ (List.take 2 _ ++ _) => hI9); obtain ⟨a9, b9, u9, v9, hw9⟩ := pad2 hI9; clear hI9; subst hw9)
  k_with "assign Tuple cons ref" => (k_here; (with_reducible rename IntsAre _ (List.take 4 _ ++ _) => hI9); obtain ⟨a9, b9, c9, d9, u9, v9, x9, y9, hw9⟩ := pad4 hI9; clear hI9; subst hw9)
  w_strict (
    revert kK
    k_fill
    intro kK
    skip
    refine wpAny_call ?_
    k_dflt (refine' enterT ?k1 ?k2 ?k3 ?k4 ?k5 ?kA ?kK ?k6 ?k7 ?k8 ?k9 ?kB ?_ ?c2 ?c3 ?c4 ?c5; (case kA => exact rfl); (case kK => first | exact rfl | assumption); (case k1 => k_asm); (case k2 => k_asm); (case k3 => k_asm); (case k4 => k_asm); (case k5 => k_asm); (case k6 => k_is); (case k7 => k_is); (case k8 => ktr_room); (case k9 => exact BindsTo.of_eq rfl); (case c5 => decide); (case kB => exact locs rfl); (case c2 => exact rfl); (case c3 => exact rfl); (case c4 => exact rfl); k_whole; intro g' L' h' FG' F' N' B' X' T' D'; (try dsimp only); (try k_lift B'); (try k_fold))
    k_steps
    all_goals (first | exact ret0 (by assumption) _ _ _ (by k_asm) (by first | k_asm | exact news_tail (by assumption)) | exact ret1 _ _ _ _ _ _ _ _ _ _ (by assumption) (by k_asm) (by first | k_asm | exact news_last3 (by assumption)) (by walk_at "mine lt")))
end
theorem c_rd0 {w : World} {s₀ : Shared} {mg mb : Str → Option Value} {dp un : Nat} {gd : Option (List Code)} {cn : Str} {cs : Scope} {a : Addr} {ccd : Value} {cl : List (Str × Addr)} {A₀ : Around} {base h₀ : Heap} {L : Addr} {m : Str → Option Value} {news : List (Addr × Obj)} {s : Shared} {Q E : Value → Shared → Prop} {x : Str} {tx : Tok}
    (kB : Below A₀ base [] h₀) (kF : Fr h₀ L s.heap m) (kK : (hd11.heap_39 w.params).In h₀) (kN : News h₀ L s.heap news) (kT : Top hd11.view_39 (looseW hd11.view_39 [Str.ofString "_DAYS_IN_MONTH", Str.ofString "_DAYS_BEFORE_MONTH", Str.ofString "_DI400Y", Str.ofString "_DI100Y", Str.ofString "_DI4Y"]) (ExcName.means s₀.heap) mg mb h₀) (kXB : (hd11.heap_39 w.params).In base) (kTB : Top hd11.view_39 (looseW hd11.view_39 [Str.ofString "_DAYS_IN_MONTH", Str.ofString "_DAYS_BEFORE_MONTH", Str.ofString "_DI400Y", Str.ofString "_DI100Y", Str.ofString "_DI4Y"]) (ExcName.means s₀.heap) mg mb base) (kk : cs.kind = .function) (kd : dp + 22 < recursionLimit) (ku : un + 176 < cLine) (n7 : x.length ≠ 7) (n8 : x.length ≠ 8) (n10 : x.length ≠ 10) (xl : x.length ≤ 20)
    (ret : ∀ (t : Tok) (h' : Heap) (tk' : Nat), Fr h₀ L h' m → News h₀ L h' news → Q (.str (Str.ofString "refused") t) { s with heap := h', toks := tk' }) :
    wpAny (model Challenge.rw_dn0120_11.row.prog w) (ktrTop dp un gd cn cs L a ccd cl []) (call (.ref 111) [Value.str x tx]) Q E s := by
  exact c_read kB kF kK kN kT kXB kTB kk kd ku (.len n7 n8 n10 xl) (fun _ _ _ _ _ _ _ _ _ _ g => g.elim) (fun _ => ret)
theorem c_rd1 {w : World} {s₀ : Shared} {mg mb : Str → Option Value} {dp un : Nat} {gd : Option (List Code)} {cn : Str} {cs : Scope} {a : Addr} {ccd : Value} {cl : List (Str × Addr)} {A₀ : Around} {base h₀ : Heap} {L : Addr} {m : Str → Option Value} {news : List (Addr × Obj)} {s : Shared} {Q E : Value → Shared → Prop} {x : Str} {tx : Tok}
    (kB : Below A₀ base [] h₀) (kF : Fr h₀ L s.heap m) (kK : (hd11.heap_39 w.params).In h₀) (kN : News h₀ L s.heap news) (kT : Top hd11.view_39 (looseW hd11.view_39 [Str.ofString "_DAYS_IN_MONTH", Str.ofString "_DAYS_BEFORE_MONTH", Str.ofString "_DI400Y", Str.ofString "_DI100Y", Str.ofString "_DI4Y"]) (ExcName.means s₀.heap) mg mb h₀) (kXB : (hd11.heap_39 w.params).In base) (kTB : Top hd11.view_39 (looseW hd11.view_39 [Str.ofString "_DAYS_IN_MONTH", Str.ofString "_DAYS_BEFORE_MONTH", Str.ofString "_DI400Y", Str.ofString "_DI100Y", Str.ofString "_DI4Y"]) (ExcName.means s₀.heap) mg mb base) (kk : cs.kind = .function) (kd : dp + 22 < recursionLimit) (ku : un + 176 < cLine) {y mo d : Int} (hx : DateText x y mo d)
    (ret : ∀ (D : Addr) (t1 t2 t3 : Tok) (n : Nat) (h' : Heap) (tk' : Nat), Fr h₀ L h' m → News h₀ L h' ((D, W.listOf #[.int y t1, .int mo t2, .int d t3] n) :: news) → AllLt D news → Q (.ref D) { s with heap := h', toks := tk' }) :
    wpAny (model Challenge.rw_dn0120_11.row.prog w) (ktrTop dp un gd cn cs L a ccd cl []) (call (.ref 111) [Value.str x tx]) Q E s := by
  exact c_read kB kF kK kN kT kXB kTB kk kd ku (.date (dateF hx)) (fun D _ _ _ t1 t2 t3 n h' tk' g => by obtain ⟨rfl, rfl, rfl⟩ := g; exact ret D t1 t2 t3 n h' tk') (fun g => g.elim)
theorem c_rd2 {w : World} {s₀ : Shared} {mg mb : Str → Option Value} {dp un : Nat} {gd : Option (List Code)} {cn : Str} {cs : Scope} {a : Addr} {ccd : Value} {cl : List (Str × Addr)} {A₀ : Around} {base h₀ : Heap} {L : Addr} {m : Str → Option Value} {news : List (Addr × Obj)} {s : Shared} {Q E : Value → Shared → Prop} {x : Str} {tx : Tok}
    (kB : Below A₀ base [] h₀) (kF : Fr h₀ L s.heap m) (kK : (hd11.heap_39 w.params).In h₀) (kN : News h₀ L s.heap news) (kT : Top hd11.view_39 (looseW hd11.view_39 [Str.ofString "_DAYS_IN_MONTH", Str.ofString "_DAYS_BEFORE_MONTH", Str.ofString "_DI400Y", Str.ofString "_DI100Y", Str.ofString "_DI4Y"]) (ExcName.means s₀.heap) mg mb h₀) (kXB : (hd11.heap_39 w.params).In base) (kTB : Top hd11.view_39 (looseW hd11.view_39 [Str.ofString "_DAYS_IN_MONTH", Str.ofString "_DAYS_BEFORE_MONTH", Str.ofString "_DI400Y", Str.ofString "_DI100Y", Str.ofString "_DI4Y"]) (ExcName.means s₀.heap) mg mb base) (kk : cs.kind = .function) (kd : dp + 22 < recursionLimit) (ku : un + 176 < cLine) (hx : MixText x)
    (ret : ∀ (t : Tok) (h' : Heap) (tk' : Nat), Fr h₀ L h' m → News h₀ L h' news → Q (.str (Str.ofString "refused") t) { s with heap := h', toks := tk' }) :
    wpAny (model Challenge.rw_dn0120_11.row.prog w) (ktrTop dp un gd cn cs L a ccd cl []) (call (.ref 111) [Value.str x tx]) Q E s := by
  exact c_read kB kF kK kN kT kXB kTB kk kd ku (.mix (mixF hx)) (fun _ _ _ _ _ _ _ _ _ _ g => g.elim) (fun _ => ret)
theorem c_rd3a {w : World} {s₀ : Shared} {mg mb : Str → Option Value} {dp un : Nat} {gd : Option (List Code)} {cn : Str} {cs : Scope} {a : Addr} {ccd : Value} {cl : List (Str × Addr)} {A₀ : Around} {base h₀ : Heap} {L : Addr} {m : Str → Option Value} {news : List (Addr × Obj)} {s : Shared} {Q E : Value → Shared → Prop} {x : Str} {tx : Tok}
    (kB : Below A₀ base [] h₀) (kF : Fr h₀ L s.heap m) (kK : (hd11.heap_39 w.params).In h₀) (kN : News h₀ L s.heap news) (kT : Top hd11.view_39 (looseW hd11.view_39 [Str.ofString "_DAYS_IN_MONTH", Str.ofString "_DAYS_BEFORE_MONTH", Str.ofString "_DI400Y", Str.ofString "_DI100Y", Str.ofString "_DI4Y"]) (ExcName.means s₀.heap) mg mb h₀) (kXB : (hd11.heap_39 w.params).In base) (kTB : Top hd11.view_39 (looseW hd11.view_39 [Str.ofString "_DAYS_IN_MONTH", Str.ofString "_DAYS_BEFORE_MONTH", Str.ofString "_DI400Y", Str.ofString "_DI100Y", Str.ofString "_DI4Y"]) (ExcName.means s₀.heap) mg mb base) (kk : cs.kind = .function) (kd : dp + 22 < recursionLimit) (ku : un + 176 < cLine) {y k d : Int} (hx : WeekText x y k d) (ok : WeekOk y k d)
    (ret : ∀ (D : Addr) (yy mm dd : Int) (t1 t2 t3 : Tok) (n : Nat) (h' : Heap) (tk' : Nat), Valid yy mm dd → ord yy mm dd = num y k d → Fr h₀ L h' m → News h₀ L h' ((D, W.listOf #[.int yy t1, .int mm t2, .int dd t3] n) :: news) → AllLt D news → Q (.ref D) { s with heap := h', toks := tk' }) :
    wpAny (model Challenge.rw_dn0120_11.row.prog w) (ktrTop dp un gd cn cs L a ccd cl []) (call (.ref 111) [Value.str x tx]) Q E s := by
  exact c_read kB kF kK kN kT kXB kTB kk kd ku (.week (weekF hx).1 (weekF hx).2) (fun D yy mm dd t1 t2 t3 n h' tk' g => ret D yy mm dd t1 t2 t3 n h' tk' g.2.1 g.2.2) (fun no => absurd ok no)
theorem c_rd3b {w : World} {s₀ : Shared} {mg mb : Str → Option Value} {dp un : Nat} {gd : Option (List Code)} {cn : Str} {cs : Scope} {a : Addr} {ccd : Value} {cl : List (Str × Addr)} {A₀ : Around} {base h₀ : Heap} {L : Addr} {m : Str → Option Value} {news : List (Addr × Obj)} {s : Shared} {Q E : Value → Shared → Prop} {x : Str} {tx : Tok}
    (kB : Below A₀ base [] h₀) (kF : Fr h₀ L s.heap m) (kK : (hd11.heap_39 w.params).In h₀) (kN : News h₀ L s.heap news) (kT : Top hd11.view_39 (looseW hd11.view_39 [Str.ofString "_DAYS_IN_MONTH", Str.ofString "_DAYS_BEFORE_MONTH", Str.ofString "_DI400Y", Str.ofString "_DI100Y", Str.ofString "_DI4Y"]) (ExcName.means s₀.heap) mg mb h₀) (kXB : (hd11.heap_39 w.params).In base) (kTB : Top hd11.view_39 (looseW hd11.view_39 [Str.ofString "_DAYS_IN_MONTH", Str.ofString "_DAYS_BEFORE_MONTH", Str.ofString "_DI400Y", Str.ofString "_DI100Y", Str.ofString "_DI4Y"]) (ExcName.means s₀.heap) mg mb base) (kk : cs.kind = .function) (kd : dp + 22 < recursionLimit) (ku : un + 176 < cLine) {y k d : Int} (hx : WeekText x y k d) (no : ¬ WeekOk y k d)
    (ret : ∀ (t : Tok) (h' : Heap) (tk' : Nat), Fr h₀ L h' m → News h₀ L h' news → Q (.str (Str.ofString "refused") t) { s with heap := h', toks := tk' }) :
    wpAny (model Challenge.rw_dn0120_11.row.prog w) (ktrTop dp un gd cn cs L a ccd cl []) (call (.ref 111) [Value.str x tx]) Q E s := by
  exact c_read kB kF kK kN kT kXB kTB kk kd ku (.week (weekF hx).1 (weekF hx).2) (fun _ _ _ _ _ _ _ _ _ _ g => absurd g.1 no) (fun _ => ret)
theorem c_wkB {w : World} {s₀ : Shared} {mg mb : Str → Option Value} {dp un : Nat} {gd : Option (List Code)} {cn : Str} {cs : Scope} {a : Addr} {ccd : Value} {cl : List (Str × Addr)} {outer : List Env} {A₀ : Around} {base h₀ : Heap} {L : Addr} {m : Str → Option Value} {news : List (Addr × Obj)} {s : Shared} {Q E : Value → Shared → Prop} {y : Int} {ty : Tok} {k : Int} {tk : Tok} {d : Int} {td : Tok}
    (kB : Below A₀ base outer h₀) (kF : Fr h₀ L s.heap m) (kK : (hd11.heap_39 w.params).In h₀) (kN : News h₀ L s.heap news) (kT : Top hd11.view_39 (looseW hd11.view_39 [Str.ofString "_DAYS_IN_MONTH", Str.ofString "_DAYS_BEFORE_MONTH", Str.ofString "_DI400Y", Str.ofString "_DI100Y", Str.ofString "_DI4Y"]) (ExcName.means s₀.heap) mg mb h₀) (kk : cs.kind = .function) (kd : dp + 10 < recursionLimit) (ku : un + 80 < cLine) (y0 : 0 ≤ y)
    (ret1 : WeekOk y k d → ∀ (D : Addr) (yy mm dd : Int) (t1 t2 t3 : Tok) (h' : Heap) (tk' : Nat), Valid yy mm dd → ord yy mm dd = num y k d → Fr h₀ L h' m → News h₀ L h' ((D, W.listOf #[.int yy t1, .int mm t2, .int dd t3] 0) :: news) → AllLt D news → Q (.ref D) { s with heap := h', toks := tk' })
    (ret0 : ¬ WeekOk y k d → ∀ (t : Tok) (h' : Heap) (tk' : Nat), Fr h₀ L h' m → News h₀ L h' news → Q (.str (Str.ofString "refused") t) { s with heap := h', toks := tk' }) :
    wpAny (model Challenge.rw_dn0120_11.row.prog w) (ktrTop dp un gd cn cs L a ccd cl outer) (call (.ref 106) [Value.int y ty, Value.int k tk, Value.int d td]) Q E s := by
  by_cases ok : WeekOk y k d
  · exact c_wk1 kB kF kK kN kT kk kd ku ok (ret1 ok)
  · exact c_wk0 kB kF kK kN kT kk kd ku y0 ok (ret0 ok)
local macro_rules | `(tactic| k_ne) => `(tactic| k_extra "mine ne")
set_option maxHeartbeats 0 in
theorem t11 : PySem.Challenge.rw_dn0120_11.Holds := by
  refine hd11 ?_
  w_top off
  k_with_none
  k_with "mine pre" => first | with_reducible assumption | omega | l_fact
  k_with "mine twelve" => (intro k h1 h2; rcases m12 h1 h2 with h | h | h | h | h | h | h | h | h | h | h | h <;> (subst h; exact ⟨_, rfl⟩))
  k_with "mine lt" => first | with_reducible assumption | exact (by with_reducible assumption : _ ∧ AllLt _ _).2 | exact (by with_reducible assumption : _ ∧ _ ∧ AllLt _ _).2.2 | exact (by with_reducible assumption : _ ∧ _ ∧ _ ∧ AllLt _ _).2.2.2 | exact (by with_reducible assumption : _ ∧ _ ∧ _ ∧ _ ∧ AllLt _ _).2.2.2.2
  k_with "eval Call" => (k_here; (with_reducible show wpAny _ _ (eval (PySem.Expr.Call (PySem.Expr.Name (Str.ofString "_is_leap") _) _ [] _) _) _ _ _); k_dflt (refine Call_ ?_))
  k_with "eval Call" => (k_here; (with_reducible show wpAny _ _ (eval (PySem.Expr.Call (PySem.Expr.Name (Str.ofString "_days_before_year") _) _ [] _) _) _ _ _); k_dflt (refine Call_ ?_))
  k_with "eval Call" => (k_here; (with_reducible show wpAny _ _ (eval (PySem.Expr.Call (PySem.Expr.Name (Str.ofString "_days_in_month") _) _ [] _) _) _ _ _); k_dflt (refine Call_ ?_))
  k_with "eval Call" => (k_here; (with_reducible show wpAny _ _ (eval (PySem.Expr.Call (PySem.Expr.Name (Str.ofString "_days_before_month") _) _ [] _) _) _ _ _); k_dflt (refine Call_ ?_))
  k_with "eval Call" => (k_here; (with_reducible show wpAny _ _ (eval (PySem.Expr.Call (PySem.Expr.Name (Str.ofString "_ymd2ord") _) _ [] _) _) _ _ _); k_dflt (refine Call_ ?_))
  k_with "eval Call" => (k_here; (with_reducible show wpAny _ _ (eval (PySem.Expr.Call (PySem.Expr.Name (Str.ofString "_ord2ymd") _) _ [] _) _) _ _ _); k_dflt (refine Call_ ?_))
  k_with "eval Call" => (k_here; (with_reducible show wpAny _ _ (eval (PySem.Expr.Call (PySem.Expr.Name (Str.ofString "_parse_isoformat_date") _) _ [] _) _) _ _ _); k_dflt (refine Call_ ?_))
  k_with "eval Call" => (k_here; (with_reducible show wpAny _ _ (eval (PySem.Expr.Call (PySem.Expr.Name (Str.ofString "_isoweek_to_gregorian") _) _ [] _) _) _ _ _); k_dflt (refine Call_ ?_))
  k_with "eval Call" => (k_here; (with_reducible show wpAny _ _ (eval (PySem.Expr.Call (PySem.Expr.Name (Str.ofString "_isoweek1monday") _) _ [] _) _) _ _ _); k_dflt (refine Call_ ?_))
  k_with "eval Call" => (k_here; (with_reducible show wpAny _ _ (eval (PySem.Expr.Call (PySem.Expr.Name (Str.ofString "_law_length") _) _ [] _) _) _ _ _); k_dflt (refine Call_ ?_))
  k_with "eval Call" => (k_here; (with_reducible show wpAny _ _ (eval (PySem.Expr.Call (PySem.Expr.Name (Str.ofString "_law_days") _) _ [] _) _) _ _ _); k_dflt (refine Call_ ?_))
  k_with "eval Call" => (k_here; (with_reducible show wpAny _ _ (eval (PySem.Expr.Call (PySem.Expr.Name (Str.ofString "_law_week") _) _ [] _) _) _ _ _); k_dflt (refine Call_ ?_))
  k_with "eval Call" => (k_here; (with_reducible show wpAny _ _ (eval (PySem.Expr.Call (PySem.Expr.Name (Str.ofString "_law_read") _) _ [] _) _) _ _ _); k_dflt (refine Call_ ?_))
  k_with "subscriptTail Name Name ref int" => (k_here; (with_reducible show wpAny _ _ (subscriptTail _ _ (Value.ref 15) (Value.int _ _)) _ _ _); k_dflt (refine' tab_item dimT (by k_asm) (by k_asm) (by k_is) (by walk_at "mine pre") (by walk_at "mine pre") (by walk_at "mine twelve") (by with_unfolding_all rfl) ?_; k_whole); intro t9)
  k_with "subscriptTail Name Name ref int" => (k_here; (with_reducible show wpAny _ _ (subscriptTail _ _ (Value.ref 16) (Value.int _ _)) _ _ _); k_dflt (refine' tab_item dbmT (by k_asm) (by k_asm) (by k_is) (by walk_at "mine pre") (by walk_at "mine pre") (by walk_at "mine twelve") (by with_unfolding_all rfl) ?_; k_whole); intro t9)
  k_with "call ref" => (k_here; (with_reducible show wpAny _ _ (PySem.call (Value.ref 28) _) _ _ _); k_dflt (refine' c_leap (by k_asm) (by k_asm) (by k_asm) (by k_asm) (by k_asm) (by first | exact rfl | assumption) (by ktr_room) (by ktr_units) ?_; k_whole); intro t9 h9 tk9 F9 N9; (try dsimp only); (try k_fold))
  k_with "call ref" => (k_here; (with_reducible show wpAny _ _ (PySem.call (Value.ref 35) _) _ _ _); k_dflt (refine' c_dby (by k_asm) (by k_asm) (by k_asm) (by k_asm) (by k_asm) (by first | exact rfl | assumption) (by ktr_room) (by ktr_units) ?_; k_whole); intro t9 h9 tk9 F9 N9; (try dsimp only); (try k_fold))
  k_with "call ref" => (k_here; (with_reducible show wpAny _ _ (PySem.call (Value.ref 42) _) _ _ _); k_dflt (refine' c_dim (by k_asm) (by k_asm) (by k_asm) (by k_asm) (by k_asm) (by first | exact rfl | assumption) (by ktr_room) (by ktr_units) (by walk_at "mine pre") (by walk_at "mine pre") ?_; k_whole); intro t9 h9 tk9 F9 N9; (try dsimp only); (try k_fold))
  k_with "call ref" => (k_here; (with_reducible show wpAny _ _ (PySem.call (Value.ref 49) _) _ _ _); k_dflt (refine' c_dbm (by k_asm) (by k_asm) (by k_asm) (by k_asm) (by k_asm) (by first | exact rfl | assumption) (by ktr_room) (by ktr_units) (by walk_at "mine pre") (by walk_at "mine pre") ?_; k_whole); intro t9 h9 tk9 F9 N9; (try dsimp only); (try k_fold))
  k_with "call ref" => (k_here; (with_reducible show wpAny _ _ (PySem.call (Value.ref 56) _) _ _ _); k_dflt (refine' c_ord (by k_asm) (by k_asm) (by k_asm) (by k_asm) (by k_asm) (by first | exact rfl | assumption) (by ktr_room) (by ktr_units) (by walk_at "mine pre") (by walk_at "mine pre") (by walk_at "mine pre") (by walk_at "mine pre") ?_; k_whole); intro t9 h9 tk9 hv9 F9 N9; (try dsimp only); (try k_fold))
  k_with "mine pre" => first | with_reducible assumption | omega | with_reducible exact dim_one (by decide) (by decide) | l_fact
  k_with "call ref" => (k_here; (with_reducible show wpAny _ _ (PySem.call (Value.ref 94) _) _ _ _); k_dflt (refine' c_len (by k_asm) (by k_asm) (by k_asm) (by k_asm) (by k_asm) (by first | exact rfl | assumption) (by ktr_room) (by ktr_units) (by walk_at "mine pre") (by walk_at "mine pre") ?_; k_whole); intro t9 h9 tk9 F9 N9; (try dsimp only); (try k_fold))
  k_with "call ref" => (k_here; (with_reducible show wpAny _ _ (PySem.call (Value.ref 99) _) _ _ _); k_dflt (refine' c_days (by k_asm) (by k_asm) (by k_asm) (by k_asm) (by k_asm) (by first | exact rfl | assumption) (by ktr_room) (by ktr_units) ?_; k_whole); intro t9 h9 tk9 F9 N9; (try dsimp only); (try k_fold))
  k_with "eval ListComp" => (k_here; (with_reducible show wpAny _ _ (eval (PySem.Expr.ListComp (PySem.Expr.Name _ _) [⟨PySem.Expr.Name _ _, _, [PySem.Expr.BoolOp BoolOp.Or _ _], _⟩] _ _) _) _ _ _); k_dflt (refine comp_no (F₀ := by k_asm) (by rfl) (by with_unfolding_all rfl) (by decide) (by rfl) (by decide) (by rfl) ?_ ?_))
  k_with "TestNo" => (unfold TestNo; intro n' t' I' oI' C' oC' D' oD' m' h' tk' E' s' nw' hC' hx' F' N'; (try k_fold))
  k_with "NoOk" => exact ⟨by first | rfl | decide, _, rfl⟩
  k_with "mine ints" => (refine all_ints ?_; (try dsimp only); repeat' (first | exact ints_nil | refine ints_cons ?_ | exact ints_are (by with_reducible assumption)))
  k_with "SrcNo" => (k_here; k_dflt (refine' SrcNo.intro (by k_asm) (by k_asm) (by k_mem) (by decide) (by first | exact Nat.le_of_ble_eq_true rfl | size_fits) (by walk_at "mine ints") ?_); intro D' h' tk' F' N' o1'; (try simp only [LCg.Off1, and_true] at o1'); (try dsimp only); (try k_sweep))
  k_with "subscriptTail List" => (k_here; (with_reducible show wpAny _ _ (subscriptTail _ (PySem.Expr.Slice _ none none _) (Value.ref _) (Value.ref _)) _ _ _); k_dflt (refine kba_turn (value' := PySem.Expr.Name (PySem.Str.ofString "_") ⟨0, 0, 0, 0⟩) (fun _ => rfl) ?_); k_dflt (refine' kmk_slice_ints (by k_asm) (by k_asm) (by kmk_list) (by kmk_part) (by kmk_part) (by l_ints) (by exact kmk_from (by l_ints) (by first | exact Int.natCast_nonneg _ | omega)) (by exact rfl) ?_ (by with_unfolding_all rfl) (by kmk_pure) (by exact Nat.le_of_ble_eq_true rfl)); intro D' ws' h' F' N' l1 hI' hC' hL'; clear hC' hL'; (try k_lt l1); (try k_sweep))
  k_with "assign Tuple cons ref" => (k_here; (with_reducible rename IntsAre _ (List.take 2 _ ++ _) => hI9); obtain ⟨a9, b9, u9, v9, hw9⟩ := pad2 hI9; clear hI9; subst hw9)
  k_with "assign Tuple cons ref" => (k_here; (with_reducible rename IntsAre _ (List.take 4 _ ++ _) => hI9); obtain ⟨a9, b9, c9, d9, u9, v9, x9, y9, hw9⟩ := pad4 hI9; clear hI9; subst hw9)
  k_with "call builtin:divmod" => (k_here; (with_reducible show wpAny _ _ (PySem.call _ [Value.int _ _, Value.int _ _]) _ _ _); k_dflt (refine' divmod_gen (by k_asm) (by k_asm) (by decide) (by decide) ?_; k_whole); intro q' r' D' h' t1' t2' tk' dvE dvL dvU F' N' l1; (try simp only [AllLt] at l1); (try k_sweep))
  k_with "mine proj" => (intro hq; (repeat (first | exact hq.1 | exact hq | replace hq := hq.2)); done)
  k_with "mine ne" => (refine neN ?_; (try dsimp only); first | exact Nat.ne_of_lt (by with_reducible assumption) | exact Nat.ne_of_gt (by with_reducible assumption) | (refine conj_lt (by with_reducible assumption) ?_; walk_at "mine proj") | (refine conj_gt (by with_reducible assumption) ?_; walk_at "mine proj") | (refine conj_ne1 (by with_reducible assumption) ?_; walk_at "mine proj") | (refine conj_ne2 (by with_reducible assumption) ?_; walk_at "mine proj") | exact Nat.ne_of_lt (Nat.lt_succ_self _) | exact Nat.ne_of_gt (Nat.lt_succ_self _) | omega)
  k_with "execs nil" => (k_here; (try dsimp only); with_reducible k_gentoks)
  k_with "execs cons" => (k_here; (try dsimp only); with_reducible k_gentoks)
  k_with "mine end" => fail "no end"
  k_with "inplaceOp Add ref ref" => (k_here; k_dflt (refine' iadd_tuples (by k_asm) (by k_asm) (by k_mem) (by k_mem) (by simp) (by simp) (by simp) ?_; k_whole); intro D' h' F' N' l1; (try simp only [AllLt, and_true] at l1); (try dsimp only); (try k_sweep))
  k_with "subscriptTail Name Name ref int" => (k_here; (with_reducible show wpAny _ _ (subscriptTail (PySem.Expr.Name (Str.ofString "forms") _) _ (Value.ref _) (Value.int _ _)) _ _ _); k_dflt (refine' item_form (by k_asm) (by k_mem) (by omega) (by omega) forms_are (by with_unfolding_all rfl) ?_; k_whole); intro t9)
  k_with "binaryOp Mod int int" => (k_here; (with_reducible show wpAny _ _ (binaryOp _ (Value.int _ _) (Value.int 10 _)) _ _ _); refine mod_pos (by decide) ?_; intro r9 t9 hr2 hr3)
  k_with "exec For Name Subscript cons nil" => (k_here; (rename Fr _ _ _ _ => lF'); (with_unfolding_all refine' For_invVF lF' (by exact rfl) (by exact rfl) ?_; k_whole))
  k_with "pyIter str" => k_state (fun pre text figures rest => Rn pre text figures ∧ text.length ≤ 10 ∧ figures.length ≤ 10) "text" "figures" "rest"
  k_with "pyIter ref" => (k_here; (with_reducible show wpAny _ _ (pyIter (Value.ref _)) (fun it s₂ => LoopAtV _ _ _ _ _ _ _ _ _ it s₂) _ _); k_dflt (refine' range_quiet (by exact rfl) (by assumption) (twice_range (by with_reducible assumption)).1 (twice_range (by with_reducible assumption)).2 (by k_asm) (by k_asm) ?_ ?_); (intro k9 t9 h9 tk9 own9 hk8 hk9 F9 N9; (try dsimp only); (try k_fold)); rotate_left; (intro u9 h9 tk9 F9 N9; (try dsimp only); (try k_fold)); rotate_left)
  k_with "compareOp NotIn int ref" => (k_here; k_dflt (refine' notin_710 (by k_asm) (by k_mem) ?_; k_whole))
  k_with "QuietEnd" => exact QuietEnd.intro (by k_asm) (by first | with_reducible assumption | exact news_tail (by with_reducible assumption) | exact news_tail (by assumption) | assumption)
  k_with "state" => (with_reducible first | exact True.intro | exact rn_start | exact rn_item (by assumption) (by assumption) (by assumption) (by assumption) (by assumption) | exact rn_sign (by assumption) (by assumption) (by assumption))
  k_with "compareOp Eq str str" => (k_here; (with_reducible show wpAny _ _ (compareOp CmpOp.Eq (Value.str (PySem.Str.mk _) _) (Value.str (Str.ofString "0") _)) _ _ _); k_dflt (refine sign_eq ?_))
  k_with "call builtin:list.append" => (k_here; (with_reducible show wpAny _ _ (PySem.call (Value.builtin _) [Value.ref _, Value.int _ _]) _ _ _); k_dflt (refine' append_ints (by k_asm) (by k_asm) (by k_upd) (by with_reducible assumption) (by with_reducible assumption) ?_; k_whole); intro h' F' N'; (try k_sweep))
  k_with "subscriptTail Name Constant ref int" => (k_here; (with_reducible show wpAny _ _ (subscriptTail (PySem.Expr.Name (Str.ofString "figures") _) _ (Value.ref _) (Value.int _ _)) _ _ _); k_dflt (refine' fig_read (by is_list) (by with_reducible assumption) (by decide) (by decide) (by first | exact figs6 (by with_reducible assumption) (by with_reducible assumption) (by with_reducible assumption) (by decide) | exact figs8 (by with_reducible assumption) (by with_reducible assumption) (by with_reducible assumption) (by decide) | exact figs7 (by with_reducible assumption) (by with_reducible assumption) (by with_reducible assumption) (by with_reducible assumption) (by with_reducible assumption) (by decide)) (by with_unfolding_all rfl) ?_; k_whole); intro t9)
  k_with "call ref" => (k_here; (with_reducible show wpAny _ _ (PySem.call (Value.ref 106) _) _ _ _); (first | (have hW9 := week7_of (by with_reducible assumption) (by with_reducible assumption) (by with_reducible assumption) (by with_reducible assumption)) | (have hW9 := week1_of (by with_reducible assumption) (by with_reducible assumption) (by with_reducible assumption) (by with_reducible assumption))); k_dflt (refine' c_wkB (by k_asm) (by k_asm) (by k_asm) (by k_asm) (by k_asm) (by first | exact rfl | assumption) (by ktr_room) (by ktr_units) (week_year hW9) ?_ ?_); (intro hok9 D9 yy9 mm9 dd9 t7 t8 t9 h9 tk9 hV9 hO9 F9 N9 l9; (try simp only [AllLt, and_true] at l9); (try dsimp only); (try k_fold)); rotate_left; (intro hno9 t9 h9 tk9 F9 N9; (try dsimp only); (try k_fold)); rotate_left)
  k_with "call ref" => (k_here; (with_reducible show wpAny _ _ (PySem.call (Value.ref 111) _) _ _ _); (obtain ⟨hz1, hz2, hz3, hz4⟩ := head_facts (by with_reducible assumption) (by with_reducible assumption) (by with_reducible assumption) (by with_reducible assumption) (by with_reducible assumption) (by with_reducible assumption)); k_dflt (refine' c_rd0 (by k_asm) (by k_asm) (by k_asm) (by k_asm) (by k_asm) (by k_asm) (by k_asm) (by first | exact rfl | assumption) (by ktr_room) (by ktr_units) hz1 hz2 hz3 hz4 ?_; k_whole); intro t9 h9 tk9 F9 N9; (try dsimp only); (try k_fold))
  k_with "call ref" => (k_here; (with_reducible show wpAny _ _ (PySem.call (Value.ref 111) _) _ _ _); k_dflt (refine' c_rd1 (by k_asm) (by k_asm) (by k_asm) (by k_asm) (by k_asm) (by k_asm) (by k_asm) (by first | exact rfl | assumption) (by ktr_room) (by ktr_units) (date_of (by with_reducible assumption) (by with_reducible assumption) (by with_reducible assumption)) ?_; k_whole); intro D9 t7 t8 t9 n9 h9 tk9 F9 N9 l9; (try simp only [AllLt, and_true] at l9); (try dsimp only); (try k_fold))
  k_with "call ref" => (k_here; (with_reducible show wpAny _ _ (PySem.call (Value.ref 111) _) _ _ _); k_dflt (refine' c_rd2 (by k_asm) (by k_asm) (by k_asm) (by k_asm) (by k_asm) (by k_asm) (by k_asm) (by first | exact rfl | assumption) (by ktr_room) (by ktr_units) (mix_of (by with_reducible assumption) (by with_reducible assumption) (by with_reducible assumption)) ?_; k_whole); intro t9 h9 tk9 F9 N9; (try dsimp only); (try k_fold))
  k_with "call ref" => (k_here; (with_reducible show wpAny _ _ (PySem.call (Value.ref 111) _) _ _ _); k_dflt (refine' c_rd3a (by k_asm) (by k_asm) (by k_asm) (by k_asm) (by k_asm) (by k_asm) (by k_asm) (by first | exact rfl | assumption) (by ktr_room) (by ktr_units) (by with_reducible assumption) (by with_reducible assumption) ?_; k_whole); intro D9 yy9 mm9 dd9 t7 t8 t9 n9 h9 tk9 hV9 hO9 F9 N9 l9; (try simp only [AllLt, and_true] at l9); (try dsimp only); (try k_fold))
  k_with "call ref" => (k_here; (with_reducible show wpAny _ _ (PySem.call (Value.ref 111) _) _ _ _); k_dflt (refine' c_rd3b (by k_asm) (by k_asm) (by k_asm) (by k_asm) (by k_asm) (by k_asm) (by k_asm) (by first | exact rfl | assumption) (by ktr_room) (by ktr_units) (by with_reducible assumption) (by with_reducible assumption) ?_; k_whole); intro t9 h9 tk9 F9 N9; (try dsimp only); (try k_fold))
  k_with "compareOp NotEq ref ref" => (k_here; k_dflt (refine' ne_lists (by k_asm) (by k_mem) (by k_mem) (by first | ke_room | ktr_units) (by first | exact ⟨rfl, rfl, rfl⟩ | with_reducible exact ord_inj (by assumption) (by assumption) (same_num (by assumption) (by assumption))) ?_; k_whole))
  k_with "truthy bool" => (k_here; (with_reducible show wpAny _ _ (truthy (Value.bool (!List.any _ _))) _ _ _); k_dflt (refine truthy_710 ?_ ?_); (intro hk7 hk8 hk10))
  k_with "execs cons" => (k_here; (with_reducible show wpAny _ _ (execs (PySem.Stmt.If (PySem.Expr.Compare (PySem.Expr.Name (Str.ofString "kind") _) _ _ _) _ _ _ :: _ :: _ :: _) _) _ _ _); k_dflt (refine' cut_two (by k_asm) (by with_unfolding_all rfl) ?_ ?_); rotate_left; (intro m9 news9 h9 tk9 F9 N9; (try dsimp only); (try k_fold)); rotate_left)
  k_with "CutF" => exact CutF.intro (by k_asm) (by k_asm) (by with_unfolding_all rfl)
  w_strict (k_go0; (all_goals try k_fold); (repeat' (first | (k_unfold; (try dsimp only)) | (walk_at "mine bool end") | ((with_reducible show GoodW _ _ _ _ _ _ _); kc_bool; (refine goodW_bool (by with_reducible assumption) (by with_reducible assumption) (raisesW_false ?_) ?_); (· wrow_none_raised); (· ((refine postW_of (by wrow_shape) (w_eq_bool (w_res rfl) w_lit) ?_); rfl))) | (k_end; dsimp only; k_unfold; (try dsimp only)) | (k_end; kc_close) | walk1 | (dsimp only; walk1) | (leave1; (try dsimp only)) | fail "no step")))
end
end Mine
theorem PySem.Challenge.cw_dn0120_11_holds : PySem.Challenge.rw_dn0120_11.Holds := by
  exact Mine.t11
