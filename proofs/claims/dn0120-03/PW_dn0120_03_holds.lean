import PyProof.Rows.All
import Wide.All
import OpenK.AllK
import Wide.FinOn
import Lean
import PySem.Challenge.RW_dn0120_03
open PySem PySem.W PyProof.Rows
set_option Elab.async false
set_option maxRecDepth 100000
set_option maxHeartbeats 8000000
set_option linter.unusedVariables false
namespace Mine
section
def leap (y : Int) : Bool := decide (y % 4 = 0) && (!decide (y % 100 = 0) || decide (y % 400 = 0))
def dby (y : Int) : Int := (y - 1) * 365 + (y - 1) / 4 - (y - 1) / 100 + (y - 1) / 400
def dimT (m : Int) : Int := if m = 2 then 28 else if m = 4 ∨ m = 6 ∨ m = 9 ∨ m = 11 then 30 else 31
def dbmT (m : Int) : Int := if m = 1 then 0 else if m = 2 then 31 else if m = 3 then 59 else if m = 4 then 90 else if m = 5 then 120 else if m = 6 then 151 else if m = 7 then 181 else if m = 8 then 212 else if m = 9 then 243 else if m = 10 then 273 else if m = 11 then 304 else 334
/-- a leap year's day more -/
def lpd (y : Int) : Int := if leap y = true then 1 else 0
def dim (y m : Int) : Int := dimT m + if m = 2 then lpd y else 0
def dbm (y m : Int) : Int := dbmT m + if 2 < m then lpd y else 0
def Valid (y m d : Int) : Prop := 1 ≤ m ∧ m ≤ 12 ∧ 1 ≤ d ∧ d ≤ dim y m
def ord (y m d : Int) : Int := dby y + dbm y m + d
theorem m12 {m : Int} (h1 : 1 ≤ m) (h2 : m ≤ 12) : m = 1 ∨ m = 2 ∨ m = 3 ∨ m = 4 ∨ m = 5 ∨ m = 6 ∨ m = 7 ∨ m = 8 ∨ m = 9 ∨ m = 10 ∨ m = 11 ∨ m = 12 := by omega
theorem lpd_01 (y : Int) : 0 ≤ lpd y ∧ lpd y ≤ 1 := by unfold lpd; split <;> decide
theorem leap_iff (y : Int) : leap y = true ↔ (y % 4 = 0 ∧ (y % 100 ≠ 0 ∨ y % 400 = 0)) := by
  simp only [leap, Bool.and_eq_true, Bool.or_eq_true, decide_eq_true_eq, Bool.not_eq_true', decide_eq_false_iff_not, ne_eq]
theorem lpd_iff (y : Int) : lpd y = 1 ↔ (y % 4 = 0 ∧ (y % 100 ≠ 0 ∨ y % 400 = 0)) := by
  rw [← leap_iff]; unfold lpd; split <;> simp_all
theorem dby_succ (y : Int) : dby (y + 1) = dby y + 365 + lpd y := by
  have h := lpd_iff y
  have h2 := lpd_01 y
  unfold dby
  omega
theorem dim_pos {y m : Int} (h1 : 1 ≤ m) (h2 : m ≤ 12) : 28 ≤ dim y m ∧ dim y m ≤ 31 := by
  have h := lpd_01 y
  rcases m12 h1 h2 with h | h | h | h | h | h | h | h | h | h | h | h <;> subst h <;> simp [dim, dimT] <;> omega
theorem dbm_1 (y : Int) : dbm y 1 = 0 := by simp [dbm, dbmT]
theorem dbm_step {y m : Int} (h1 : 1 ≤ m) (h2 : m ≤ 11) : dbm y (m + 1) = dbm y m + dim y m := by
  rcases m12 h1 (by omega) with h | h | h | h | h | h | h | h | h | h | h | h <;> subst h <;> simp [dim, dimT, dbm, dbmT] <;> omega
theorem dbm_12 (y : Int) : dbm y 12 + dim y 12 = 365 + lpd y := by simp [dim, dimT, dbm, dbmT]; omega
theorem dbm_bds {y m : Int} (h1 : 1 ≤ m) (h2 : m ≤ 12) : 0 ≤ dbm y m ∧ dbm y m + dim y m ≤ 365 + lpd y := by
  have h := lpd_01 y
  rcases m12 h1 h2 with h | h | h | h | h | h | h | h | h | h | h | h <;> subst h <;> simp [dim, dimT, dbm, dbmT] <;> omega
theorem dbm_lt {y m m' : Int} (h1 : 1 ≤ m) (h : m < m') (h2 : m' ≤ 12) : dbm y m + dim y m ≤ dbm y m' := by
  have hl := lpd_01 y
  rcases m12 h1 (by omega) with e | e | e | e | e | e | e | e | e | e | e | e <;> rcases m12 (m := m') (by omega) h2 with e' | e' | e' | e' | e' | e' | e' | e' | e' | e' | e' | e' <;> subst e <;> subst e' <;> first | (exfalso; omega) | (simp [dim, dimT, dbm, dbmT]; try omega)
theorem dby_mono {y y' : Int} (h : y < y') : dby (y + 1) ≤ dby y' := by unfold dby; omega
theorem ord_in {y m d : Int} (h : Valid y m d) : dby y < ord y m d ∧ ord y m d ≤ dby (y + 1) := by
  obtain ⟨h1, h2, h3, h4⟩ := h
  have := dbm_bds (y := y) h1 h2
  rw [dby_succ]; unfold ord; omega
theorem ord_lt {y m d y' m' d' : Int} (h : Valid y m d) (h' : Valid y' m' d') (hl : y < y' ∨ (y = y' ∧ (m < m' ∨ (m = m' ∧ d < d')))) : ord y m d < ord y' m' d' := by
  rcases hl with hl | ⟨rfl, hl | ⟨rfl, hl⟩⟩
  · have a := ord_in h; have b := ord_in h'; have c := dby_mono hl; omega
  · have a := dbm_lt (y := y) h.1 hl h'.2.1
    have b := h.2.2.2; have c := h'.2.2.1; unfold ord; omega
  · unfold ord; omega
theorem ord_lt_iff {y m d y' m' d' : Int} (h : Valid y m d) (h' : Valid y' m' d') : ord y m d < ord y' m' d' ↔ (y < y' ∨ (y = y' ∧ (m < m' ∨ (m = m' ∧ d < d')))) := by
  refine ⟨fun hl => ?_, ord_lt h h'⟩
  by_cases c : (y < y' ∨ (y = y' ∧ (m < m' ∨ (m = m' ∧ d < d'))))
  · exact c
  · exfalso
    by_cases e : y = y' ∧ m = m' ∧ d = d'
    · obtain ⟨rfl, rfl, rfl⟩ := e; omega
    · have := ord_lt h' h (by omega); omega
theorem ord_inj {y m d y' m' d' : Int} (h : Valid y m d) (h' : Valid y' m' d') (e : ord y m d = ord y' m' d') : y = y' ∧ m = m' ∧ d = d' := by
  by_cases c : y = y' ∧ m = m' ∧ d = d'
  · exact c
  · exfalso
    by_cases l : (y < y' ∨ (y = y' ∧ (m < m' ∨ (m = m' ∧ d < d'))))
    · have := ord_lt h h' l; omega
    · have := ord_lt h' h (by omega); omega
theorem dby_dec {a b c d : Int} (b0 : 0 ≤ b) (b1 : b ≤ 3) (c0 : 0 ≤ c) (c1 : c ≤ 24) (d0 : 0 ≤ d) (d1 : d ≤ 3) : dby (a * 400 + 1 + (b * 100 + c * 4 + d)) = 146097 * a + 36524 * b + 1461 * c + 365 * d := by
  have e : a * 400 + 1 + (b * 100 + c * 4 + d) - 1 = a * 400 + b * 100 + c * 4 + d := by omega
  have q1 : (a * 400 + b * 100 + c * 4 + d) / 4 = 100 * a + 25 * b + c := by omega
  have q2 : (a * 400 + b * 100 + c * 4 + d) / 100 = 4 * a + b := by omega
  have q3 : (a * 400 + b * 100 + c * 4 + d) / 400 = a := by omega
  unfold dby
  rw [e, q1, q2, q3]
  omega
theorem leap_dec {a b c d : Int} (b0 : 0 ≤ b) (b1 : b ≤ 3) (c0 : 0 ≤ c) (c1 : c ≤ 24) (d0 : 0 ≤ d) (d1 : d ≤ 3) : leap (a * 400 + 1 + (b * 100 + c * 4 + d)) = true ↔ (d = 3 ∧ (c ≠ 24 ∨ b = 3)) := by
  rw [leap_iff]; omega
/-- what _ord2ymd's four divmods tell -/
structure Dec (n a b c d r1 r2 r3 r4 : Int) : Prop where
  e0 : n - 1 = 146097 * a + r1
  e1 : r1 = 36524 * b + r2
  e2 : r2 = 1461 * c + r3
  e3 : r3 = 365 * d + r4
  l1 : 0 ≤ r1
  u1 : r1 < 146097
  l2 : 0 ≤ r2
  u2 : r2 < 36524
  l3 : 0 ≤ r3
  u3 : r3 < 1461
  l4 : 0 ≤ r4
  u4 : r4 < 365
theorem Dec.last {n a b c d r1 r2 r3 r4 : Int} (D : Dec n a b c d r1 r2 r3 r4) (h : d = 4 ∨ b = 4) : r4 = 0 ∧ Valid (a * 400 + 1 + (b * 100 + c * 4 + d) - 1) 12 31 ∧ ord (a * 400 + 1 + (b * 100 + c * 4 + d) - 1) 12 31 = n := by
  obtain ⟨e0, e1, e2, e3, l1, u1, l2, u2, l3, u3, l4, u4⟩ := D
  refine ⟨by omega, ?_, ?_⟩
  · simp [Valid, dim, dimT]
  · have key : dby (a * 400 + 1 + (b * 100 + c * 4 + d)) = n := by
      rcases h with h | h
      · subst h
        have := dby_dec (a := a) (b := b) (c := c + 1) (d := 0) (by omega) (by omega) (by omega) (by omega) (by omega) (by omega)
        rw [show a * 400 + 1 + (b * 100 + c * 4 + 4) = a * 400 + 1 + (b * 100 + (c + 1) * 4 + 0) by omega, this]
        omega
      · subst h
        have := dby_dec (a := a + 1) (b := 0) (c := c) (d := d) (by omega) (by omega) (by omega) (by omega) (by omega) (by omega)
        rw [show a * 400 + 1 + (4 * 100 + c * 4 + d) = (a + 1) * 400 + 1 + (0 * 100 + c * 4 + d) by omega, this]
        omega
    have h2 := dby_succ (a * 400 + 1 + (b * 100 + c * 4 + d) - 1)
    rw [show a * 400 + 1 + (b * 100 + c * 4 + d) - 1 + 1 = a * 400 + 1 + (b * 100 + c * 4 + d) by omega, key] at h2
    simp only [ord, dbm, dbmT]
    simp
    omega
theorem Dec.year {n a b c d r1 r2 r3 r4 : Int} (D : Dec n a b c d r1 r2 r3 r4) (hd : d ≠ 4) (hb : b ≠ 4) : (leap (a * 400 + 1 + (b * 100 + c * 4 + d)) = true ↔ (d = 3 ∧ (c ≠ 24 ∨ b = 3))) ∧ n - 1 = dby (a * 400 + 1 + (b * 100 + c * 4 + d)) + r4 ∧ 0 ≤ r4 ∧ r4 < 365 + lpd (a * 400 + 1 + (b * 100 + c * 4 + d)) := by
  obtain ⟨e0, e1, e2, e3, l1, u1, l2, u2, l3, u3, l4, u4⟩ := D
  have := lpd_01 (a * 400 + 1 + (b * 100 + c * 4 + d))
  refine ⟨leap_dec (by omega) (by omega) (by omega) (by omega) (by omega) (by omega), ?_, l4, by omega⟩
  rw [dby_dec (by omega) (by omega) (by omega) (by omega) (by omega) (by omega)]
  omega
theorem month_hi {y r m : Int} (h0 : 0 ≤ r) (h1 : r < 365) (l : 32 * m ≤ r + 50) (u : r + 50 < 32 * m + 32) : 1 ≤ m ∧ m ≤ 12 ∧ (r < dbm y m → 2 ≤ m ∧ dbm y (m - 1) ≤ r) ∧ (dbm y m ≤ r → r < dbm y m + dim y m) := by
  have hl := lpd_01 y
  have a1 : 1 ≤ m := by omega
  have a2 : m ≤ 12 := by omega
  refine ⟨a1, a2, ?_, ?_⟩
  · rcases m12 a1 a2 with e | e | e | e | e | e | e | e | e | e | e | e <;> subst e <;> simp [dbm, dbmT] <;> omega
  · rcases m12 a1 a2 with e | e | e | e | e | e | e | e | e | e | e | e <;> subst e <;> simp [dbm, dbmT, dim, dimT] <;> omega
end
section
/-- the almanac's first part: 1 January's weekday -/
def alm1 (y : Int) : Int := (dby y + dbm y 1 + 1).fmod 7
def alike (y k : Int) : Bool := decide (alm1 (y + k) = alm1 y) && decide (dim (y + k) 2 = dim y 2)
def ahead (r : Int) : Int := if r < 100 then 100 - r else if r < 200 then 200 - r else if r < 300 then 300 - r else 500 - r
def dueT (a : Int) : Int := if a = 12 then 40 else if a = 2 ∨ a = 3 ∨ a = 4 ∨ a = 8 ∨ a = 9 ∨ a = 10 then 12 else 6
def due (y : Int) : Int := if ahead (y % 400) ≤ 12 then dueT (ahead (y % 400)) else if leap y = true then (if ahead (y % 400) ≤ 28 then 40 else 28) else if y % 4 < 2 then 6 else 11
theorem dby_400 (y c : Int) : dby (y + 400 * c) = dby y + 146097 * c := by unfold dby; omega
theorem leap_400 (y c : Int) : leap (y + 400 * c) = leap y := by
  rw [Bool.eq_iff_iff, leap_iff, leap_iff]; omega
theorem alm1_400 (y c : Int) : alm1 (y + 400 * c) = alm1 y := by
  unfold alm1
  rw [Int.fmod_eq_emod_of_nonneg _ (by decide), Int.fmod_eq_emod_of_nonneg _ (by decide), dby_400, dbm_1, dbm_1]
  omega
theorem dim_400 (y c : Int) : dim (y + 400 * c) 2 = dim y 2 := by
  unfold dim lpd; rw [leap_400]
theorem alike_400 (y c k : Int) : alike (y + 400 * c) k = alike y k := by
  unfold alike
  rw [show y + 400 * c + k = (y + k) + 400 * c by omega, alm1_400, alm1_400, dim_400, dim_400]
theorem due_400 (y c : Int) : due (y + 400 * c) = due y := by
  unfold due
  rw [leap_400, show (y + 400 * c) % 400 = y % 400 by omega, show (y + 400 * c) % 4 = y % 4 by omega]
def found (y : Int) : List Int := List.take 1 ((List.range 40).map (fun (i : Nat) => (1 : Int) + (i : Int)) |>.filter (alike y))
theorem found_all : ∀ r : Fin 400, found (r.val : Int) = [due (r.val : Int)] := by decide +kernel
theorem found_due (y : Int) : found y = [due y] := by
  have h1 : y = (y % 400) + 400 * (y / 400) := by omega
  have e : ∀ z c : Int, found (z + 400 * c) = found z := fun z c => by
    unfold found
    rw [show alike (z + 400 * c) = alike z from funext fun k => alike_400 z c k]
  rw [h1, e, due_400]
  have := found_all ⟨(y % 400).toNat, by omega⟩
  rw [show (((⟨(y % 400).toNat, by omega⟩ : Fin 400).val : Nat) : Int) = y % 400 by show ((y % 400).toNat : Int) = _; omega] at this
  exact this
end
section
theorem len_oddB {mo : Int} (h1 : 1 ≤ mo) (h2 : mo ≤ 12) (h : mo ≠ 2) (y : Int) : 30 + (mo + mo / 8) % 2 = dim y mo := by
  rcases m12 h1 h2 with e | e | e | e | e | e | e | e | e | e | e | e <;> subst e <;> first | (exfalso; omega) | simp [dim, dimT]
theorem v_len4 {y mo : Int} (hm : mo ≠ 2) (h1 : 1 ≤ mo) (h2 : mo ≤ 12) : 30 + (mo + mo.fdiv 8).fmod 2 = dim y mo := by
  rw [Int.fmod_eq_emod_of_nonneg _ (by decide), Int.fdiv_eq_ediv_of_nonneg _ (by decide)]
  exact len_oddB h1 h2 hm y
theorem v_lenB {y mo : Int} (hm : mo = 2) (b : Bool) (h : leap y = b) : (if b = true then 29 else 28 : Int) = dim y mo := by
  subst hm; subst h
  unfold dim dimT lpd
  by_cases c : leap y = true <;> simp [c]
theorem v_len1 {y mo : Int} (hm : mo = 2) (h1 : y.fmod 100 = 0) (h : y.fmod 400 = 0) : (29 : Int) = dim y mo := by
  rw [Int.fmod_eq_emod_of_nonneg _ (by decide)] at h1 h
  exact v_lenB hm true ((leap_iff y).mpr (by omega))
theorem v_len2 {y mo : Int} (hm : mo = 2) (h1 : y.fmod 100 = 0) (h : y.fmod 400 ≠ 0) : (28 : Int) = dim y mo := by
  rw [Int.fmod_eq_emod_of_nonneg _ (by decide)] at h1 h
  exact v_lenB hm false (by rw [Bool.eq_false_iff]; intro c; have := (leap_iff y).mp c; omega)
theorem v_len3 {y mo : Int} (hm : mo = 2) (h1 : y.fmod 100 ≠ 0) (h : y.fmod 4 = 0) : (29 : Int) = dim y mo := by
  rw [Int.fmod_eq_emod_of_nonneg _ (by decide)] at h1 h
  exact v_lenB hm true ((leap_iff y).mpr (by omega))
theorem v_len5 {y mo : Int} (hm : mo = 2) (h1 : y.fmod 100 ≠ 0) (h : y.fmod 4 ≠ 0) : (28 : Int) = dim y mo := by
  rw [Int.fmod_eq_emod_of_nonneg _ (by decide)] at h1 h
  exact v_lenB hm false (by rw [Bool.eq_false_iff]; intro c; have := (leap_iff y).mp c; omega)
end
section
def lex3 (a b c x y z : Int) : Bool := decide (a < x ∨ (a = x ∧ (b < y ∨ (b = y ∧ c < z))))
theorem leap400 {y : Int} : leap y = true ↔ (y % 4 = 0 ∧ y % 400 ≠ 100 ∧ y % 400 ≠ 200 ∧ y % 400 ≠ 300) := by
  rw [leap_iff]; omega
theorem len_odd {mo : Int} (h1 : 1 ≤ mo) (h2 : mo ≤ 12) (h : mo ≠ 2) (y : Int) : 30 + (mo + mo / 8) % 2 = dim y mo := by
  rcases m12 h1 h2 with e | e | e | e | e | e | e | e | e | e | e | e <;> subst e <;> first | (exfalso; omega) | simp [dim, dimT]
theorem w_len1 {y mo : Int} (hm : mo = 2) (h4 : y.fmod 4 = 0) (h : ([100, 200, 300].any fun x => x == y.fmod 400) = true) : (28 : Int) = dim y mo := by
  rw [Int.fmod_eq_emod_of_nonneg _ (by decide)] at h4 h
  have : ¬ leap y = true := by
    rw [leap400]
    simp at h
    omega
  subst hm
  simp [dim, dimT, lpd, this]
theorem w_len2 {y mo : Int} (hm : mo = 2) (h4 : y.fmod 4 = 0) (h : ([100, 200, 300].any fun x => x == y.fmod 400) = false) : (29 : Int) = dim y mo := by
  rw [Int.fmod_eq_emod_of_nonneg _ (by decide)] at h4 h
  have : leap y = true := by
    rw [leap400]
    simp at h
    omega
  subst hm
  simp [dim, dimT, lpd, this]
theorem w_len3 {y mo : Int} (hm : mo = 2) (h4 : y.fmod 4 ≠ 0) : (28 : Int) = dim y mo := by
  rw [Int.fmod_eq_emod_of_nonneg _ (by decide)] at h4
  have : ¬ leap y = true := by
    rw [leap400]
    omega
  subst hm
  simp [dim, dimT, lpd, this]
theorem w_len4 {y mo : Int} (hm : mo ≠ 2) (h1 : 1 ≤ mo) (h2 : mo ≤ 12) : 30 + (mo + mo.fdiv 8).fmod 2 = dim y mo := by
  rw [Int.fmod_eq_emod_of_nonneg _ (by decide), Int.fdiv_eq_ediv_of_nonneg _ (by decide)]
  exact len_odd h1 h2 hm y
theorem l05_lt {a b c x y z N : Int} (hv : Valid a b c) (hV : Valid x y z) (hO : ord x y z = N) : lex3 a b c x y z = decide (dby a + dbm a b + c < N) := by
  have h := ord_lt_iff hv hV
  unfold lex3
  rw [decide_eq_decide, ← h, hO]
  rfl
theorem l05_gt {a b c x y z N : Int} (hv : Valid a b c) (hV : Valid x y z) (hO : ord x y z = N) : lex3 x y z a b c = decide (N < dby a + dbm a b + c) := by
  have h := ord_lt_iff hV hv
  unfold lex3
  rw [decide_eq_decide, ← h, hO]
  rfl
theorem l05_eq {a b c x y z N : Int} (hv : Valid a b c) (hV : Valid x y z) (hO : ord x y z = N) : (a == x && (b == y && c == z)) = decide (dby a + dbm a b + c = N) := by
  rw [Bool.eq_iff_iff]
  simp only [Bool.and_eq_true, beq_iff_eq, decide_eq_true_eq]
  constructor
  · rintro ⟨rfl, rfl, rfl⟩; exact hO
  · intro e; exact ord_inj hv hV (by rw [hO]; exact e)
theorem l05_one {yy mm dd : Int} (hV : Valid yy mm dd) (hO : ord yy mm dd = 1) : yy = 1 ∧ mm = 1 ∧ dd = 1 :=
  ord_inj hV (y' := 1) (m' := 1) (d' := 1) ⟨by decide, by decide, by decide, by decide⟩ (by rw [hO]; decide)
/-- what _cmp tells -/
def Cmp (T P N : Int) : Prop := ((T == -1) = decide (P < N)) ∧ ((T == 0) = decide (P = N)) ∧ ((T == 1) = decide (N < P))
theorem cmp_0 {P N : Int} (h : P = N) : Cmp 0 P N := by subst h; unfold Cmp; simp
theorem cmp_1 {P N : Int} (h : N < P) : Cmp 1 P N := by
  unfold Cmp
  rw [decide_eq_false (by omega), decide_eq_false (by omega), decide_eq_true h]; decide
theorem cmp_2 {P N : Int} (h1 : P ≠ N) (h2 : ¬ N < P) : Cmp (-1) P N := by
  unfold Cmp
  rw [decide_eq_true (show P < N by omega), decide_eq_false h1, decide_eq_false h2]; decide
end
section
section
variable {prog : Program} {w : World} {A : Around} {E : Value → Shared → Prop} {s : Shared} {h₀ : Heap} {L : Addr} {m : Str → Option Value} {news : List (Addr × Obj)}
/-- an item of a written list of the top's, at a place from 1 to 12 -/
theorem tab_item {l : Addr} {K : Frag} {value slice : PySem.Expr} {k : Int} {u : Tok} {Q : Value → Shared → Prop}
    {its : Array Value} {n : Nat} {d : Option Addr} {sl : Array (Option Value)} (f : Int → Int) (F : Fr h₀ L s.heap m) (X : K.In h₀) (ho : K.lookup l = some { cls := .type "list", dict := d, data := .seq its n, slots := sl }) (h1 : 1 ≤ k) (h2 : k ≤ 12)
    (hx : ∀ k : Int, 1 ≤ k → k ≤ 12 → ∃ t, its[k.toNat]? = some (Value.int (f k) t))
    (hs : subscripted slice false (.ref l) (.int k u) = operate [.ref l, .int k u] (getItem (.ref l) (.int k u)))
    (h : ∀ t, Q (.int (f k) t) s) : wpAny (model prog w) A (subscriptTail value slice (.ref l) (.int k u)) Q E s := by
  have hl := kun_topL F X ho
  obtain ⟨t, ht⟩ := hx k h1 h2
  exact tail_any hl.typeIs slot_list_getitem.lookup (wpAny_getItem_list hl (by omega) (by omega) ht (h t)) hs
/-- divmod by a positive number: two letters and what is known of them -/
theorem divmod_gen {a b : Int} {t u : Tok} {Q : Value → Shared → Prop} (F : Fr h₀ L s.heap m) (N : News h₀ L s.heap news) (hb : 0 < b) (hb2 : b < 1073741824)
    (h : ∀ q r D h' t1 t2 tk, a = b * q + r → 0 ≤ r → r < b → Fr h₀ L h' m → News h₀ L h' ((D, { cls := .type "tuple", data := .seq #[.int q t1, .int r t2] }) :: news) → AllLt D news → Q (.ref D) { s with heap := h', toks := tk }) :
    wpAny (model prog w) A (call (.builtin "divmod") [.int a t, .int b u]) Q E s := by
  refine divmod_N F N (by omega) (fun h' F' N' => ?_) (Or.inl (PyProof.noPylong_small (by omega)))
  refine h (a.fdiv b) (a.fmod b) _ h' _ _ _ ?_ ?_ ?_ F' N' (allLt_of fun p hp => Heap.lt_size (N p hp).1)
  · have := Int.mul_fdiv_add_fmod a b; omega
  · exact Int.fmod_nonneg_of_pos a hb
  · exact Int.fmod_lt_of_pos a hb
theorem rshift5_gen {a : Int} {t u : Tok} {Q : Value → Shared → Prop} (h : ∀ q t', 32 * q ≤ a → a < 32 * q + 32 → Q (.int q t') { s with toks := s.toks + 1 }) :
    wpAny (model prog w) A (binaryOp .RShift (.int a t) (.int 5 u)) Q E s := by
  refine rshift_int (by decide) ?_
  have e : a.fdiv (2 ^ Int.toNat 5) = a / 32 := by
    show a.fdiv 32 = _
    exact Int.fdiv_eq_ediv_of_nonneg _ (by decide)
  rw [e]
  exact h _ _ (by omega) (by omega)
theorem cmp_bool_tt {b c : Bool} {Q : Value → Shared → Prop} (e : b = c) (h : Q (.bool true) s) : wpAny (model prog w) A (compareOp .Eq (.bool b) (.bool c)) Q E s := by
  subst e
  refine eq_bool ?_
  rw [show (b == b) = true by cases b <;> rfl]
  exact h
end
/-- a cut: what is walked gives back one bool, and nothing is changed -/
def CutB (h₀ : Heap) (L : Addr) (m : Str → Option Value) (news : List (Addr × Obj)) (s : Shared) (b : Bool) (v : Value) (s' : Shared) : Prop :=
  ∃ (tk : Nat) (h' : Heap), v = .bool b ∧ s' = { s with heap := h', toks := tk } ∧ Fr h₀ L h' m ∧ News h₀ L h' news
theorem CutB.intro {h₀ : Heap} {L : Addr} {m : Str → Option Value} {news : List (Addr × Obj)} {s : Shared} {b c : Bool} {tk : Nat} {h' : Heap} (F : Fr h₀ L h' m) (N : News h₀ L h' news) (e : c = b) : CutB h₀ L m news s b (.bool c) { s with heap := h', toks := tk } := ⟨tk, h', by rw [e], rfl, F, N⟩
theorem cut_bool {M : Model} {A : Around} {E Q : Value → Shared → Prop} {s : Shared} {h₀ : Heap} {L : Addr} {m : Str → Option Value} {news : List (Addr × Obj)} {cm : Sem Value} (b : Bool) (_F : Fr h₀ L s.heap m) (_N : News h₀ L s.heap news)
    (h1 : wpAny M A cm (fun v s' => CutB h₀ L m news s b v s') E s) (h2 : ∀ tk h', Fr h₀ L h' m → News h₀ L h' news → Q (.bool b) { s with heap := h', toks := tk }) : wpAny M A cm Q E s := by
  refine wpAny_mono h1 (fun v s₂ hq => ?_) fun _ _ h => h
  obtain ⟨tk, h', rfl, rfl, F, N⟩ := hq
  exact h2 tk h' F N
theorem cut_iff {M : Model} {A : Around} {E Q : Value → Shared → Prop} {s : Shared} {h₀ : Heap} {L : Addr} {m : Str → Option Value} {news : List (Addr × Obj)} {cm : Sem Value} {b : Bool} {P : Prop} (_hb : b = true ↔ P) (_F : Fr h₀ L s.heap m) (_N : News h₀ L s.heap news)
    (h1 : wpAny M A cm (fun v s' => CutB h₀ L m news s b v s') E s) (h2 : ∀ tk h', Fr h₀ L h' m → News h₀ L h' news → Q (.bool b) { s with heap := h', toks := tk }) : wpAny M A cm Q E s := cut_bool b _F _N h1 h2
theorem w_y1 {b c d : Int} (h1 : d = 3) (h2 : c ≠ 24) : (c != 24) = true ↔ (d = 3 ∧ (c ≠ 24 ∨ b = 3)) := by simp [h1, h2]
theorem w_y2 {b c d : Int} (h1 : d = 3) (h2 : c = 24) : (b == 3) = true ↔ (d = 3 ∧ (c ≠ 24 ∨ b = 3)) := by simp [h1, h2]
theorem w_y3 {b c d : Int} (h1 : d ≠ 3) : (d == 3) = true ↔ (d = 3 ∧ (c ≠ 24 ∨ b = 3)) := by simp [h1]
theorem w_gt {q : Int} {z : Bool} (h : 2 < q) : z = true ↔ (2 < q ∧ z = true) := by simp [h]
theorem w_ngt {q : Int} {z : Bool} (h : ¬ 2 < q) : decide (2 < q) = true ↔ (2 < q ∧ z = true) := by simp [h]
theorem w_eq {q : Int} {z : Bool} (h : q = 2) : z = true ↔ (q = 2 ∧ z = true) := by simp [h]
theorem w_neq {q : Int} {z : Bool} (h : q ≠ 2) : (q == 2) = true ↔ (q = 2 ∧ z = true) := by simp [h]
theorem iff_bool {b c : Bool} (h : b = true ↔ c = true) : b = c := by cases b <;> cases c <;> simp_all
theorem o2y_year {n a b c d r1 r2 r3 r4 : Int} (D : Dec n a b c d r1 r2 r3 r4) (hd : d ≠ 4) (hb : b ≠ 4) : ∃ (z : Bool) (Y : Int), Y = a * 400 + 1 + (b * 100 + c * 4 + d) ∧ z = leap (a * 400 + 1 + (b * 100 + c * 4 + d)) ∧ z = leap Y ∧ (z = true ↔ (d = 3 ∧ (c ≠ 24 ∨ b = 3))) ∧ n - 1 = dby Y + r4 := by
  obtain ⟨h1, h2, h3, h4⟩ := D.year hd hb
  exact ⟨_, _, rfl, rfl, rfl, h1, h2⟩
theorem o2y_month {n Y r q : Int} (_hn : n - 1 = dby Y + r) (h0 : 0 ≤ r) (h1 : r < 365) (l : 32 * q ≤ r + 50) (u : r + 50 < 32 * q + 32) : 1 ≤ q ∧ q ≤ 12 ∧ (r < dbm Y q → 2 ≤ q ∧ dbm Y (q - 1) ≤ r) ∧ (dbm Y q ≤ r → r < dbm Y q + dim Y q) := month_hi h0 h1 l u
theorem o2y_gt2 {z : Bool} {Y q : Int} (hz : z = leap Y) : ∃ b : Bool, (b = true ↔ (2 < q ∧ z = true)) ∧ dbmT q + (if b = true then 1 else 0) = dbm Y q := by
  refine ⟨decide (2 < q ∧ z = true), by simp, ?_⟩
  subst hz
  unfold dbm lpd
  by_cases h : 2 < q <;> by_cases h' : leap Y = true <;> simp [h, h']
theorem o2y_eq2 {z : Bool} {Y q : Int} (hz : z = leap Y) : ∃ b : Bool, (b = true ↔ (q = 2 ∧ z = true)) ∧ dimT q + (if b = true then 1 else 0) = dim Y q := by
  refine ⟨decide (q = 2 ∧ z = true), by simp, ?_⟩
  subst hz
  unfold dim lpd
  by_cases h : q = 2 <;> by_cases h' : leap Y = true <;> simp [h, h']
theorem o2y_endA {n Y Y' r q P S : Int} (hn : n - 1 = dby Y + r) (hlt : r < P) (h7 : P = dbm Y q) (h6 : S = dim Y (q - 1)) (m2 : q ≤ 12) (m3 : r < dbm Y q → 2 ≤ q ∧ dbm Y (q - 1) ≤ r) (hy : Y = Y') :
    0 ≤ r - (P - S) ∧ r - (P - S) < dim Y' (q - 1) ∧ Valid Y' (q - 1) (r - (P - S) + 1) ∧ ord Y' (q - 1) (r - (P - S) + 1) = n := by
  subst hy
  obtain ⟨a, b⟩ := m3 (by omega)
  have e := dbm_step (y := Y) (m := q - 1) (by omega) (by omega)
  rw [show q - 1 + 1 = q by omega] at e
  refine ⟨by omega, by omega, ⟨by omega, by omega, by omega, by omega⟩, ?_⟩
  unfold ord
  omega
theorem o2y_endB {n Y Y' r q P : Int} (hn : n - 1 = dby Y + r) (hlt : ¬ r < P) (h7 : P = dbm Y q) (m1 : 1 ≤ q) (m2 : q ≤ 12) (m4 : dbm Y q ≤ r → r < dbm Y q + dim Y q) (hy : Y = Y') :
    0 ≤ r - P ∧ r - P < dim Y' q ∧ Valid Y' q (r - P + 1) ∧ ord Y' q (r - P + 1) = n := by
  subst hy
  have a := m4 (by omega)
  refine ⟨by omega, by omega, ⟨by omega, by omega, by omega, by omega⟩, ?_⟩
  unfold ord
  omega
theorem news_keep4 {h₀ h : Heap} {L : Addr} {x a b c d : Addr × Obj} {news : List (Addr × Obj)} (N : News h₀ L h (x :: a :: b :: c :: d :: news)) : News h₀ L h (x :: news) := fun p hp => N p (by
  rcases List.mem_cons.mp hp with rfl | hp
  · exact List.mem_cons_self
  · simp [hp])
end
section
theorem ints_two {ws : List Value} {ms : List Int} (h : IntsAre ws ms) (e : ms.length = 2) : ∃ a b ta tb, ws = [Value.int a ta, Value.int b tb] := by
  match ms, e with
  | [x, y], _ =>
    obtain ⟨t1, w1, rfl, h1⟩ := h.cons_inv
    obtain ⟨t2, w2, rfl, h2⟩ := h1.cons_inv
    exact ⟨x, y, t1, t2, by rw [h2.nil_inv]⟩
theorem pad_len {ns zs : List Int} {k : Nat} (hz : zs.length = k) : (List.take k ns ++ List.drop (ns.length : Int).toNat zs).length = k := by
  rw [List.length_append, List.length_take, List.length_drop, Int.toNat_natCast, hz]; omega
theorem pad2 {ws : List Value} {ns : List Int} {x y : Int} (h : IntsAre ws (List.take 2 ns ++ List.drop (ns.length : Int).toNat [x, y])) : ∃ a b ta tb, ws = [Value.int a ta, Value.int b tb] := ints_two h (pad_len rfl)
theorem ints_four {ws : List Value} {ms : List Int} (h : IntsAre ws ms) (e : ms.length = 4) : ∃ a b c d ta tb tc td, ws = [Value.int a ta, Value.int b tb, Value.int c tc, Value.int d td] := by
  match ms, e with
  | [x, y, z, u], _ =>
    obtain ⟨t1, w1, rfl, h1⟩ := h.cons_inv
    obtain ⟨t2, w2, rfl, h2⟩ := h1.cons_inv
    obtain ⟨t3, w3, rfl, h3⟩ := h2.cons_inv
    obtain ⟨t4, w4, rfl, h4⟩ := h3.cons_inv
    exact ⟨x, y, z, u, t1, t2, t3, t4, by rw [h4.nil_inv]⟩
theorem pad4 {ws : List Value} {ns : List Int} {x y z u : Int} (h : IntsAre ws (List.take 4 ns ++ List.drop (ns.length : Int).toNat [x, y, z, u])) : ∃ a b c d ta tb tc td, ws = [Value.int a ta, Value.int b tb, Value.int c tc, Value.int d td] := ints_four h (pad_len rfl)
/-- the test of a comprehension says no, and nothing is changed -/
def NoOk (s : Shared) (h : Heap) (ok : Bool) (s' : Shared) : Prop := ok = false ∧ ∃ tk, s' = { s with heap := h, toks := tk }
section
open LCg LCt
variable {prog : Program} {w : World} {A : Around} {E : Value → Shared → Prop} {s : Shared} {h₀ : Heap} {L : Addr} {m : Str → Option Value} {env : Env}
def TestNo (prog : Program) (w : World) (A : Around) (h₀ : Heap) (L : Addr) (m : Str → Option Value) (env : Env) (ct : Expr) (x : Str) (scope : Scope) (cl : List (Str × Addr)) : Prop :=
  ∀ (n : Int) (t : Tok) (I : Addr) (oI : Obj) (C : Addr) (oC : Obj) (D : Addr) (oD : Obj) (m₂ : Str → Option Value) (h : Heap) (tk : Nat) (E' : Value → Shared → Prop) (s₂ : Shared) (news : List (Addr × Obj)), NsObj oC m₂ → m₂ x = some (Value.int n t) → Fr h₀ L h m → News h₀ L h ((I, oI) :: (C, oC) :: (D, oD) :: news) →
    wpAny (model prog w) A (isTrue ct (compEnvC scope cl C env) (eval ct (compEnvC scope cl C env))) (fun ok s' => NoOk s₂ h ok s') E' { s₂ with heap := h, toks := tk }
theorem no_rest {ct elt : Expr} {x : Str} {scope : Scope} {cl : List (Str × Addr)} {S : List (Addr × Obj) → Prop} {P : Nat → Value → Prop} {Fin : List Value → List (Addr × Obj) → Prop} {news : List (Addr × Obj)} (T : TestNo prog w A h₀ L m env ct x scope cl)
    (hP : ∀ i v, P i v → ∃ n t, v = Value.int n t) (hS : S news) (hF : Fin [] news) : ∀ k i, CompRestT prog w A h₀ L m env ct elt x scope cl s S P Fin k i [] news
  | 0, _ => hF
  | k + 1, i => by
    refine CompRestT.succ fun v I oI C oC D m₂ h tk E' hv hC hx F N off ne => ?_
    obtain ⟨n, t, rfl⟩ := hP _ _ hv
    refine wpAny_mono (T n t I oI C oC D _ m₂ h tk E' s news hC hx F N) (fun ok s' hq => ?_) fun _ _ e => e
    obtain ⟨rfl, tk', rfl⟩ := hq
    simp only [Bool.false_eq_true, if_false]
    exact CompEnd.intro F N news (fun p hp => hp) off hS (no_rest T hP hS hF k (i + 1))
def SrcNo (h₀ : Heap) (L : Addr) (m : Str → Option Value) (Q : Value → Shared → Prop) (xv : Value) (s₁ : Shared) : Prop :=
  ∃ ax its news, xv = Value.ref ax ∧ Fr h₀ L s₁.heap m ∧ News h₀ L s₁.heap news ∧ (∃ o, (ax, o) ∈ news ∧ (o.cls = .type "tuple" ∨ o.cls = .type "list") ∧ ∃ n, o.data = .seq its n) ∧ its.size ≤ sizeLine ∧ (∀ (i : Nat) v, its[i]? = some v → ∃ n t, v = Value.int n t) ∧ ∀ g, FinE h₀ L m { s₁ with heap := g } Q [] news
theorem SrcNo.intro {Q : Value → Shared → Prop} {s₁ : Shared} {ax : Addr} {T : String} {its : Array Value} {n : Nat} {news : List (Addr × Obj)} (F : Fr h₀ L s₁.heap m) (N : News h₀ L s₁.heap news) (hm : (ax, ({ cls := .type T, data := .seq its n } : Obj)) ∈ news) (hT : T = "tuple" ∨ T = "list") (hz : its.size ≤ sizeLine)
    (hi : ∀ (i : Nat) v, its[i]? = some v → ∃ n t, v = Value.int n t) (h : ∀ D h' tk, Fr h₀ L h' m → News h₀ L h' ((D, lst []) :: news) → Off1 D news → Q (.ref D) { s₁ with heap := h', toks := tk }) : SrcNo h₀ L m Q (.ref ax) s₁ :=
  ⟨ax, its, news, rfl, F, N, ⟨_, hm, hT.elim (fun e => .inl (by rw [e])) (fun e => .inr (by rw [e])), _, rfl⟩, hz, hi, fun _ D h' tk F' N' O => h D h' tk F' N' O⟩
theorem all_ints {its : Array Value} (h : ∀ v ∈ its.toList, ∃ n t, v = Value.int n t) : ∀ (i : Nat) v, its[i]? = some v → ∃ n t, v = Value.int n t := fun i v hv => h v (by
  have := Array.mem_of_getElem? hv
  simpa using this)
theorem ints_nil : ∀ v ∈ ([] : List Value), ∃ n t, v = Value.int n t := fun _ h => nomatch h
theorem ints_cons {n : Int} {t : Tok} {r : List Value} (h : ∀ v ∈ r, ∃ n t, v = Value.int n t) : ∀ v ∈ Value.int n t :: r, ∃ n t, v = Value.int n t := fun v hv => by
  rcases List.mem_cons.mp hv with rfl | hv
  · exact ⟨_, _, rfl⟩
  · exact h v hv
theorem ints_are {vs : List Value} {ns : List Int} (h : IntsAre vs ns) : ∀ v ∈ vs, ∃ n t, v = Value.int n t := by
  induction h with
  | nil => exact ints_nil
  | cons => exact ints_cons (by assumption)
theorem comp_no {ct elt iter : Expr} {x : Str} {px : Pos} {scope : Scope} {cl : List (Str × Addr)} {pos : Pos} {Q : Value → Shared → Prop} (F₀ : Fr h₀ L s.heap m) (hh : A.handled = none)
    (hclos : closureFor scope env = pure cl) (hcell : ∀ y ∈ scope.names, y.2 ≠ .cell) (hkind : scope.kind = .function)
    (hnames : ∀ y ∈ scope.names, y.2 = .local → scope.names.lookup y.1 = some .local) (hx : scope.names.lookup x = some .local)
    (T : TestNo prog w A h₀ L m env ct x scope cl)
    (h : wpAny (model prog w) A (eval iter env) (fun xv s₁ => SrcNo h₀ L m Q xv s₁) E s)
    (hs : ∀ x, foldedSetIterable iter env x = pure x := by intro _; rfl) :
    wpAny (model prog w) A (eval (.ListComp elt [⟨.Name x px, iter, [ct], 0⟩] scope pos) env) Q E s := by
  rw [eval_ListComp]
  refine wpAny_comprehension_free (use := none) rfl hs hclos hkind hnames (wpAny_mono h (fun xv s₁ h₁ => ?_) fun _ _ e => e)
  obtain ⟨ax, its, news, rfl, F, N, ⟨o, hm, hc, n, hd⟩, hsz, hi, fin⟩ := h₁
  have hget : s₁.heap.get? ax = some o := (N _ hm).1
  have hlt : ax < s₁.heap.objs.size := Heap.lt_size hget
  rcases hc with hc | hc
  · have hl : s₁.heap.IsTuple ax its := ⟨o, hget, hc, n, hd⟩
    refine wpAny_pyIter_tuple hl ?_
    have up : ∀ b o, s₁.heap.get? b = some o → (s₁.heap.push { cls := .type "tuple_iterator", data := .fields #[.ref ax, .int 0 0] }).get? b = some o := fun b o e => Heap.get?_push_of_some _ e
    refine block_T (Walks.tuple hh s₁.heap.objs.size ax (Nat.ne_of_lt hlt) its) hsz (fun i h st => by obtain ⟨o, e, _⟩ := st.1; exact ⟨o, e⟩) (S := fun nw => (ax, o) ∈ nw) (fun i h h' o' nw st e e' k N' S => ⟨by obtain ⟨o'', q, r⟩ := st.1; rw [e] at q; cases q; exact ⟨o', e', r⟩, ⟨o, (N' _ S).1, hc, n, hd⟩⟩) hcell hkind hx ⟨⟨_, Heap.get?_push_size _ rfl, rfl, rfl⟩, hl.push _⟩ (fun b hb => ?_)
      (F.keeps up) (N.grown up) (Nat.ne_of_lt F.ns.lt) (next_is_new F) (fun p hp => Nat.ne_of_lt (Heap.lt_size (N p hp).1)) hm (no_rest T hi hm (fin s₁.heap) _ _) ?_
    · show b < (s₁.heap.push _).objs.size
      rw [Heap.size_push]
      rcases List.mem_cons.mp hb with rfl | hb
      · exact Nat.lt_succ_self _
      · rw [List.mem_singleton.mp hb]; exact Nat.lt_succ_of_lt hlt
    · intro D C h tk m' ys news' F' N' o1 hn hC₀ hD₀ hCL hDL hCD offC fin
      refine ⟨m', hn, fun h'' hs'' => fin D h'' tk (F'.change hs'' hCL hC₀) (fun p hp => ?_) o1⟩
      refine ⟨hs''.extBut _ _ ?_ (N' p hp).1, (N' p hp).2⟩
      rcases List.mem_cons.mp hp with rfl | hp
      · exact Ne.symm hCD
      · exact offC p hp
  · have hl : s₁.heap.IsList ax its := ⟨o, hget, hc, n, hd⟩
    refine wpAny_pyIter_list hl ?_
    have up : ∀ b o, s₁.heap.get? b = some o → (s₁.heap.push { cls := .type "list_iterator", data := .fields #[.ref ax, .int 0 0] }).get? b = some o := fun b o e => Heap.get?_push_of_some _ e
    refine block_T (Walks.list hh s₁.heap.objs.size ax (Nat.ne_of_lt hlt) its) hsz (fun i h st => by obtain ⟨o, e, _⟩ := st.1; exact ⟨o, e⟩) (S := fun nw => (ax, o) ∈ nw) (fun i h h' o' nw st e e' k N' S => ⟨by obtain ⟨o'', q, r⟩ := st.1; rw [e] at q; cases q; exact ⟨o', e', r⟩, ⟨o, (N' _ S).1, hc, n, hd⟩⟩) hcell hkind hx ⟨⟨_, Heap.get?_push_size _ rfl, rfl, rfl⟩, hl.push _⟩ (fun b hb => ?_)
      (F.keeps up) (N.grown up) (Nat.ne_of_lt F.ns.lt) (next_is_new F) (fun p hp => Nat.ne_of_lt (Heap.lt_size (N p hp).1)) hm (no_rest T hi hm (fin s₁.heap) _ _) ?_
    · show b < (s₁.heap.push _).objs.size
      rw [Heap.size_push]
      rcases List.mem_cons.mp hb with rfl | hb
      · exact Nat.lt_succ_self _
      · rw [List.mem_singleton.mp hb]; exact Nat.lt_succ_of_lt hlt
    · intro D C h tk m' ys news' F' N' o1 hn hC₀ hD₀ hCL hDL hCD offC fin
      refine ⟨m', hn, fun h'' hs'' => fin D h'' tk (F'.change hs'' hCL hC₀) (fun p hp => ?_) o1⟩
      refine ⟨hs''.extBut _ _ ?_ (N' p hp).1, (N' p hp).2⟩
      rcases List.mem_cons.mp hp with rfl | hp
      · exact Ne.symm hCD
      · exact offC p hp
end
end
section
section
variable {prog : Program} {w : World} {A : Around} {E : Value → Shared → Prop} {s : Shared}
theorem floordiv_gen {a b : Int} {t u : Tok} {Q : Value → Shared → Prop} (hb : 0 < b) (hb2 : b < 1073741824) (h : ∀ q t', b * q ≤ a → a < b * q + b → Q (.int q t') { s with toks := s.toks + 1 }) :
    wpAny (model prog w) A (binaryOp .FloorDiv (.int a t) (.int b u)) Q E s := by
  refine floordiv_int (by omega) ?_ (Or.inl (PyProof.noPylong_small (by omega)))
  have h1 := Int.mul_fdiv_add_fmod a b
  have h2 := Int.fmod_nonneg_of_pos a hb
  have h3 := Int.fmod_lt_of_pos a hb
  exact h _ _ (by omega) (by omega)
theorem mod_gen {a b : Int} {t u : Tok} {Q : Value → Shared → Prop} (hb : 0 < b) (h : ∀ q r t', a = b * q + r → 0 ≤ r → r < b → Q (.int r t') { s with toks := s.toks + 1 }) :
    wpAny (model prog w) A (binaryOp .Mod (.int a t) (.int b u)) Q E s := by
  refine mod_int' (by omega) ?_
  have h1 := Int.mul_fdiv_add_fmod a b
  have h2 := Int.fmod_nonneg_of_pos a hb
  have h3 := Int.fmod_lt_of_pos a hb
  exact h (a.fdiv b) _ _ (by omega) h2 h3
end
section
variable {prog : Program} {w : World} {A : Around} {E : Value → Shared → Prop} {s : Shared}
/-- a remainder by a positive number -/
theorem mod_pos {a b : Int} {t u : Tok} {Q : Value → Shared → Prop} (hb : 0 < b) (h : ∀ r t', 0 ≤ r → r < b → Q (.int r t') { s with toks := s.toks + 1 }) :
    wpAny (model prog w) A (binaryOp .Mod (.int a t) (.int b u)) Q E s :=
  mod_gen hb fun _ r t' _ h2 h3 => h r t' h2 h3
/-- a remainder whose quotient is known -/
theorem mod_known {a b q : Int} {t u : Tok} {Q : Value → Shared → Prop} (h1 : b * q ≤ a) (h2 : a < b * q + b) (h : ∀ r t', r = a - b * q → 0 ≤ r → r < b → Q (.int r t') { s with toks := s.toks + 1 }) :
    wpAny (model prog w) A (binaryOp .Mod (.int a t) (.int b u)) Q E s := by
  refine mod_gen (by omega) fun q' r t' e l u' => h r t' ?_ l u'
  have hbp : 0 < b := by omega
  have e1 : q' = q := by
    have a1 : b * q' < b * (q + 1) := by rw [Int.mul_add, Int.mul_one]; omega
    have a2 : b * q < b * (q' + 1) := by rw [Int.mul_add, Int.mul_one]; omega
    have b1 := Int.lt_of_mul_lt_mul_left a1 (Int.le_of_lt hbp)
    have b2 := Int.lt_of_mul_lt_mul_left a2 (Int.le_of_lt hbp)
    omega
  subst e1
  omega
end
/-- a cut: what is walked gives back one int, and nothing is changed -/
def CutI (h₀ : Heap) (L : Addr) (m : Str → Option Value) (news : List (Addr × Obj)) (s : Shared) (x : Int) (v : Value) (s' : Shared) : Prop :=
  ∃ (t : Tok) (tk : Nat) (h' : Heap), v = .int x t ∧ s' = { s with heap := h', toks := tk } ∧ Fr h₀ L h' m ∧ News h₀ L h' news
theorem CutI.intro {h₀ : Heap} {L : Addr} {m : Str → Option Value} {news : List (Addr × Obj)} {s : Shared} {x y : Int} {t : Tok} {tk : Nat} {h' : Heap} (F : Fr h₀ L h' m) (N : News h₀ L h' news) (e : y = x) : CutI h₀ L m news s x (.int y t) { s with heap := h', toks := tk } := ⟨t, tk, h', by rw [e], rfl, F, N⟩
theorem cut_int {M : Model} {A : Around} {E Q : Value → Shared → Prop} {s : Shared} {h₀ : Heap} {L : Addr} {m : Str → Option Value} {news : List (Addr × Obj)} {cm : Sem Value} (x : Int) (_F : Fr h₀ L s.heap m) (_N : News h₀ L s.heap news)
    (h1 : wpAny M A cm (fun v s' => CutI h₀ L m news s x v s') E s) (h2 : ∀ t tk h', Fr h₀ L h' m → News h₀ L h' news → Q (.int x t) { s with heap := h', toks := tk }) : wpAny M A cm Q E s := by
  refine wpAny_mono h1 (fun v s₂ hq => ?_) fun _ _ h => h
  obtain ⟨t, tk, h', rfl, rfl, F, N⟩ := hq
  exact h2 t tk h' F N
theorem goodW_rw {c : ClaimW} {cl : Str → Option Addr} {mean : ExcName → Option Value} {args : List WData} {s₁ s' : Shared} {X : Bool} (h : X = true) (g : GoodW c cl mean args s₁ (.ok (.ret (.bool true))) s') : GoodW c cl mean args s₁ (.ok (.ret (.bool X))) s' := by rw [h]; exact g
end
section
section
variable {prog : Program} {w : World} {A : Around} {E : Value → Shared → Prop} {s : Shared}
abbrev tup3 (a b c : Int) (t u v : Tok) : Obj := { cls := .type "tuple", data := .seq #[.int a t, .int b u, .int c v] }
theorem isTup {s : Shared} {a : Addr} {d : Data} (h : s.heap.get? a = some { cls := .type "tuple", data := d }) : s.TypeIs (.ref a) "tuple" := ⟨_, h, rfl⟩
theorem lt_step {p q : Int} {t u : Tok} {R : ForInStep (Option PySem.Fin × Unit) → Shared → Prop} (h1 : p = q → R (.yield (none, ())) s) (h2 : p ≠ q → R (.done (some (.done (.ret (.bool (decide (p < q))))), ())) s) :
    wpAny (model prog w) A (do
          let e ← eqBool (Value.int p t) (Value.int q u)
          if (!e) = true then do
              rule "tuple.compare.by-the-first-pair-that-differs"
              let r ← richCompare CmpOp.Lt (Value.int p t) (Value.int q u)
              let r ← ret r
              pure (ForInStep.done (some r, ()))
            else pure (ForInStep.yield (none, ()))) R E s := by
  refine wpAny_bind (wpAny_eqBool_int ?_)
  by_cases h : p = q
  · rw [show (p == q) = true by simp [h]]
    simp only [Bool.not_true, Bool.false_eq_true, if_false]
    exact wpAny_pure (h1 h)
  · rw [show (p == q) = false by simp [h]]
    simp only [Bool.not_false, if_true]
    exact wpAny_bind (wpAny_rule (wpAny_bind (show wpAny _ _ (compareOp .Lt _ _) _ _ _ from lt_int (wpAny_bind (wpAny_pure (wpAny_pure (h2 h)))))))
theorem gt_step {p q : Int} {t u : Tok} {R : ForInStep (Option PySem.Fin × Unit) → Shared → Prop} (h1 : p = q → R (.yield (none, ())) s) (h2 : p ≠ q → R (.done (some (.done (.ret (.bool (decide (q < p))))), ())) s) :
    wpAny (model prog w) A (do
          let e ← eqBool (Value.int p t) (Value.int q u)
          if (!e) = true then do
              rule "tuple.compare.by-the-first-pair-that-differs"
              let r ← richCompare CmpOp.Gt (Value.int p t) (Value.int q u)
              let r ← ret r
              pure (ForInStep.done (some r, ()))
            else pure (ForInStep.yield (none, ()))) R E s := by
  refine wpAny_bind (wpAny_eqBool_int ?_)
  by_cases h : p = q
  · rw [show (p == q) = true by simp [h]]
    simp only [Bool.not_true, Bool.false_eq_true, if_false]
    exact wpAny_pure (h1 h)
  · rw [show (p == q) = false by simp [h]]
    simp only [Bool.not_false, if_true]
    exact wpAny_bind (wpAny_rule (wpAny_bind (show wpAny _ _ (compareOp .Gt _ _) _ _ _ from gt_int (wpAny_bind (wpAny_pure (wpAny_pure (h2 h)))))))
theorem lt_tree {l k : Addr} {a b c x y z : Int} {t1 t2 t3 u1 u2 u3 : Tok} {P : PySem.Fin → Shared → Prop} (ha : s.heap.get? l = some (tup3 a b c t1 t2 t3)) (hb : s.heap.get? k = some (tup3 x y z u1 u2 u3)) (h : P (.done (.ret (.bool (lex3 a b c x y z)))) s) :
    wpAny (model prog w) A (Builtin.«tuple.__lt__» ⟨[.ref l, .ref k], []⟩) P E s := by
  show wpAny _ _ (isInstance (.ref k) (.type "tuple") >>= _) _ _ s
  refine wpAny_bind (wpAny_isInstance (isTup hb) isSubtype_tuple_tuple ?_)
  simp only [Bool.not_true, Bool.false_eq_true, if_false]
  refine wpAny_bind (wpAny_tupleItemsOf ha rfl ?_)
  refine wpAny_bind (wpAny_tupleItemsOf hb rfl ?_)
  refine wpAny_bind ?_
  simp only [List.zip_cons_cons, List.zip_nil_left, List.forIn_cons, List.forIn_nil]
  refine wpAny_bind (lt_step (fun e1 => ?_) fun n1 => ?_)
  · refine wpAny_bind (lt_step (fun e2 => ?_) fun n2 => ?_)
    · refine wpAny_bind (lt_step (fun e3 => ?_) fun n3 => ?_)
      · refine wpAny_pure ?_
        refine wpAny_pure ?_
        rw [show lex3 a b c x y z = false by unfold lex3; simp [e1, e2, e3]] at h
        exact h
      · refine wpAny_pure (wpAny_pure ?_)
        rw [show lex3 a b c x y z = decide (c < z) by unfold lex3; simp [e1, e2]] at h
        exact h
    · refine wpAny_pure (wpAny_pure ?_)
      rw [show lex3 a b c x y z = decide (b < y) by unfold lex3; simp [e1, n2]] at h
      exact h
  · refine wpAny_pure (wpAny_pure ?_)
    rw [show lex3 a b c x y z = decide (a < x) by unfold lex3; simp [n1]] at h
    exact h
theorem gt_tree {l k : Addr} {a b c x y z : Int} {t1 t2 t3 u1 u2 u3 : Tok} {P : PySem.Fin → Shared → Prop} (ha : s.heap.get? l = some (tup3 a b c t1 t2 t3)) (hb : s.heap.get? k = some (tup3 x y z u1 u2 u3)) (h : P (.done (.ret (.bool (lex3 x y z a b c)))) s) :
    wpAny (model prog w) A (Builtin.«tuple.__gt__» ⟨[.ref l, .ref k], []⟩) P E s := by
  show wpAny _ _ (isInstance (.ref k) (.type "tuple") >>= _) _ _ s
  refine wpAny_bind (wpAny_isInstance (isTup hb) isSubtype_tuple_tuple ?_)
  simp only [Bool.not_true, Bool.false_eq_true, if_false]
  refine wpAny_bind (wpAny_tupleItemsOf ha rfl ?_)
  refine wpAny_bind (wpAny_tupleItemsOf hb rfl ?_)
  refine wpAny_bind ?_
  simp only [List.zip_cons_cons, List.zip_nil_left, List.forIn_cons, List.forIn_nil]
  refine wpAny_bind (gt_step (fun e1 => ?_) fun n1 => ?_)
  · refine wpAny_bind (gt_step (fun e2 => ?_) fun n2 => ?_)
    · refine wpAny_bind (gt_step (fun e3 => ?_) fun n3 => ?_)
      · refine wpAny_pure ?_
        refine wpAny_pure ?_
        rw [show lex3 x y z a b c = false by unfold lex3; simp [e1, e2, e3]] at h
        exact h
      · refine wpAny_pure (wpAny_pure ?_)
        rw [show lex3 x y z a b c = decide (z < c) by unfold lex3; simp [e1, e2]] at h
        exact h
    · refine wpAny_pure (wpAny_pure ?_)
      rw [show lex3 x y z a b c = decide (y < b) by unfold lex3; simp [e1, Ne.symm n2]] at h
      exact h
  · refine wpAny_pure (wpAny_pure ?_)
    rw [show lex3 x y z a b c = decide (x < a) by unfold lex3; simp [Ne.symm n1]] at h
    exact h
theorem tup_lt {l k : Addr} {a b c x y z : Int} {t1 t2 t3 u1 u2 u3 : Tok} {Q : Value → Shared → Prop} (ha : s.heap.get? l = some (tup3 a b c t1 t2 t3)) (hb : s.heap.get? k = some (tup3 x y z u1 u2 u3)) (hu : A.units + 64 < cLine) {B : Bool} (e : lex3 a b c x y z = B) (h : Q (.bool B) s) :
    wpAny (model prog w) A (compareOp .Lt (.ref l) (.ref k)) Q E s :=
  show wpAny _ _ (richCompare .Lt _ _) _ _ _ from wpAny_richCompare_same_room (op := .Lt) (isTup ha) (isTup hb) PySem.F.slot_tuple_lt
      (wpAny_call_entry PySem.F.slot_tuple_lt (isTup ha) PySem.F.entry_tuple_lt (lt_tree ha hb ⟨_, rfl, (fun e => nomatch e), by rw [e]; exact h⟩) (PySem.F.args_tuple_lt_2 _ _)) (by omega)
theorem tup_gt {l k : Addr} {a b c x y z : Int} {t1 t2 t3 u1 u2 u3 : Tok} {Q : Value → Shared → Prop} (ha : s.heap.get? l = some (tup3 a b c t1 t2 t3)) (hb : s.heap.get? k = some (tup3 x y z u1 u2 u3)) (hu : A.units + 64 < cLine) {B : Bool} (e : lex3 x y z a b c = B) (h : Q (.bool B) s) :
    wpAny (model prog w) A (compareOp .Gt (.ref l) (.ref k)) Q E s :=
  show wpAny _ _ (richCompare .Gt _ _) _ _ _ from wpAny_richCompare_same_room (op := .Gt) (isTup ha) (isTup hb) PySem.F.slot_tuple_gt
      (wpAny_call_entry PySem.F.slot_tuple_gt (isTup ha) PySem.F.entry_tuple_gt (gt_tree ha hb ⟨_, rfl, (fun e => nomatch e), by rw [e]; exact h⟩) (PySem.F.args_tuple_gt_2 _ _)) (by omega)
theorem tup_eq {l k : Addr} {a b c x y z : Int} {t1 t2 t3 u1 u2 u3 : Tok} {Q : Value → Shared → Prop} (ha : s.heap.get? l = some (tup3 a b c t1 t2 t3)) (hb : s.heap.get? k = some (tup3 x y z u1 u2 u3)) (hu : A.units + 64 < cLine) {B : Bool} (e : (a == x && (b == y && c == z)) = B) (h : Q (.bool B) s) :
    wpAny (model prog w) A (compareOp .Eq (.ref l) (.ref k)) Q E s := by
  refine eq_dataH (reads_tuple_at ha rfl rfl (ReadsAll.cons (Reads.int _ _) (ReadsAll.cons (Reads.int _ _) (ReadsAll.cons (Reads.int _ _) ReadsAll.nil)))) (reads_tuple_at hb rfl rfl (ReadsAll.cons (Reads.int _ _) (ReadsAll.cons (Reads.int _ _) (ReadsAll.cons (Reads.int _ _) ReadsAll.nil)))) rfl rfl hu ?_
  simp only [PyData.eqv, PyData.eqvAll, Bool.and_true]
  rw [e]
  exact h
end
end
section
section
open LCg
variable {prog : Program} {w : World} {A : Around} {E : Value → Shared → Prop} {s : Shared} {h₀ : Heap} {L : Addr} {m : Str → Option Value} {env : Env}
/-- an element of a comprehension over ints: one value, nothing else changed -/
def EltOk (h₀ : Heap) (L : Addr) (m : Str → Option Value) (s : Shared) (I : Addr) (oI : Obj) (C : Addr) (oC : Obj) (D : Addr) (oD : Obj) (news : List (Addr × Obj)) (R : Int → Value → Prop) (n : Int) (v : Value) (s' : Shared) : Prop :=
  ∃ (h' : Heap) (tk : Nat), R n v ∧ s' = { s with heap := h', toks := tk } ∧ Fr h₀ L h' m ∧ News h₀ L h' ((I, oI) :: (C, oC) :: (D, oD) :: news)
theorem EltOk.intro {I : Addr} {oI : Obj} {C : Addr} {oC : Obj} {D : Addr} {oD : Obj} {news : List (Addr × Obj)} {R : Int → Value → Prop} {n : Int} {v : Value} {h' : Heap} {tk : Nat} (F : Fr h₀ L h' m) (N : News h₀ L h' ((I, oI) :: (C, oC) :: (D, oD) :: news)) (r : R n v) :
    EltOk h₀ L m s I oI C oC D oD news R n v { s with heap := h', toks := tk } := ⟨h', tk, r, rfl, F, N⟩
def EltIs (prog : Program) (w : World) (A : Around) (h₀ : Heap) (L : Addr) (m : Str → Option Value) (env : Env) (elt : Expr) (x : Str) (scope : Scope) (cl : List (Str × Addr)) (Pn : Int → Prop) (R : Int → Value → Prop) (news : List (Addr × Obj)) : Prop :=
  ∀ (n : Int) (t : Tok) (I : Addr) (oI : Obj) (C : Addr) (oC : Obj) (D : Addr) (oD : Obj) (m₂ : Str → Option Value) (h : Heap) (tk : Nat) (E' : Value → Shared → Prop) (s₂ : Shared), Pn n → NsObj oC m₂ → m₂ x = some (.int n t) → Fr h₀ L h m → News h₀ L h ((I, oI) :: (C, oC) :: (D, oD) :: news) →
    wpAny (model prog w) A (eval elt (compEnvC scope cl C env)) (fun v s' => EltOk h₀ L m s₂ I oI C oC D oD news R n v s') E' { s₂ with heap := h, toks := tk }
theorem map_rest {elt : Expr} {x : Str} {scope : Scope} {cl : List (Str × Addr)} {S : List (Addr × Obj) → Prop} {P : Nat → Value → Prop} {Fin : List Value → List (Addr × Obj) → Prop} {news : List (Addr × Obj)} {Pn : Int → Prop} {R : Int → Value → Prop} {g : Nat → Int} {Acc : Nat → List Value → Prop} {n : Nat}
    (T : EltIs prog w A h₀ L m env elt x scope cl Pn R news) (hP : ∀ i v, i < n → P i v → ∃ t, v = Value.int (g i) t ∧ Pn (g i)) (hS : S news) (hA : ∀ i ys y, i < n → Acc i ys → R (g i) y → Acc (i + 1) (ys ++ [y])) (hF : ∀ ys, Acc n ys → Fin ys news) :
    ∀ k i ys, i + k = n → Acc i ys → CompRest prog w A h₀ L m env elt x scope cl s S P Fin k i ys news
  | 0, i, ys, e, ha => hF ys (by rw [← show i = n by omega]; exact ha)
  | k + 1, i, ys, e, ha => by
    refine CompRest.succ fun v I oI C oC D m₂ h tk E' hv hC hx F N off ne => ?_
    obtain ⟨t, rfl, hp⟩ := hP i v (by omega) hv
    refine wpAny_mono (T (g i) t I oI C oC D _ m₂ h tk E' s hp hC hx F N) (fun v s' hq => ?_) fun _ _ e => e
    obtain ⟨h', tk', hr, rfl, F', N'⟩ := hq
    exact CompEnd.intro F' N' news (fun p hp => hp) off hS (map_rest T hP hS hA hF k (i + 1) (ys ++ [v]) (by omega) (hA i ys v (by omega) ha hr))
def SrcTup (h₀ : Heap) (L : Addr) (m : Str → Option Value) (K : Array Value → List (Addr × Obj) → Shared → Prop) (xv : Value) (s₁ : Shared) : Prop :=
  ∃ ax its news, xv = Value.ref ax ∧ Fr h₀ L s₁.heap m ∧ News h₀ L s₁.heap news ∧ (∃ o, (ax, o) ∈ news ∧ o.cls = .type "tuple" ∧ ∃ n, o.data = .seq its n) ∧ its.size ≤ sizeLine ∧ K its news s₁
theorem comp_tup {elt iter : Expr} {x : Str} {px : Pos} {scope : Scope} {cl : List (Str × Addr)} {pos : Pos} {Q : Value → Shared → Prop} (_F₀ : Fr h₀ L s.heap m) (hh : A.handled = none)
    (hclos : closureFor scope env = pure cl) (hcell : ∀ y ∈ scope.names, y.2 ≠ .cell) (hkind : scope.kind = .function)
    (hnames : ∀ y ∈ scope.names, y.2 = .local → scope.names.lookup y.1 = some .local) (hx : scope.names.lookup x = some .local)
    (h : wpAny (model prog w) A (eval iter env) (fun xv s₁ => SrcTup h₀ L m (fun its news s₁ => ∀ s₂ : Shared, (∃ h, s₂ = { s₁ with heap := h }) → ∀ S : List (Addr × Obj) → Prop, S news → CompRest prog w A h₀ L m env elt x scope cl s₂ S (fun i v => its[i]? = some v) (FinE h₀ L m s₂ Q) its.size 0 [] news) xv s₁) E s)
    (hs : ∀ x, foldedSetIterable iter env x = pure x := by intro _; rfl) :
    wpAny (model prog w) A (eval (.ListComp elt [⟨.Name x px, iter, [], 0⟩] scope pos) env) Q E s := by
  rw [eval_ListComp]
  refine wpAny_comprehension_free (use := none) rfl hs hclos hkind hnames (wpAny_mono h (fun xv s₁ h₁ => ?_) fun _ _ e => e)
  obtain ⟨ax, its, news, rfl, F, N, ⟨o, hm, hc, n, hd⟩, hsz, R⟩ := h₁
  have hget : s₁.heap.get? ax = some o := (N _ hm).1
  have hlt : ax < s₁.heap.objs.size := Heap.lt_size hget
  have hl : s₁.heap.IsTuple ax its := ⟨o, hget, hc, n, hd⟩
  refine wpAny_pyIter_tuple hl ?_
  have up : ∀ b o, s₁.heap.get? b = some o → (s₁.heap.push { cls := .type "tuple_iterator", data := .fields #[.ref ax, .int 0 0] }).get? b = some o := fun b o e => Heap.get?_push_of_some _ e
  refine block_U (Walks.tuple hh s₁.heap.objs.size ax (Nat.ne_of_lt hlt) its) hsz (fun i h st => by obtain ⟨o, e, _⟩ := st.1; exact ⟨o, e⟩) (S := fun nw => (ax, o) ∈ nw) (fun i h h' o' nw st e e' k N' S => ⟨by obtain ⟨o'', q, r⟩ := st.1; rw [e] at q; cases q; exact ⟨o', e', r⟩, ⟨o, (N' _ S).1, hc, n, hd⟩⟩) hcell hkind hx ⟨⟨_, Heap.get?_push_size _ rfl, rfl, rfl⟩, hl.push _⟩ (fun b hb => ?_)
    (F.keeps up) (N.grown up) (Nat.ne_of_lt F.ns.lt) (next_is_new F) (fun p hp => Nat.ne_of_lt (Heap.lt_size (N p hp).1)) hm (R _ ⟨_, rfl⟩ _ hm) ?_
  · show b < (s₁.heap.push _).objs.size
    rw [Heap.size_push]
    rcases List.mem_cons.mp hb with rfl | hb
    · exact Nat.lt_succ_self _
    · rw [List.mem_singleton.mp hb]; exact Nat.lt_succ_of_lt hlt
  · intro D C h tk m' ys news' F' N' o1 hn hC₀ hD₀ hCL hDL hCD offC fin
    refine ⟨m', hn, fun h'' hs'' => fin D h'' tk (F'.change hs'' hCL hC₀) (fun p hp => ?_) o1⟩
    refine ⟨hs''.extBut _ _ ?_ (N' p hp).1, (N' p hp).2⟩
    rcases List.mem_cons.mp hp with rfl | hp
    · exact Ne.symm hCD
    · exact offC p hp
end
end
section
/-- a cut: what is walked gives back an int of which P holds, and nothing is changed -/
def CutP (h₀ : Heap) (L : Addr) (m : Str → Option Value) (news : List (Addr × Obj)) (s : Shared) (P : Int → Prop) (v : Value) (s' : Shared) : Prop :=
  ∃ (x : Int) (t : Tok) (tk : Nat) (h' : Heap), v = .int x t ∧ P x ∧ s' = { s with heap := h', toks := tk } ∧ Fr h₀ L h' m ∧ News h₀ L h' news
theorem CutP.intro {h₀ : Heap} {L : Addr} {m : Str → Option Value} {news : List (Addr × Obj)} {s : Shared} {P : Int → Prop} {y : Int} {t : Tok} {tk : Nat} {h' : Heap} (F : Fr h₀ L h' m) (N : News h₀ L h' news) (e : P y) : CutP h₀ L m news s P (.int y t) { s with heap := h', toks := tk } := ⟨y, t, tk, h', rfl, e, rfl, F, N⟩
theorem cut_pred {M : Model} {A : Around} {E Q : Value → Shared → Prop} {s : Shared} {h₀ : Heap} {L : Addr} {m : Str → Option Value} {news : List (Addr × Obj)} {cm : Sem Value} (P : Int → Prop) (_F : Fr h₀ L s.heap m) (_N : News h₀ L s.heap news)
    (h1 : wpAny M A cm (fun v s' => CutP h₀ L m news s P v s') E s) (h2 : ∀ x t tk h', P x → Fr h₀ L h' m → News h₀ L h' news → Q (.int x t) { s with heap := h', toks := tk }) : wpAny M A cm Q E s := by
  refine wpAny_mono h1 (fun v s₂ hq => ?_) fun _ _ h => h
  obtain ⟨x, t, tk, h', rfl, hp, rfl, F, N⟩ := hq
  exact h2 x t tk h' hp F N
end
section
section
variable {prog : Program} {w : World} {A : Around} {E : Value → Shared → Prop} {s : Shared} {h₀ : Heap} {L l : Addr} {m : Str → Option Value} {news : List (Addr × Obj)} {vs : List Value} {ns : List Int}
theorem ints_at : ∀ {vs : List Value} {ns : List Int}, IntsAre vs ns → ∀ {k : Nat} (h : k < ns.length), ∃ t, vs[k]? = some (Value.int ns[k] t)
  | _, _, .nil, _, h => absurd h (by simp)
  | _, _, .cons _ t _, 0, _ => ⟨t, rfl⟩
  | _, _, .cons _ _ r, k + 1, h => by simpa using ints_at r (k := k) (by simpa using h)
/-- an item of a list of ints at a place that lies in it -/
theorem list_item {value slice : PySem.Expr} {k : Int} {u : Tok} {Q : Value → Shared → Prop} (hl : s.heap.IsList l vs.toArray) (hi : IntsAre vs ns) (h0 : 0 ≤ k) (hz : k < 2 ^ 63) (hk : k.toNat < ns.length)
    (hs : subscripted slice false (.ref l) (.int k u) = operate [.ref l, .int k u] (getItem (.ref l) (.int k u)))
    (h : ∀ t, Q (.int ns[k.toNat] t) s) : wpAny (model prog w) A (subscriptTail value slice (.ref l) (.int k u)) Q E s := by
  obtain ⟨t, ht⟩ := ints_at hi hk
  exact tail_any hl.typeIs slot_list_getitem.lookup (wpAny_getItem_list hl h0 hz (by simpa using ht) (h t)) hs
theorem script_item {value slice : PySem.Expr} {k : Int} {u : Tok} {Q : Value → Shared → Prop} (hl : s.heap.IsList l vs.toArray) (hi : IntsAre vs ns) (h0 : 0 ≤ k) (hz : k < 2 ^ 63) (hk : k < (ns.length : Int))
    (hs : subscripted slice false (.ref l) (.int k u) = operate [.ref l, .int k u] (getItem (.ref l) (.int k u)))
    (h : ∀ x t, Q (.int x t) s) : wpAny (model prog w) A (subscriptTail value slice (.ref l) (.int k u)) Q E s :=
  list_item hl hi h0 hz (by omega) hs (h _)
theorem map_item {f : Int → Int} {n : Nat} {value slice : PySem.Expr} {k : Int} {u : Tok} {Q : Value → Shared → Prop} (hl : s.heap.IsList l vs.toArray) (hi : IntsAre vs (List.map f (rangeKs 0 n))) (h0 : 0 ≤ k) (hz : k < 2 ^ 63) (hk : k < (n : Int))
    (hs : subscripted slice false (.ref l) (.int k u) = operate [.ref l, .int k u] (getItem (.ref l) (.int k u)))
    (h : ∀ t, Q (.int (f k) t) s) : wpAny (model prog w) A (subscriptTail value slice (.ref l) (.int k u)) Q E s := by
  have hk' : k.toNat < (List.map f (rangeKs 0 n)).length := by simp [rangeKs]; omega
  refine list_item hl hi h0 hz hk' hs fun t => ?_
  have e : (List.map f (rangeKs 0 n))[k.toNat] = f k := by
    simp [rangeKs]
    congr 1
    omega
  rw [e]
  exact h t
theorem sum_to {X : Int} {Q : Value → Shared → Prop} (F : Fr h₀ L s.heap m) (N : News h₀ L s.heap news) (hh : A.handled = none) (hl : s.heap.IsList l vs.toArray) (hi : IntsAre vs ns) (e : ns.sum = X)
    (h : ∀ h' tk t', Fr h₀ L h' m → News h₀ L h' news → Q (.int X t') { s with heap := h', toks := tk }) : wpAny (model prog w) A (call (.builtin "sum") [.ref l]) Q E s := by
  subst e
  exact LSm.sum_ints F N hh hl hi h
end
theorem rks_succ (n : Nat) : rangeKs 0 (n + 1) = rangeKs 0 n ++ [(n : Int)] := by simp [rangeKs, List.range_succ]
/-- the k-th month's length, from January of the year 1 on -/
def mlen (k : Int) : Int := dim (k.fdiv 12 + 1) (k.fmod 12 + 1)
theorem msum (n : Nat) : (List.map mlen (rangeKs 0 n)).sum = dby ((n : Int) / 12 + 1) + dbm ((n : Int) / 12 + 1) ((n : Int) % 12 + 1) := by
  induction n with
  | zero => decide
  | succ n ih =>
    rw [rks_succ, List.map_append, List.sum_append, ih]
    simp only [List.map_cons, List.map_nil, List.sum_cons, List.sum_nil, mlen]
    rw [Int.fmod_eq_emod_of_nonneg _ (by decide), Int.fdiv_eq_ediv_of_nonneg _ (by decide)]
    have hl : 0 ≤ (n : Int) % 12 := by omega
    have hu : (n : Int) % 12 < 12 := by omega
    by_cases c : (n : Int) % 12 = 11
    · rw [show ((n + 1 : Nat) : Int) / 12 = (n : Int) / 12 + 1 by omega, show ((n + 1 : Nat) : Int) % 12 = 0 by omega, c]
      have h1 := dby_succ ((n : Int) / 12 + 1)
      have h2 := dbm_12 ((n : Int) / 12 + 1)
      have h3 := dbm_1 ((n : Int) / 12 + 1 + 1)
      simp only [show (11 : Int) + 1 = 12 by rfl, show (0 : Int) + 1 = 1 by rfl]
      omega
    · rw [show ((n + 1 : Nat) : Int) / 12 = (n : Int) / 12 by omega, show ((n + 1 : Nat) : Int) % 12 = (n : Int) % 12 + 1 by omega]
      have h2 := dbm_step (y := (n : Int) / 12 + 1) (m := (n : Int) % 12 + 1) (by omega) (by omega)
      omega
theorem take_rks {f : Int → Int} {k n : Nat} (h : k ≤ n) : List.take k (List.map f (rangeKs 0 n)) = List.map f (rangeKs 0 k) := by
  simp only [rangeKs, ← List.map_take, List.take_range, Nat.min_eq_left h]
theorem sumA {r : Int} (h : 0 ≤ r) : (List.take (r - r.fmod 12).toNat (List.map mlen (rangeKs 0 (r + 1 - 0).toNat))).sum = dby (r.fdiv 12 + 1) := by
  rw [Int.fmod_eq_emod_of_nonneg _ (by decide), Int.fdiv_eq_ediv_of_nonneg _ (by decide), take_rks (by omega), msum]
  rw [show (((r - r % 12).toNat : Nat) : Int) / 12 = r / 12 by omega, show (((r - r % 12).toNat : Nat) : Int) % 12 = 0 by omega]
  have := dbm_1 (r / 12 + 1)
  simp only [show (0 : Int) + 1 = 1 by rfl]
  omega
theorem sum_cut {l : List Int} {a b : Nat} (h : a ≤ b) : ((l.drop a).take (b - a)).sum = (l.take b).sum - (l.take a).sum := by
  have : l.take b = l.take a ++ (l.drop a).take (b - a) := by
    rw [← List.take_append_drop a (l.take b)]
    congr 1
    · rw [List.take_take, Nat.min_eq_left h]
    · rw [List.drop_take]
  rw [this, List.sum_append]
  omega
theorem sumB {r : Int} (h : 0 ≤ r) : (List.take (min r.toNat (List.map mlen (rangeKs 0 (r + 1 - 0).toNat)).length - (r - r.fmod 12).toNat) (List.drop (r - r.fmod 12).toNat (List.map mlen (rangeKs 0 (r + 1 - 0).toNat)))).sum = dbm (r.fdiv 12 + 1) (r.fmod 12 + 1) := by
  have hm : min r.toNat (List.map mlen (rangeKs 0 (r + 1 - 0).toNat)).length = r.toNat := by simp [rangeKs]; omega
  have e0 : r.fmod 12 = r % 12 := Int.fmod_eq_emod_of_nonneg _ (by decide)
  rw [hm, sum_cut (by omega), sumA h, take_rks (by omega), msum, e0, Int.fdiv_eq_ediv_of_nonneg _ (by decide)]
  rw [show ((r.toNat : Nat) : Int) = r by omega]
  omega
theorem l04_facts {x q r : Int} (e : x = 4800 * q + r) (l : 0 ≤ r) (u : r < 4800) :
    dby (x.fdiv 12 + 1) = 146097 * q + dby (r.fdiv 12 + 1) ∧ dbm (x.fdiv 12 + 1) (x.fmod 12 + 1) = dbm (r.fdiv 12 + 1) (r.fmod 12 + 1) ∧ dim (x.fdiv 12 + 1) (x.fmod 12 + 1) = dim (r.fdiv 12 + 1) (r.fmod 12 + 1) ∧
    1 ≤ x.fmod 12 + 1 ∧ x.fmod 12 + 1 ≤ 12 ∧ 28 ≤ mlen r ∧ mlen r = dim (r.fdiv 12 + 1) (r.fmod 12 + 1) := by
  have e1 : ∀ z : Int, z.fmod 12 = z % 12 := fun z => Int.fmod_eq_emod_of_nonneg _ (by decide)
  have e2 : ∀ z : Int, z.fdiv 12 = z / 12 := fun z => Int.fdiv_eq_ediv_of_nonneg _ (by decide)
  have hl : lpd (x / 12 + 1) = lpd (r / 12 + 1) := by
    unfold lpd
    have : leap (x / 12 + 1) = leap (r / 12 + 1) := by
      rw [Bool.eq_iff_iff, leap_iff, leap_iff]
      rw [show x / 12 + 1 = 400 * q + (r / 12 + 1) by omega]
      omega
    rw [this]
  have hm : x % 12 = r % 12 := by omega
  simp only [mlen, e1, e2]
  refine ⟨?_, ?_, ?_, by omega, by omega, (dim_pos (by omega) (by omega)).1, trivial⟩
  · rw [show x / 12 + 1 = 400 * q + (r / 12 + 1) by omega]
    unfold dby
    omega
  · rw [hm]; unfold dbm; rw [hl]
  · rw [hm]; unfold dim; rw [hl]
theorem l04_told {yy mm dd q m d N : Int} (hV : Valid yy mm dd) (hO : ord yy mm dd = N) (hv : Valid q m d) (e : N = dby q + dbm q m + d) : yy = q ∧ mm = m ∧ dd = d :=
  ord_inj hV hv (by rw [hO, e]; rfl)
theorem ne_nil_len {ns : List Int} (h : decide (ns = []) = false) : (0 : Int) < (ns.length : Int) := by
  cases ns with
  | nil => simp at h
  | cons => simp only [List.length_cons]; omega
end
section
section
open LCg LCt
variable {prog : Program} {w : World} {A : Around} {E : Value → Shared → Prop} {s : Shared} {h₀ : Heap} {L : Addr} {m : Str → Option Value} {env : Env}
/-- the test of a comprehension over ints: one bool, nothing else changed -/
def TestOk (h₀ : Heap) (L : Addr) (m : Str → Option Value) (s : Shared) (I : Addr) (oI : Obj) (C : Addr) (oC : Obj) (D : Addr) (oD : Obj) (news : List (Addr × Obj)) (b : Bool) (ok : Bool) (s' : Shared) : Prop :=
  ∃ (h' : Heap) (tk : Nat), ok = b ∧ s' = { s with heap := h', toks := tk } ∧ Fr h₀ L h' m ∧ News h₀ L h' ((I, oI) :: (C, oC) :: (D, oD) :: news)
theorem TestOk.intro {I : Addr} {oI : Obj} {C : Addr} {oC : Obj} {D : Addr} {oD : Obj} {news : List (Addr × Obj)} {b ok : Bool} {h' : Heap} {tk : Nat} (F : Fr h₀ L h' m) (N : News h₀ L h' ((I, oI) :: (C, oC) :: (D, oD) :: news)) (r : ok = b) :
    TestOk h₀ L m s I oI C oC D oD news b ok { s with heap := h', toks := tk } := ⟨h', tk, r, rfl, F, N⟩
def TestIs (prog : Program) (w : World) (A : Around) (h₀ : Heap) (L : Addr) (m : Str → Option Value) (env : Env) (ct : Expr) (x : Str) (scope : Scope) (cl : List (Str × Addr)) (Pn : Int → Prop) (p : Int → Bool) (news : List (Addr × Obj)) : Prop :=
  ∀ (n : Int) (t : Tok) (I : Addr) (oI : Obj) (C : Addr) (oC : Obj) (D : Addr) (oD : Obj) (m₂ : Str → Option Value) (h : Heap) (tk : Nat) (E' : Value → Shared → Prop) (s₂ : Shared), Pn n → NsObj oC m₂ → m₂ x = some (.int n t) → Fr h₀ L h m → News h₀ L h ((I, oI) :: (C, oC) :: (D, oD) :: news) →
    Off3 I C D news → ((@Ne Nat I C) ∧ (@Ne Nat I D) ∧ (@Ne Nat C D)) →
    wpAny (model prog w) A (isTrue ct (compEnvC scope cl C env) (eval ct (compEnvC scope cl C env))) (fun ok s' => TestOk h₀ L m s₂ I oI C oC D oD news (p n) ok s') E' { s₂ with heap := h, toks := tk }
theorem filt_rest {ct elt : Expr} {x : Str} {scope : Scope} {cl : List (Str × Addr)} {S : List (Addr × Obj) → Prop} {P : Nat → Value → Prop} {Fin : List Value → List (Addr × Obj) → Prop} {news : List (Addr × Obj)} {Pn : Int → Prop} {p : Int → Bool} {R : Int → Value → Prop} {g : Nat → Int} {Acc : Nat → List Value → Prop} {n : Nat}
    (T : TestIs prog w A h₀ L m env ct x scope cl Pn p news) (V : EltIs prog w A h₀ L m env elt x scope cl Pn R news) (hP : ∀ i v, i < n → P i v → ∃ t, v = Value.int (g i) t ∧ Pn (g i)) (hS : S news)
    (hA0 : ∀ i ys, i < n → Acc i ys → p (g i) = false → Acc (i + 1) ys) (hA1 : ∀ i ys y, i < n → Acc i ys → p (g i) = true → R (g i) y → Acc (i + 1) (ys ++ [y])) (hF : ∀ ys, Acc n ys → Fin ys news) :
    ∀ k i ys, i + k = n → Acc i ys → CompRestT prog w A h₀ L m env ct elt x scope cl s S P Fin k i ys news
  | 0, i, ys, e, ha => hF ys (by rw [← show i = n by omega]; exact ha)
  | k + 1, i, ys, e, ha => by
    refine CompRestT.succ fun v I oI C oC D m₂ h tk E' hv hC hx F N off ne => ?_
    obtain ⟨t, rfl, hp⟩ := hP i v (by omega) hv
    refine wpAny_mono (T (g i) t I oI C oC D _ m₂ h tk E' s hp hC hx F N off ne) (fun ok s' hq => ?_) fun _ _ e => e
    obtain ⟨h', tk', hr, rfl, F', N'⟩ := hq
    cases hb : p (g i) with
    | false =>
      rw [hb] at hr
      subst hr
      simp only [Bool.false_eq_true, if_false]
      exact CompEnd.intro F' N' news (fun p hp => hp) off hS (filt_rest T V hP hS hA0 hA1 hF k (i + 1) ys (by omega) (hA0 i ys (by omega) ha hb))
    | true =>
      rw [hb] at hr
      subst hr
      simp only [if_true]
      refine wpAny_mono (V (g i) t I oI C oC D _ m₂ h' tk' E' s hp hC hx F' N') (fun v s' hq => ?_) fun _ _ e => e
      obtain ⟨h'', tk'', hr, rfl, F'', N''⟩ := hq
      exact CompEnd.intro F'' N'' news (fun p hp => hp) off hS (filt_rest T V hP hS hA0 hA1 hF k (i + 1) (ys ++ [v]) (by omega) (hA1 i ys v (by omega) ha hb hr))
theorem comp_tupT {ct elt iter : Expr} {x : Str} {px : Pos} {scope : Scope} {cl : List (Str × Addr)} {pos : Pos} {Q : Value → Shared → Prop} (_F₀ : Fr h₀ L s.heap m) (hh : A.handled = none)
    (hclos : closureFor scope env = pure cl) (hcell : ∀ y ∈ scope.names, y.2 ≠ .cell) (hkind : scope.kind = .function)
    (hnames : ∀ y ∈ scope.names, y.2 = .local → scope.names.lookup y.1 = some .local) (hx : scope.names.lookup x = some .local)
    (h : wpAny (model prog w) A (eval iter env) (fun xv s₁ => SrcTup h₀ L m (fun its news s₁ => ∀ s₂ : Shared, (∃ h, s₂ = { s₁ with heap := h }) → ∀ S : List (Addr × Obj) → Prop, S news → CompRestT prog w A h₀ L m env ct elt x scope cl s₂ S (fun i v => its[i]? = some v) (FinE h₀ L m s₂ Q) its.size 0 [] news) xv s₁) E s)
    (hs : ∀ x, foldedSetIterable iter env x = pure x := by intro _; rfl) :
    wpAny (model prog w) A (eval (.ListComp elt [⟨.Name x px, iter, [ct], 0⟩] scope pos) env) Q E s := by
  rw [eval_ListComp]
  refine wpAny_comprehension_free (use := none) rfl hs hclos hkind hnames (wpAny_mono h (fun xv s₁ h₁ => ?_) fun _ _ e => e)
  obtain ⟨ax, its, news, rfl, F, N, ⟨o, hm, hc, n, hd⟩, hsz, R⟩ := h₁
  have hget : s₁.heap.get? ax = some o := (N _ hm).1
  have hlt : ax < s₁.heap.objs.size := Heap.lt_size hget
  have hl : s₁.heap.IsTuple ax its := ⟨o, hget, hc, n, hd⟩
  refine wpAny_pyIter_tuple hl ?_
  have up : ∀ b o, s₁.heap.get? b = some o → (s₁.heap.push { cls := .type "tuple_iterator", data := .fields #[.ref ax, .int 0 0] }).get? b = some o := fun b o e => Heap.get?_push_of_some _ e
  refine block_T (Walks.tuple hh s₁.heap.objs.size ax (Nat.ne_of_lt hlt) its) hsz (fun i h st => by obtain ⟨o, e, _⟩ := st.1; exact ⟨o, e⟩) (S := fun nw => (ax, o) ∈ nw) (fun i h h' o' nw st e e' k N' S => ⟨by obtain ⟨o'', q, r⟩ := st.1; rw [e] at q; cases q; exact ⟨o', e', r⟩, ⟨o, (N' _ S).1, hc, n, hd⟩⟩) hcell hkind hx ⟨⟨_, Heap.get?_push_size _ rfl, rfl, rfl⟩, hl.push _⟩ (fun b hb => ?_)
    (F.keeps up) (N.grown up) (Nat.ne_of_lt F.ns.lt) (next_is_new F) (fun p hp => Nat.ne_of_lt (Heap.lt_size (N p hp).1)) hm (R _ ⟨_, rfl⟩ _ hm) ?_
  · show b < (s₁.heap.push _).objs.size
    rw [Heap.size_push]
    rcases List.mem_cons.mp hb with rfl | hb
    · exact Nat.lt_succ_self _
    · rw [List.mem_singleton.mp hb]; exact Nat.lt_succ_of_lt hlt
  · intro D C h tk m' ys news' F' N' o1 hn hC₀ hD₀ hCL hDL hCD offC fin
    refine ⟨m', hn, fun h'' hs'' => fin D h'' tk (F'.change hs'' hCL hC₀) (fun p hp => ?_) o1⟩
    refine ⟨hs''.extBut _ _ ?_ (N' p hp).1, (N' p hp).2⟩
    rcases List.mem_cons.mp hp with rfl | hp
    · exact Ne.symm hCD
    · exact offC p hp
end
end
section
/-- a marker: this is the law's year -/
structure Yr (y : Int) : Prop where
  mk ::
theorem dim_one {y m : Int} (h1 : 1 ≤ m) (h2 : m ≤ 12) : 1 ≤ dim y m := by have := dim_pos (y := y) h1 h2; omega
theorem ints_snoc : ∀ {vs : List Value} {ns : List Int}, IntsAre vs ns → ∀ {n : Int} {t : Tok}, IntsAre (vs ++ [Value.int n t]) (ns ++ [n])
  | _, _, .nil, n, t => .cons n t .nil
  | _, _, .cons k u r, _, _ => .cons k u (ints_snoc r)
theorem ints_size {ws : List Value} {ns : List Int} (h : IntsAre ws ns) (e : ns.length ≤ 1000) : ws.toArray.size ≤ sizeLine := by
  have : ws.length = ns.length := h.length
  have h2 : (1000 : Nat) ≤ sizeLine := Nat.le_of_ble_eq_true rfl
  simp only [List.size_toArray]
  omega
section
open LCg LCt
variable {prog : Program} {w : World} {A : Around} {E : Value → Shared → Prop} {s₁ : Shared} {h₀ : Heap} {L : Addr} {m : Str → Option Value} {env : Env}
/-- the runs a, a + 1, .. : n of them -/
def runs (a : Int) (n : Nat) : List Int := (List.range n).map fun (i : Nat) => a + (i : Int)
theorem ints_succ (a : Int) (n : Nat) : runs a (n + 1) = runs a n ++ [a + (n : Int)] := by simp [runs, List.range_succ]
/-- a comprehension over a range: f of each int -/
theorem src_map {elt : Expr} {x : Str} {scope : Scope} {cl : List (Str × Addr)} {Fin : Shared → List Value → List (Addr × Obj) → Prop} {r : Addr} {a b : Int} {t u v : Tok} {n : Nat} {news : List (Addr × Obj)} {Pn : Int → Prop} {f : Int → Int}
    (hh : A.handled = none) (F : Fr h₀ L s₁.heap m) (N : News h₀ L s₁.heap news) (hr : IsRange s₁.heap r a b 1 t u v) (hsm : Builtin.Range.small a b 1 = true) (hn : Builtin.Range.rangeSize a b 1 = ((n : Nat) : Int)) (hsz : n ≤ sizeLine)
    (hp : ∀ i : Nat, i < n → Pn (a + (i : Int))) (T : EltIs prog w A h₀ L m env elt x scope cl Pn (fun n v => ∃ t, v = Value.int (f n) t) news)
    (h : ∀ g ys, IntsAre ys ((runs a n).map f) → Fin { s₁ with heap := g } ys news) : CompSrc prog w A h₀ L m env elt x scope cl Fin (.ref r) s₁ := by
  refine CompSrc.range hh F N hr hsm hn hsz fun g => ?_
  refine map_rest (Pn := Pn) (R := fun n v => ∃ t, v = Value.int (f n) t) (g := fun i => a + (i : Int)) (Acc := fun i ys => IntsAre ys ((runs a i).map f)) (n := n) T ?_ trivial ?_ (h g) n 0 [] (by omega) .nil
  · rintro i v hi ⟨t, rfl⟩
    exact ⟨t, rfl, hp i hi⟩
  · rintro i ys y _ ha ⟨t, rfl⟩
    rw [ints_succ, List.map_append]
    exact ints_snoc ha
/-- a comprehension over a range with a test: the ints of which p holds -/
theorem src_filt {ct elt : Expr} {x : Str} {scope : Scope} {cl : List (Str × Addr)} {Fin : Shared → List Value → List (Addr × Obj) → Prop} {r : Addr} {a b : Int} {t u v : Tok} {n : Nat} {news : List (Addr × Obj)} {Pn : Int → Prop} {p : Int → Bool}
    (hh : A.handled = none) (F : Fr h₀ L s₁.heap m) (N : News h₀ L s₁.heap news) (hr : IsRange s₁.heap r a b 1 t u v) (hsm : Builtin.Range.small a b 1 = true) (hn : Builtin.Range.rangeSize a b 1 = ((n : Nat) : Int)) (hsz : n ≤ sizeLine)
    (hp : ∀ i : Nat, i < n → Pn (a + (i : Int))) (T : TestIs prog w A h₀ L m env ct x scope cl Pn p news) (V : EltIs prog w A h₀ L m env elt x scope cl Pn (fun n v => ∃ t, v = Value.int n t) news)
    (h : ∀ g ys, IntsAre ys ((runs a n).filter p) → Fin { s₁ with heap := g } ys news) : CompSrcT prog w A h₀ L m env ct elt x scope cl Fin (.ref r) s₁ := by
  refine CompSrcT.range hh F N hr hsm hn hsz fun g => ?_
  refine filt_rest (Pn := Pn) (p := p) (R := fun n v => ∃ t, v = Value.int n t) (g := fun i => a + (i : Int)) (Acc := fun i ys => IntsAre ys ((runs a i).filter p)) (n := n) T V ?_ trivial ?_ ?_ (h g) n 0 [] (by omega) .nil
  · rintro i v hi ⟨t, rfl⟩
    exact ⟨t, rfl, hp i hi⟩
  · intro i ys _ ha hb
    rw [ints_succ, List.filter_append]
    simpa [hb] using ha
  · rintro i ys y _ ha hb ⟨t, rfl⟩
    rw [ints_succ, List.filter_append]
    simp only [List.filter_cons, hb, if_true, List.filter_nil]
    exact ints_snoc ha
theorem src03 {elt : Expr} {x : Str} {scope : Scope} {cl : List (Str × Addr)} {Fin : Shared → List Value → List (Addr × Obj) → Prop} {r : Addr} {t u v : Tok} {news : List (Addr × Obj)} {y : Int} (_hY : Yr y)
    (hh : A.handled = none) (F : Fr h₀ L s₁.heap m) (N : News h₀ L s₁.heap news) (hr : IsRange s₁.heap r 1 13 1 t u v)
    (T : EltIs prog w A h₀ L m env elt x scope cl (fun n => 1 ≤ n ∧ n ≤ 12) (fun n v => ∃ t, v = Value.int (dim y n) t) news)
    (h : ∀ g ys, IntsAre ys ((runs 1 12).map (dim y)) → Fin { s₁ with heap := g } ys news) : CompSrc prog w A h₀ L m env elt x scope cl Fin (.ref r) s₁ :=
  src_map (n := 12) hh F N hr (by decide) (by decide) (by decide) (fun i hi => by omega) T h
theorem src03T {ct elt : Expr} {x : Str} {scope : Scope} {cl : List (Str × Addr)} {Fin : Shared → List Value → List (Addr × Obj) → Prop} {r : Addr} {t u v : Tok} {news : List (Addr × Obj)} {y : Int} (_hY : Yr y)
    (hh : A.handled = none) (F : Fr h₀ L s₁.heap m) (N : News h₀ L s₁.heap news) (hr : IsRange s₁.heap r 1 41 1 t u v)
    (T : TestIs prog w A h₀ L m env ct x scope cl (fun _ => True) (alike y) news) (V : EltIs prog w A h₀ L m env elt x scope cl (fun _ => True) (fun n v => ∃ t, v = Value.int n t) news)
    (h : ∀ g ys, IntsAre ys ((runs 1 40).filter (alike y)) → Fin { s₁ with heap := g } ys news) : CompSrcT prog w A h₀ L m env ct elt x scope cl Fin (.ref r) s₁ :=
  src_filt (n := 40) hh F N hr (by decide) (by decide) (by decide) (fun _ _ => trivial) T V h
end
end
section
theorem l03_own (y : Int) : [alm1 y, dim y 2].getD (Int.toNat 1) 0 = dby y + dbm y 3 + 1 - (dby y + dbm y 2 + 1) := by
  show dim y 2 = _
  simp [dim, dimT, dbm, dbmT]
  omega
section
variable {prog : Program} {w : World} {A : Around} {E : Value → Shared → Prop} {s : Shared} {h₀ : Heap} {L l : Addr} {m : Str → Option Value} {news : List (Addr × Obj)} {vs : List Value} {ns : List Int}
theorem ne_known {a b : Int} {t u : Tok} {Q : Value → Shared → Prop} (e : a = b) (h : Q (.bool false) s) : wpAny (model prog w) A (compareOp .NotEq (.int a t) (.int b u)) Q E s := by
  refine ne_int ?_
  rw [show (a != b) = false by simp [e]]
  exact h
theorem min_to {X : Int} {Q : Value → Shared → Prop} (F : Fr h₀ L s.heap m) (N : News h₀ L s.heap news) (hl : s.heap.IsList l vs.toArray) (hi : IntsAre vs ns) (hh : A.handled = none) (hx : X ∈ ns) (hm : ∀ a ∈ ns, X ≤ a)
    (h : ∀ h' (t : Tok) tk, Fr h₀ L h' m → News h₀ L h' news → Q (.int X t) { s with heap := h', toks := tk }) : wpAny (model prog w) A (call (.builtin "min") [.ref l]) Q E s := by
  refine kso_min F N hl hi (List.length_pos_of_mem hx) hh fun h' M t tk F' N' a b => ?_
  have : M = X := Int.le_antisymm (b X hx) (hm M a)
  rw [this]
  exact h h' t tk F' N'
end
section
open LCg LCt
variable {prog : Program} {w : World} {A : Around} {E : Value → Shared → Prop} {s₁ : Shared} {h₀ : Heap} {L : Addr} {m : Str → Option Value} {env : Env}
def dueL (y : Int) : List Int := (([1, 2, 3, 5] : List Int).filter fun k => decide (y.fmod 400 < 100 * k)).map fun k => 100 * k - y.fmod 400
theorem fm400 (y : Int) : 0 ≤ y.fmod 400 ∧ y.fmod 400 < 400 := ⟨Int.fmod_nonneg_of_pos y (by decide), Int.fmod_lt_of_pos y (by decide)⟩
theorem dueL_min (y : Int) : ahead (y.fmod 400) ∈ dueL y ∧ ∀ a ∈ dueL y, ahead (y.fmod 400) ≤ a := by
  obtain ⟨h0, h1⟩ := fm400 y
  unfold dueL ahead
  generalize y.fmod 400 = r at *
  by_cases a : r < 100 <;> by_cases b : r < 200 <;> by_cases c : r < 300 <;> first | (exfalso; omega) | (simp [List.filter_cons, a, b, c, show r < 500 by omega]; try omega)
theorem ahead_bds (y : Int) : 1 ≤ ahead (y.fmod 400) := by
  obtain ⟨h0, h1⟩ := fm400 y
  unfold ahead
  repeat' split
  all_goals omega
theorem yr_ahead {y : Int} (_h : Yr y) : 1 ≤ ahead (y.fmod 400) := ahead_bds y
theorem src_due {ct elt : Expr} {x : Str} {scope : Scope} {cl : List (Str × Addr)} {Q : Value → Shared → Prop} {ax : Addr} {y : Int} {t1 t2 t3 t4 : Tok} {n : Nat} {news : List (Addr × Obj)}
    (_hY : Yr y) (F : Fr h₀ L s₁.heap m) (Nw : News h₀ L s₁.heap news) (hm : (ax, ({ cls := .type "tuple", data := .seq #[.int 1 t1, .int 2 t2, .int 3 t3, .int 5 t4] n } : Obj)) ∈ news)
    (T : TestIs prog w A h₀ L m env ct x scope cl (fun _ => True) (fun k => decide (y.fmod 400 < 100 * k)) news)
    (V : EltIs prog w A h₀ L m env elt x scope cl (fun _ => True) (fun k v => ∃ t, v = Value.int (100 * k - y.fmod 400) t) news)
    (h : ∀ D h' tk ys, IntsAre ys (dueL y) → Fr h₀ L h' m → News h₀ L h' ((D, lst ys) :: news) → Off1 D news → Q (.ref D) { s₁ with heap := h', toks := tk }) :
    SrcTup h₀ L m (fun its news s₁ => ∀ s₂ : Shared, (∃ h, s₂ = { s₁ with heap := h }) → ∀ S : List (Addr × Obj) → Prop, S news → CompRestT prog w A h₀ L m env ct elt x scope cl s₂ S (fun i v => its[i]? = some v) (FinE h₀ L m s₂ Q) its.size 0 [] news) (.ref ax) s₁ := by
  refine ⟨ax, _, news, rfl, F, Nw, ⟨_, hm, rfl, _, rfl⟩, Nat.le_of_ble_eq_true rfl, ?_⟩
  rintro s₂ ⟨h', rfl⟩ S hS
  refine filt_rest (Pn := fun _ => True) (p := fun k => decide (y.fmod 400 < 100 * k)) (R := fun k v => ∃ t, v = Value.int (100 * k - y.fmod 400) t) (g := fun i => ([1, 2, 3, 5] : List Int).getD i 0) (Acc := fun i ys => IntsAre ys (((([1, 2, 3, 5] : List Int).take i).filter fun k => decide (y.fmod 400 < 100 * k)).map fun k => 100 * k - y.fmod 400)) (n := 4) T V ?_ hS ?_ ?_ ?_ _ _ _ rfl .nil
  · intro i v hi hv
    match i, hi with
    | 0, _ => exact ⟨t1, by simpa using hv.symm, trivial⟩
    | 1, _ => exact ⟨t2, by simpa using hv.symm, trivial⟩
    | 2, _ => exact ⟨t3, by simpa using hv.symm, trivial⟩
    | 3, _ => exact ⟨t4, by simpa using hv.symm, trivial⟩
  · intro i ys hi ha hb
    have e : ([1, 2, 3, 5] : List Int).take (i + 1) = ([1, 2, 3, 5] : List Int).take i ++ [([1, 2, 3, 5] : List Int).getD i 0] := by
      match i, hi with
      | 0, _ => rfl
      | 1, _ => rfl
      | 2, _ => rfl
      | 3, _ => rfl
    rw [e, List.filter_append]
    simp only [List.filter_cons, hb, Bool.false_eq_true, if_false, List.filter_nil, List.append_nil]
    exact ha
  · rintro i ys v hi ha hb ⟨t, rfl⟩
    have e : ([1, 2, 3, 5] : List Int).take (i + 1) = ([1, 2, 3, 5] : List Int).take i ++ [([1, 2, 3, 5] : List Int).getD i 0] := by
      match i, hi with
      | 0, _ => rfl
      | 1, _ => rfl
      | 2, _ => rfl
      | 3, _ => rfl
    rw [e, List.filter_append, List.map_append]
    simp only [List.filter_cons, hb, if_true, List.filter_nil, List.map_cons, List.map_nil]
    exact ints_snoc ha
  · intro ys hy D h'' tk F' N' o
    exact h D h'' tk ys hy F' N' o
end
theorem w_due1 {y : Int} (h : ahead (y.fmod 400) ≤ 12) : ([6, 12, 12, 12, 6, 6, 6, 12, 12, 12, 6, 40] : List Int).getD (ahead (y.fmod 400) - 1).toNat 0 = due y := by
  have e : y.fmod 400 = y % 400 := Int.fmod_eq_emod_of_nonneg _ (by decide)
  have h1 := ahead_bds y
  unfold due
  rw [← e, if_pos h]
  generalize ahead (y.fmod 400) = a at *
  rcases m12 h1 h with c | c | c | c | c | c | c | c | c | c | c | c <;> subst c <;> rfl
theorem dim29 {y : Int} : dim y 2 = 29 ↔ leap y = true := by
  unfold dim dimT lpd
  by_cases h : leap y = true <;> simp [h]
theorem w_due2 {y : Int} (h : ¬ ahead (y.fmod 400) ≤ 12) (h2 : dim y 2 = 29) (h3 : ahead (y.fmod 400) ≤ 28) : 40 = due y := by
  have e : y.fmod 400 = y % 400 := Int.fmod_eq_emod_of_nonneg _ (by decide)
  unfold due
  rw [← e, if_neg h, if_pos (dim29.mp h2), if_pos h3]
theorem w_due3 {y : Int} (h : ¬ ahead (y.fmod 400) ≤ 12) (h2 : dim y 2 = 29) (h3 : ¬ ahead (y.fmod 400) ≤ 28) : 28 = due y := by
  have e : y.fmod 400 = y % 400 := Int.fmod_eq_emod_of_nonneg _ (by decide)
  unfold due
  rw [← e, if_neg h, if_pos (dim29.mp h2), if_neg h3]
theorem w_due4 {y : Int} (h : ¬ ahead (y.fmod 400) ≤ 12) (h2 : ¬ dim y 2 = 29) : ([6, 6, 11, 11] : List Int).getD (y.fmod 4).toNat 0 = due y := by
  have e : y.fmod 400 = y % 400 := Int.fmod_eq_emod_of_nonneg _ (by decide)
  have e' : y.fmod 4 = y % 4 := Int.fmod_eq_emod_of_nonneg _ (by decide)
  unfold due
  rw [← e, if_neg h, if_neg (fun c => h2 (dim29.mpr c)), e']
  have : y % 4 = 0 ∨ y % 4 = 1 ∨ y % 4 = 2 ∨ y % 4 = 3 := by omega
  rcases this with c | c | c | c <;> rw [c] <;> rfl
theorem news_tail {h₀ h : Heap} {L : Addr} {x : Addr × Obj} {news : List (Addr × Obj)} (N : News h₀ L h (x :: news)) : News h₀ L h news := fun p hp => N p (List.mem_cons_of_mem _ hp)
theorem alike_eq (y k : Int) : decide ([alm1 (y + k), dim (y + k) 2] = [alm1 y, dim y 2]) = alike y k := by
  unfold alike
  simp [Bool.decide_and]
theorem found_runs (y : Int) : List.take 1 (List.filter (alike y) (runs 1 40)) = [due y] := found_due y
end
section
open_top hd03 for PySem.Challenge.rw_dn0120_03
end
section
local macro_rules | `(tactic| walk_at "mine pre") => `(tactic| first | with_reducible assumption | omega | l_fact)
local macro_rules | `(tactic| walk_at "mine twelve") => `(tactic| (intro k h1 h2; rcases m12 h1 h2 with h | h | h | h | h | h | h | h | h | h | h | h <;> (subst h; exact ⟨_, rfl⟩)))
local macro_rules | `(tactic| walk_at "mine lt") => `(tactic| first | with_reducible assumption | exact (by with_reducible assumption : _ ∧ AllLt _ _).2 | exact (by with_reducible assumption : _ ∧ _ ∧ AllLt _ _).2.2 | exact (by with_reducible assumption : _ ∧ _ ∧ _ ∧ AllLt _ _).2.2.2 | exact (by with_reducible assumption : _ ∧ _ ∧ _ ∧ _ ∧ AllLt _ _).2.2.2.2)
local macro_rules | `(tactic| walk_at "eval Call") => `(tactic| (k_here; (with_reducible show wpAny _ _ (eval (PySem.Expr.Call (PySem.Expr.Name (Str.ofString "_is_leap") _) _ [] _) _) _ _ _); k_dflt (refine Call_ ?_)))
local macro_rules | `(tactic| walk_at "eval Call") => `(tactic| (k_here; (with_reducible show wpAny _ _ (eval (PySem.Expr.Call (PySem.Expr.Name (Str.ofString "_days_before_year") _) _ [] _) _) _ _ _); k_dflt (refine Call_ ?_)))
local macro_rules | `(tactic| walk_at "eval Call") => `(tactic| (k_here; (with_reducible show wpAny _ _ (eval (PySem.Expr.Call (PySem.Expr.Name (Str.ofString "_days_in_month") _) _ [] _) _) _ _ _); k_dflt (refine Call_ ?_)))
local macro_rules | `(tactic| walk_at "eval Call") => `(tactic| (k_here; (with_reducible show wpAny _ _ (eval (PySem.Expr.Call (PySem.Expr.Name (Str.ofString "_days_before_month") _) _ [] _) _) _ _ _); k_dflt (refine Call_ ?_)))
local macro_rules | `(tactic| walk_at "eval Call") => `(tactic| (k_here; (with_reducible show wpAny _ _ (eval (PySem.Expr.Call (PySem.Expr.Name (Str.ofString "_ymd2ord") _) _ [] _) _) _ _ _); k_dflt (refine Call_ ?_)))
local macro_rules | `(tactic| walk_at "eval Call") => `(tactic| (k_here; (with_reducible show wpAny _ _ (eval (PySem.Expr.Call (PySem.Expr.Name (Str.ofString "_law_length") _) _ [] _) _) _ _ _); k_dflt (refine Call_ ?_)))
local macro_rules | `(tactic| walk_at "eval Call") => `(tactic| (k_here; (with_reducible show wpAny _ _ (eval (PySem.Expr.Call (PySem.Expr.Name (Str.ofString "_law_almanac") _) _ [] _) _) _ _ _); k_dflt (refine Call_ ?_)))
local macro_rules | `(tactic| walk_at "eval Call") => `(tactic| (k_here; (with_reducible show wpAny _ _ (eval (PySem.Expr.Call (PySem.Expr.Name (Str.ofString "_law_due") _) _ [] _) _) _ _ _); k_dflt (refine Call_ ?_)))
local macro_rules | `(tactic| walk_at "subscriptTail Name Name ref int") => `(tactic| (k_here; (with_reducible show wpAny _ _ (subscriptTail _ _ (Value.ref 15) (Value.int _ _)) _ _ _); k_dflt (refine' tab_item dimT ?F ?X ?o ?h1 ?h2 ?x ?s ?_; (case F => k_asm); (case X => k_asm); (case o => k_is); (case h1 => walk_at "mine pre"); (case h2 => walk_at "mine pre"); (case x => walk_at "mine twelve"); (case s => with_unfolding_all rfl); k_whole); intro t9))
local macro_rules | `(tactic| walk_at "subscriptTail Name Name ref int") => `(tactic| (k_here; (with_reducible show wpAny _ _ (subscriptTail _ _ (Value.ref 16) (Value.int _ _)) _ _ _); k_dflt (refine' tab_item dbmT ?F ?X ?o ?h1 ?h2 ?x ?s ?_; (case F => k_asm); (case X => k_asm); (case o => k_is); (case h1 => walk_at "mine pre"); (case h2 => walk_at "mine pre"); (case x => walk_at "mine twelve"); (case s => with_unfolding_all rfl); k_whole); intro t9))
theorem c_leap {w : World} {s₀ : Shared} {mg mb : Str → Option Value} {dp un : Nat} {gd : Option (List Code)} {cn : Str} {cs : Scope} {a : Addr} {ccd : Value} {cl : List (Str × Addr)} {outer : List Env} {A₀ : Around} {base h₀ : Heap} {L : Addr} {m : Str → Option Value} {news : List (Addr × Obj)} {s : Shared} {Q E : Value → Shared → Prop} {y : Int} {ty : Tok}
    (kB : Below A₀ base outer h₀) (kF : Fr h₀ L s.heap m) (kK : (hd03.heap_39 w.params).In h₀) (kN : News h₀ L s.heap news) (kT : Top hd03.view_39 (looseW hd03.view_39 [Str.ofString "_DAYS_IN_MONTH", Str.ofString "_DAYS_BEFORE_MONTH"]) (ExcName.means s₀.heap) mg mb h₀) (kk : cs.kind = .function) (kd : dp + 1 < recursionLimit) (ku : un + 8 < cLine) 
    (ret : ∀ (t : Tok) (h' : Heap) (tk' : Nat), Fr h₀ L h' m → News h₀ L h' news → Q (.bool (leap y)) { s with heap := h', toks := tk' }) :
    wpAny (model Challenge.rw_dn0120_03.row.prog w) (ktrTop dp un gd cn cs L a ccd cl outer) (call (.ref 28) [Value.int y ty]) Q E s := by
  w_top off
  k_with_none
  w_strict (
    revert kK
    k_fill
    intro kK
    refine wpAny_call ?_
    k_dflt cell_enter
    k_steps
    k_with "tree" => (simp only [leap])
    all_goals cb_end ret)
local macro_rules | `(tactic| walk_at "call ref") => `(tactic| (k_here; (with_reducible show wpAny _ _ (PySem.call (Value.ref 28) _) _ _ _); k_dflt (refine' c_leap ?k1 ?k2 ?k3 ?k4 ?k5 ?kK ?kd ?ku ?_; (case k1 => k_asm); (case k2 => k_asm); (case k3 => k_asm); (case k4 => k_asm); (case k5 => k_asm); (case kK => first | exact rfl | assumption); (case kd => ktr_room); (case ku => ktr_units); k_whole); intro t9 h9 tk9 F9 N9; (try dsimp only); (try k_fold)))
theorem c_dby {w : World} {s₀ : Shared} {mg mb : Str → Option Value} {dp un : Nat} {gd : Option (List Code)} {cn : Str} {cs : Scope} {a : Addr} {ccd : Value} {cl : List (Str × Addr)} {outer : List Env} {A₀ : Around} {base h₀ : Heap} {L : Addr} {m : Str → Option Value} {news : List (Addr × Obj)} {s : Shared} {Q E : Value → Shared → Prop} {y : Int} {ty : Tok}
    (kB : Below A₀ base outer h₀) (kF : Fr h₀ L s.heap m) (kK : (hd03.heap_39 w.params).In h₀) (kN : News h₀ L s.heap news) (kT : Top hd03.view_39 (looseW hd03.view_39 [Str.ofString "_DAYS_IN_MONTH", Str.ofString "_DAYS_BEFORE_MONTH"]) (ExcName.means s₀.heap) mg mb h₀) (kk : cs.kind = .function) (kd : dp + 1 < recursionLimit) (ku : un + 8 < cLine) 
    (ret : ∀ (t : Tok) (h' : Heap) (tk' : Nat), Fr h₀ L h' m → News h₀ L h' news → Q (.int (dby y) t) { s with heap := h', toks := tk' }) :
    wpAny (model Challenge.rw_dn0120_03.row.prog w) (ktrTop dp un gd cn cs L a ccd cl outer) (call (.ref 35) [Value.int y ty]) Q E s := by
  w_top off
  k_with_none
  w_strict (
    revert kK
    k_fill
    intro kK
    refine wpAny_call ?_
    k_dflt cell_enter
    k_steps
    k_with "tree" => (simp only [dby, Int.fdiv_eq_ediv_of_nonneg _ (show (0 : Int) ≤ 4 by decide), Int.fdiv_eq_ediv_of_nonneg _ (show (0 : Int) ≤ 100 by decide), Int.fdiv_eq_ediv_of_nonneg _ (show (0 : Int) ≤ 400 by decide)])
    all_goals cb_end ret)
local macro_rules | `(tactic| walk_at "call ref") => `(tactic| (k_here; (with_reducible show wpAny _ _ (PySem.call (Value.ref 35) _) _ _ _); k_dflt (refine' c_dby ?k1 ?k2 ?k3 ?k4 ?k5 ?kK ?kd ?ku ?_; (case k1 => k_asm); (case k2 => k_asm); (case k3 => k_asm); (case k4 => k_asm); (case k5 => k_asm); (case kK => first | exact rfl | assumption); (case kd => ktr_room); (case ku => ktr_units); k_whole); intro t9 h9 tk9 F9 N9; (try dsimp only); (try k_fold)))
theorem c_dim {w : World} {s₀ : Shared} {mg mb : Str → Option Value} {dp un : Nat} {gd : Option (List Code)} {cn : Str} {cs : Scope} {a : Addr} {ccd : Value} {cl : List (Str × Addr)} {outer : List Env} {A₀ : Around} {base h₀ : Heap} {L : Addr} {m : Str → Option Value} {news : List (Addr × Obj)} {s : Shared} {Q E : Value → Shared → Prop} {y : Int} {ty : Tok} {mo : Int} {tmo : Tok}
    (kB : Below A₀ base outer h₀) (kF : Fr h₀ L s.heap m) (kK : (hd03.heap_39 w.params).In h₀) (kN : News h₀ L s.heap news) (kT : Top hd03.view_39 (looseW hd03.view_39 [Str.ofString "_DAYS_IN_MONTH", Str.ofString "_DAYS_BEFORE_MONTH"]) (ExcName.means s₀.heap) mg mb h₀) (kk : cs.kind = .function) (kd : dp + 3 < recursionLimit) (ku : un + 24 < cLine) (h1 : 1 ≤ mo) (h2 : mo ≤ 12)
    (ret : ∀ (t : Tok) (h' : Heap) (tk' : Nat), Fr h₀ L h' m → News h₀ L h' news → Q (.int (dim y mo) t) { s with heap := h', toks := tk' }) :
    wpAny (model Challenge.rw_dn0120_03.row.prog w) (ktrTop dp un gd cn cs L a ccd cl outer) (call (.ref 42) [Value.int y ty, Value.int mo tmo]) Q E s := by
  w_top off
  k_with_none
  w_strict (
    revert kK
    k_fill
    intro kK
    refine wpAny_call ?_
    k_dflt cell_enter
    k_steps
    k_with "tree" => (simp only [dim, dimT, lpd])
    all_goals cb_end ret)
local macro_rules | `(tactic| walk_at "call ref") => `(tactic| (k_here; (with_reducible show wpAny _ _ (PySem.call (Value.ref 42) _) _ _ _); k_dflt (refine' c_dim ?k1 ?k2 ?k3 ?k4 ?k5 ?kK ?kd ?ku ?kp0 ?kp1 ?_; (case k1 => k_asm); (case k2 => k_asm); (case k3 => k_asm); (case k4 => k_asm); (case k5 => k_asm); (case kK => first | exact rfl | assumption); (case kd => ktr_room); (case ku => ktr_units); (case kp0 => walk_at "mine pre"); (case kp1 => walk_at "mine pre"); k_whole); intro t9 h9 tk9 F9 N9; (try dsimp only); (try k_fold)))
theorem c_dbm {w : World} {s₀ : Shared} {mg mb : Str → Option Value} {dp un : Nat} {gd : Option (List Code)} {cn : Str} {cs : Scope} {a : Addr} {ccd : Value} {cl : List (Str × Addr)} {outer : List Env} {A₀ : Around} {base h₀ : Heap} {L : Addr} {m : Str → Option Value} {news : List (Addr × Obj)} {s : Shared} {Q E : Value → Shared → Prop} {y : Int} {ty : Tok} {mo : Int} {tmo : Tok}
    (kB : Below A₀ base outer h₀) (kF : Fr h₀ L s.heap m) (kK : (hd03.heap_39 w.params).In h₀) (kN : News h₀ L s.heap news) (kT : Top hd03.view_39 (looseW hd03.view_39 [Str.ofString "_DAYS_IN_MONTH", Str.ofString "_DAYS_BEFORE_MONTH"]) (ExcName.means s₀.heap) mg mb h₀) (kk : cs.kind = .function) (kd : dp + 3 < recursionLimit) (ku : un + 24 < cLine) (h1 : 1 ≤ mo) (h2 : mo ≤ 12)
    (ret : ∀ (t : Tok) (h' : Heap) (tk' : Nat), Fr h₀ L h' m → News h₀ L h' news → Q (.int (dbm y mo) t) { s with heap := h', toks := tk' }) :
    wpAny (model Challenge.rw_dn0120_03.row.prog w) (ktrTop dp un gd cn cs L a ccd cl outer) (call (.ref 49) [Value.int y ty, Value.int mo tmo]) Q E s := by
  w_top off
  k_with_none
  w_strict (
    revert kK
    k_fill
    intro kK
    refine wpAny_call ?_
    k_dflt cell_enter
    k_steps
    k_with "tree" => (simp only [dbm, lpd])
    all_goals cb_end ret)
local macro_rules | `(tactic| walk_at "call ref") => `(tactic| (k_here; (with_reducible show wpAny _ _ (PySem.call (Value.ref 49) _) _ _ _); k_dflt (refine' c_dbm ?k1 ?k2 ?k3 ?k4 ?k5 ?kK ?kd ?ku ?kp0 ?kp1 ?_; (case k1 => k_asm); (case k2 => k_asm); (case k3 => k_asm); (case k4 => k_asm); (case k5 => k_asm); (case kK => first | exact rfl | assumption); (case kd => ktr_room); (case ku => ktr_units); (case kp0 => walk_at "mine pre"); (case kp1 => walk_at "mine pre"); k_whole); intro t9 h9 tk9 F9 N9; (try dsimp only); (try k_fold)))
theorem c_ord {w : World} {s₀ : Shared} {mg mb : Str → Option Value} {dp un : Nat} {gd : Option (List Code)} {cn : Str} {cs : Scope} {a : Addr} {ccd : Value} {cl : List (Str × Addr)} {outer : List Env} {A₀ : Around} {base h₀ : Heap} {L : Addr} {m : Str → Option Value} {news : List (Addr × Obj)} {s : Shared} {Q E : Value → Shared → Prop} {y : Int} {ty : Tok} {mo : Int} {tmo : Tok} {d : Int} {td : Tok}
    (kB : Below A₀ base outer h₀) (kF : Fr h₀ L s.heap m) (kK : (hd03.heap_39 w.params).In h₀) (kN : News h₀ L s.heap news) (kT : Top hd03.view_39 (looseW hd03.view_39 [Str.ofString "_DAYS_IN_MONTH", Str.ofString "_DAYS_BEFORE_MONTH"]) (ExcName.means s₀.heap) mg mb h₀) (kk : cs.kind = .function) (kd : dp + 5 < recursionLimit) (ku : un + 40 < cLine) (h1 : 1 ≤ mo) (h2 : mo ≤ 12) (h3 : 1 ≤ d) (h4 : d ≤ dim y mo)
    (ret : ∀ (t : Tok) (h' : Heap) (tk' : Nat), Valid y mo d → Fr h₀ L h' m → News h₀ L h' news → Q (.int (dby y + dbm y mo + d) t) { s with heap := h', toks := tk' }) :
    wpAny (model Challenge.rw_dn0120_03.row.prog w) (ktrTop dp un gd cn cs L a ccd cl outer) (call (.ref 56) [Value.int y ty, Value.int mo tmo, Value.int d td]) Q E s := by
  w_top off
  k_with_none
  w_strict (
    revert kK
    k_fill
    intro kK
    replace ret := fun t h' tk' => ret t h' tk' ⟨h1, h2, h3, h4⟩
    refine wpAny_call ?_
    k_dflt cell_enter
    k_steps
    all_goals cb_end ret)
local macro_rules | `(tactic| walk_at "call ref") => `(tactic| (k_here; (with_reducible show wpAny _ _ (PySem.call (Value.ref 56) _) _ _ _); k_dflt (refine' c_ord ?k1 ?k2 ?k3 ?k4 ?k5 ?kK ?kd ?ku ?kp0 ?kp1 ?kp2 ?kp3 ?_; (case k1 => k_asm); (case k2 => k_asm); (case k3 => k_asm); (case k4 => k_asm); (case k5 => k_asm); (case kK => first | exact rfl | assumption); (case kd => ktr_room); (case ku => ktr_units); (case kp0 => walk_at "mine pre"); (case kp1 => walk_at "mine pre"); (case kp2 => walk_at "mine pre"); (case kp3 => walk_at "mine pre"); k_whole); intro t9 h9 tk9 hv9 F9 N9; (try dsimp only); (try k_fold)))
end
section
local macro_rules | `(tactic| walk_at "mine pre") => `(tactic| first | with_reducible assumption | omega | l_fact)
local macro_rules | `(tactic| walk_at "mine twelve") => `(tactic| (intro k h1 h2; rcases m12 h1 h2 with h | h | h | h | h | h | h | h | h | h | h | h <;> (subst h; exact ⟨_, rfl⟩)))
local macro_rules | `(tactic| walk_at "mine lt") => `(tactic| first | with_reducible assumption | exact (by with_reducible assumption : _ ∧ AllLt _ _).2 | exact (by with_reducible assumption : _ ∧ _ ∧ AllLt _ _).2.2 | exact (by with_reducible assumption : _ ∧ _ ∧ _ ∧ AllLt _ _).2.2.2 | exact (by with_reducible assumption : _ ∧ _ ∧ _ ∧ _ ∧ AllLt _ _).2.2.2.2)
local macro_rules | `(tactic| walk_at "eval Call") => `(tactic| (k_here; (with_reducible show wpAny _ _ (eval (PySem.Expr.Call (PySem.Expr.Name (Str.ofString "_is_leap") _) _ [] _) _) _ _ _); k_dflt (refine Call_ ?_)))
local macro_rules | `(tactic| walk_at "eval Call") => `(tactic| (k_here; (with_reducible show wpAny _ _ (eval (PySem.Expr.Call (PySem.Expr.Name (Str.ofString "_days_before_year") _) _ [] _) _) _ _ _); k_dflt (refine Call_ ?_)))
local macro_rules | `(tactic| walk_at "eval Call") => `(tactic| (k_here; (with_reducible show wpAny _ _ (eval (PySem.Expr.Call (PySem.Expr.Name (Str.ofString "_days_in_month") _) _ [] _) _) _ _ _); k_dflt (refine Call_ ?_)))
local macro_rules | `(tactic| walk_at "eval Call") => `(tactic| (k_here; (with_reducible show wpAny _ _ (eval (PySem.Expr.Call (PySem.Expr.Name (Str.ofString "_days_before_month") _) _ [] _) _) _ _ _); k_dflt (refine Call_ ?_)))
local macro_rules | `(tactic| walk_at "eval Call") => `(tactic| (k_here; (with_reducible show wpAny _ _ (eval (PySem.Expr.Call (PySem.Expr.Name (Str.ofString "_ymd2ord") _) _ [] _) _) _ _ _); k_dflt (refine Call_ ?_)))
local macro_rules | `(tactic| walk_at "eval Call") => `(tactic| (k_here; (with_reducible show wpAny _ _ (eval (PySem.Expr.Call (PySem.Expr.Name (Str.ofString "_law_length") _) _ [] _) _) _ _ _); k_dflt (refine Call_ ?_)))
local macro_rules | `(tactic| walk_at "eval Call") => `(tactic| (k_here; (with_reducible show wpAny _ _ (eval (PySem.Expr.Call (PySem.Expr.Name (Str.ofString "_law_almanac") _) _ [] _) _) _ _ _); k_dflt (refine Call_ ?_)))
local macro_rules | `(tactic| walk_at "eval Call") => `(tactic| (k_here; (with_reducible show wpAny _ _ (eval (PySem.Expr.Call (PySem.Expr.Name (Str.ofString "_law_due") _) _ [] _) _) _ _ _); k_dflt (refine Call_ ?_)))
local macro_rules | `(tactic| walk_at "subscriptTail Name Name ref int") => `(tactic| (k_here; (with_reducible show wpAny _ _ (subscriptTail _ _ (Value.ref 15) (Value.int _ _)) _ _ _); k_dflt (refine' tab_item dimT ?F ?X ?o ?h1 ?h2 ?x ?s ?_; (case F => k_asm); (case X => k_asm); (case o => k_is); (case h1 => walk_at "mine pre"); (case h2 => walk_at "mine pre"); (case x => walk_at "mine twelve"); (case s => with_unfolding_all rfl); k_whole); intro t9))
local macro_rules | `(tactic| walk_at "subscriptTail Name Name ref int") => `(tactic| (k_here; (with_reducible show wpAny _ _ (subscriptTail _ _ (Value.ref 16) (Value.int _ _)) _ _ _); k_dflt (refine' tab_item dbmT ?F ?X ?o ?h1 ?h2 ?x ?s ?_; (case F => k_asm); (case X => k_asm); (case o => k_is); (case h1 => walk_at "mine pre"); (case h2 => walk_at "mine pre"); (case x => walk_at "mine twelve"); (case s => with_unfolding_all rfl); k_whole); intro t9))
local macro_rules | `(tactic| walk_at "call ref") => `(tactic| (k_here; (with_reducible show wpAny _ _ (PySem.call (Value.ref 28) _) _ _ _); k_dflt (refine' c_leap ?k1 ?k2 ?k3 ?k4 ?k5 ?kK ?kd ?ku ?_; (case k1 => k_asm); (case k2 => k_asm); (case k3 => k_asm); (case k4 => k_asm); (case k5 => k_asm); (case kK => first | exact rfl | assumption); (case kd => ktr_room); (case ku => ktr_units); k_whole); intro t9 h9 tk9 F9 N9; (try dsimp only); (try k_fold)))
local macro_rules | `(tactic| walk_at "call ref") => `(tactic| (k_here; (with_reducible show wpAny _ _ (PySem.call (Value.ref 35) _) _ _ _); k_dflt (refine' c_dby ?k1 ?k2 ?k3 ?k4 ?k5 ?kK ?kd ?ku ?_; (case k1 => k_asm); (case k2 => k_asm); (case k3 => k_asm); (case k4 => k_asm); (case k5 => k_asm); (case kK => first | exact rfl | assumption); (case kd => ktr_room); (case ku => ktr_units); k_whole); intro t9 h9 tk9 F9 N9; (try dsimp only); (try k_fold)))
local macro_rules | `(tactic| walk_at "call ref") => `(tactic| (k_here; (with_reducible show wpAny _ _ (PySem.call (Value.ref 42) _) _ _ _); k_dflt (refine' c_dim ?k1 ?k2 ?k3 ?k4 ?k5 ?kK ?kd ?ku ?kp0 ?kp1 ?_; (case k1 => k_asm); (case k2 => k_asm); (case k3 => k_asm); (case k4 => k_asm); (case k5 => k_asm); (case kK => first | exact rfl | assumption); (case kd => ktr_room); (case ku => ktr_units); (case kp0 => walk_at "mine pre"); (case kp1 => walk_at "mine pre"); k_whole); intro t9 h9 tk9 F9 N9; (try dsimp only); (try k_fold)))
local macro_rules | `(tactic| walk_at "call ref") => `(tactic| (k_here; (with_reducible show wpAny _ _ (PySem.call (Value.ref 49) _) _ _ _); k_dflt (refine' c_dbm ?k1 ?k2 ?k3 ?k4 ?k5 ?kK ?kd ?ku ?kp0 ?kp1 ?_; (case k1 => k_asm); (case k2 => k_asm); (case k3 => k_asm); (case k4 => k_asm); (case k5 => k_asm); (case kK => first | exact rfl | assumption); (case kd => ktr_room); (case ku => ktr_units); (case kp0 => walk_at "mine pre"); (case kp1 => walk_at "mine pre"); k_whole); intro t9 h9 tk9 F9 N9; (try dsimp only); (try k_fold)))
local macro_rules | `(tactic| walk_at "call ref") => `(tactic| (k_here; (with_reducible show wpAny _ _ (PySem.call (Value.ref 56) _) _ _ _); k_dflt (refine' c_ord ?k1 ?k2 ?k3 ?k4 ?k5 ?kK ?kd ?ku ?kp0 ?kp1 ?kp2 ?kp3 ?_; (case k1 => k_asm); (case k2 => k_asm); (case k3 => k_asm); (case k4 => k_asm); (case k5 => k_asm); (case kK => first | exact rfl | assumption); (case kd => ktr_room); (case ku => ktr_units); (case kp0 => walk_at "mine pre"); (case kp1 => walk_at "mine pre"); (case kp2 => walk_at "mine pre"); (case kp3 => walk_at "mine pre"); k_whole); intro t9 h9 tk9 hv9 F9 N9; (try dsimp only); (try k_fold)))
local macro_rules | `(tactic| walk_at "mine pre") => `(tactic| first | with_reducible assumption | omega | with_reducible exact dim_one (by decide) (by decide) | l_fact)
theorem c_len {w : World} {s₀ : Shared} {mg mb : Str → Option Value} {dp un : Nat} {gd : Option (List Code)} {cn : Str} {cs : Scope} {a : Addr} {ccd : Value} {cl : List (Str × Addr)} {outer : List Env} {A₀ : Around} {base h₀ : Heap} {L : Addr} {m : Str → Option Value} {news : List (Addr × Obj)} {s : Shared} {Q E : Value → Shared → Prop} {y : Int} {ty : Tok} {mo : Int} {tmo : Tok}
    (kB : Below A₀ base outer h₀) (kF : Fr h₀ L s.heap m) (kK : (hd03.heap_39 w.params).In h₀) (kN : News h₀ L s.heap news) (kT : Top hd03.view_39 (looseW hd03.view_39 [Str.ofString "_DAYS_IN_MONTH", Str.ofString "_DAYS_BEFORE_MONTH"]) (ExcName.means s₀.heap) mg mb h₀) (kk : cs.kind = .function) (kd : dp + 1 < recursionLimit) (ku : un + 8 < cLine) (h1 : 1 ≤ mo) (h2 : mo ≤ 12)
    (ret : ∀ (t : Tok) (h' : Heap) (tk' : Nat), Fr h₀ L h' m → News h₀ L h' news → Q (.int (dim y mo) t) { s with heap := h', toks := tk' }) :
    wpAny (model Challenge.rw_dn0120_03.row.prog w) (ktrTop dp un gd cn cs L a ccd cl outer) (call (.ref 63) [Value.int y ty, Value.int mo tmo]) Q E s := by
  w_top off
  k_with_none
  w_strict (
    revert kK
    k_fill
    intro kK
    refine wpAny_call ?_
    k_dflt cell_enter
    k_steps
    k_with "tree" => (with_reducible first | exact w_len1 (by assumption) (by assumption) (by assumption) | exact w_len2 (by assumption) (by assumption) (by assumption) | exact w_len3 (by assumption) (by assumption) | exact w_len4 (by assumption) (by assumption) (by assumption))
    all_goals cb_end ret)
local macro_rules | `(tactic| walk_at "call ref") => `(tactic| (k_here; (with_reducible show wpAny _ _ (PySem.call (Value.ref 63) _) _ _ _); k_dflt (refine' c_len ?k1 ?k2 ?k3 ?k4 ?k5 ?kK ?kd ?ku ?kp0 ?kp1 ?_; (case k1 => k_asm); (case k2 => k_asm); (case k3 => k_asm); (case k4 => k_asm); (case k5 => k_asm); (case kK => first | exact rfl | assumption); (case kd => ktr_room); (case ku => ktr_units); (case kp0 => walk_at "mine pre"); (case kp1 => walk_at "mine pre"); k_whole); intro t9 h9 tk9 F9 N9; (try dsimp only); (try k_fold)))
theorem c_alm {w : World} {s₀ : Shared} {mg mb : Str → Option Value} {dp un : Nat} {gd : Option (List Code)} {cn : Str} {cs : Scope} {a : Addr} {ccd : Value} {cl : List (Str × Addr)} {outer : List Env} {A₀ : Around} {base h₀ : Heap} {L : Addr} {m : Str → Option Value} {news : List (Addr × Obj)} {s : Shared} {Q E : Value → Shared → Prop} {y : Int} {ty : Tok}
    (kB : Below A₀ base outer h₀) (kF : Fr h₀ L s.heap m) (kK : (hd03.heap_39 w.params).In h₀) (kN : News h₀ L s.heap news) (kT : Top hd03.view_39 (looseW hd03.view_39 [Str.ofString "_DAYS_IN_MONTH", Str.ofString "_DAYS_BEFORE_MONTH"]) (ExcName.means s₀.heap) mg mb h₀) (kk : cs.kind = .function) (kd : dp + 7 < recursionLimit) (ku : un + 56 < cLine) 
    (ret : ∀ (D : Addr) (t1 t2 : Tok) (h' : Heap) (tk' : Nat), Fr h₀ L h' m → News h₀ L h' ((D, W.listOf #[.int (alm1 y) t1, .int (dim y 2) t2] 0) :: news) → AllLt D news → Q (.ref D) { s with heap := h', toks := tk' }) :
    wpAny (model Challenge.rw_dn0120_03.row.prog w) (ktrTop dp un gd cn cs L a ccd cl outer) (call (.ref 70) [Value.int y ty]) Q E s := by
  w_top off
  k_with_none
  w_strict (
    revert kK
    k_fill
    intro kK
    refine wpAny_call ?_
    k_dflt cell_enter
    k_steps
    all_goals (exact ret _ _ _ _ _ (by k_asm) (by k_asm) (allLt_of (by with_reducible assumption))))
local macro_rules | `(tactic| walk_at "call ref") => `(tactic| (k_here; (with_reducible show wpAny _ _ (PySem.call (Value.ref 70) _) _ _ _); k_dflt (refine' c_alm ?k1 ?k2 ?k3 ?k4 ?k5 ?kK ?kd ?ku ?_; (case k1 => k_asm); (case k2 => k_asm); (case k3 => k_asm); (case k4 => k_asm); (case k5 => k_asm); (case kK => first | exact rfl | assumption); (case kd => ktr_room); (case ku => ktr_units); k_whole); intro D9 t8 t9 h9 tk9 F9 N9 l9; (try simp only [AllLt, and_true] at l9); (try dsimp only); (try k_fold)))
end
section
local macro_rules | `(tactic| walk_at "mine pre") => `(tactic| first | with_reducible assumption | omega | l_fact)
local macro_rules | `(tactic| walk_at "mine twelve") => `(tactic| (intro k h1 h2; rcases m12 h1 h2 with h | h | h | h | h | h | h | h | h | h | h | h <;> (subst h; exact ⟨_, rfl⟩)))
local macro_rules | `(tactic| walk_at "mine lt") => `(tactic| first | with_reducible assumption | exact (by with_reducible assumption : _ ∧ AllLt _ _).2 | exact (by with_reducible assumption : _ ∧ _ ∧ AllLt _ _).2.2 | exact (by with_reducible assumption : _ ∧ _ ∧ _ ∧ AllLt _ _).2.2.2 | exact (by with_reducible assumption : _ ∧ _ ∧ _ ∧ _ ∧ AllLt _ _).2.2.2.2)
local macro_rules | `(tactic| walk_at "eval Call") => `(tactic| (k_here; (with_reducible show wpAny _ _ (eval (PySem.Expr.Call (PySem.Expr.Name (Str.ofString "_is_leap") _) _ [] _) _) _ _ _); k_dflt (refine Call_ ?_)))
local macro_rules | `(tactic| walk_at "eval Call") => `(tactic| (k_here; (with_reducible show wpAny _ _ (eval (PySem.Expr.Call (PySem.Expr.Name (Str.ofString "_days_before_year") _) _ [] _) _) _ _ _); k_dflt (refine Call_ ?_)))
local macro_rules | `(tactic| walk_at "eval Call") => `(tactic| (k_here; (with_reducible show wpAny _ _ (eval (PySem.Expr.Call (PySem.Expr.Name (Str.ofString "_days_in_month") _) _ [] _) _) _ _ _); k_dflt (refine Call_ ?_)))
local macro_rules | `(tactic| walk_at "eval Call") => `(tactic| (k_here; (with_reducible show wpAny _ _ (eval (PySem.Expr.Call (PySem.Expr.Name (Str.ofString "_days_before_month") _) _ [] _) _) _ _ _); k_dflt (refine Call_ ?_)))
local macro_rules | `(tactic| walk_at "eval Call") => `(tactic| (k_here; (with_reducible show wpAny _ _ (eval (PySem.Expr.Call (PySem.Expr.Name (Str.ofString "_ymd2ord") _) _ [] _) _) _ _ _); k_dflt (refine Call_ ?_)))
local macro_rules | `(tactic| walk_at "eval Call") => `(tactic| (k_here; (with_reducible show wpAny _ _ (eval (PySem.Expr.Call (PySem.Expr.Name (Str.ofString "_law_length") _) _ [] _) _) _ _ _); k_dflt (refine Call_ ?_)))
local macro_rules | `(tactic| walk_at "eval Call") => `(tactic| (k_here; (with_reducible show wpAny _ _ (eval (PySem.Expr.Call (PySem.Expr.Name (Str.ofString "_law_almanac") _) _ [] _) _) _ _ _); k_dflt (refine Call_ ?_)))
local macro_rules | `(tactic| walk_at "eval Call") => `(tactic| (k_here; (with_reducible show wpAny _ _ (eval (PySem.Expr.Call (PySem.Expr.Name (Str.ofString "_law_due") _) _ [] _) _) _ _ _); k_dflt (refine Call_ ?_)))
local macro_rules | `(tactic| walk_at "subscriptTail Name Name ref int") => `(tactic| (k_here; (with_reducible show wpAny _ _ (subscriptTail _ _ (Value.ref 15) (Value.int _ _)) _ _ _); k_dflt (refine' tab_item dimT ?F ?X ?o ?h1 ?h2 ?x ?s ?_; (case F => k_asm); (case X => k_asm); (case o => k_is); (case h1 => walk_at "mine pre"); (case h2 => walk_at "mine pre"); (case x => walk_at "mine twelve"); (case s => with_unfolding_all rfl); k_whole); intro t9))
local macro_rules | `(tactic| walk_at "subscriptTail Name Name ref int") => `(tactic| (k_here; (with_reducible show wpAny _ _ (subscriptTail _ _ (Value.ref 16) (Value.int _ _)) _ _ _); k_dflt (refine' tab_item dbmT ?F ?X ?o ?h1 ?h2 ?x ?s ?_; (case F => k_asm); (case X => k_asm); (case o => k_is); (case h1 => walk_at "mine pre"); (case h2 => walk_at "mine pre"); (case x => walk_at "mine twelve"); (case s => with_unfolding_all rfl); k_whole); intro t9))
local macro_rules | `(tactic| walk_at "call ref") => `(tactic| (k_here; (with_reducible show wpAny _ _ (PySem.call (Value.ref 28) _) _ _ _); k_dflt (refine' c_leap ?k1 ?k2 ?k3 ?k4 ?k5 ?kK ?kd ?ku ?_; (case k1 => k_asm); (case k2 => k_asm); (case k3 => k_asm); (case k4 => k_asm); (case k5 => k_asm); (case kK => first | exact rfl | assumption); (case kd => ktr_room); (case ku => ktr_units); k_whole); intro t9 h9 tk9 F9 N9; (try dsimp only); (try k_fold)))
local macro_rules | `(tactic| walk_at "call ref") => `(tactic| (k_here; (with_reducible show wpAny _ _ (PySem.call (Value.ref 35) _) _ _ _); k_dflt (refine' c_dby ?k1 ?k2 ?k3 ?k4 ?k5 ?kK ?kd ?ku ?_; (case k1 => k_asm); (case k2 => k_asm); (case k3 => k_asm); (case k4 => k_asm); (case k5 => k_asm); (case kK => first | exact rfl | assumption); (case kd => ktr_room); (case ku => ktr_units); k_whole); intro t9 h9 tk9 F9 N9; (try dsimp only); (try k_fold)))
local macro_rules | `(tactic| walk_at "call ref") => `(tactic| (k_here; (with_reducible show wpAny _ _ (PySem.call (Value.ref 42) _) _ _ _); k_dflt (refine' c_dim ?k1 ?k2 ?k3 ?k4 ?k5 ?kK ?kd ?ku ?kp0 ?kp1 ?_; (case k1 => k_asm); (case k2 => k_asm); (case k3 => k_asm); (case k4 => k_asm); (case k5 => k_asm); (case kK => first | exact rfl | assumption); (case kd => ktr_room); (case ku => ktr_units); (case kp0 => walk_at "mine pre"); (case kp1 => walk_at "mine pre"); k_whole); intro t9 h9 tk9 F9 N9; (try dsimp only); (try k_fold)))
local macro_rules | `(tactic| walk_at "call ref") => `(tactic| (k_here; (with_reducible show wpAny _ _ (PySem.call (Value.ref 49) _) _ _ _); k_dflt (refine' c_dbm ?k1 ?k2 ?k3 ?k4 ?k5 ?kK ?kd ?ku ?kp0 ?kp1 ?_; (case k1 => k_asm); (case k2 => k_asm); (case k3 => k_asm); (case k4 => k_asm); (case k5 => k_asm); (case kK => first | exact rfl | assumption); (case kd => ktr_room); (case ku => ktr_units); (case kp0 => walk_at "mine pre"); (case kp1 => walk_at "mine pre"); k_whole); intro t9 h9 tk9 F9 N9; (try dsimp only); (try k_fold)))
local macro_rules | `(tactic| walk_at "call ref") => `(tactic| (k_here; (with_reducible show wpAny _ _ (PySem.call (Value.ref 56) _) _ _ _); k_dflt (refine' c_ord ?k1 ?k2 ?k3 ?k4 ?k5 ?kK ?kd ?ku ?kp0 ?kp1 ?kp2 ?kp3 ?_; (case k1 => k_asm); (case k2 => k_asm); (case k3 => k_asm); (case k4 => k_asm); (case k5 => k_asm); (case kK => first | exact rfl | assumption); (case kd => ktr_room); (case ku => ktr_units); (case kp0 => walk_at "mine pre"); (case kp1 => walk_at "mine pre"); (case kp2 => walk_at "mine pre"); (case kp3 => walk_at "mine pre"); k_whole); intro t9 h9 tk9 hv9 F9 N9; (try dsimp only); (try k_fold)))
local macro_rules | `(tactic| walk_at "mine pre") => `(tactic| first | with_reducible assumption | omega | with_reducible exact dim_one (by decide) (by decide) | l_fact)
local macro_rules | `(tactic| walk_at "call ref") => `(tactic| (k_here; (with_reducible show wpAny _ _ (PySem.call (Value.ref 63) _) _ _ _); k_dflt (refine' c_len ?k1 ?k2 ?k3 ?k4 ?k5 ?kK ?kd ?ku ?kp0 ?kp1 ?_; (case k1 => k_asm); (case k2 => k_asm); (case k3 => k_asm); (case k4 => k_asm); (case k5 => k_asm); (case kK => first | exact rfl | assumption); (case kd => ktr_room); (case ku => ktr_units); (case kp0 => walk_at "mine pre"); (case kp1 => walk_at "mine pre"); k_whole); intro t9 h9 tk9 F9 N9; (try dsimp only); (try k_fold)))
local macro_rules | `(tactic| walk_at "call ref") => `(tactic| (k_here; (with_reducible show wpAny _ _ (PySem.call (Value.ref 70) _) _ _ _); k_dflt (refine' c_alm ?k1 ?k2 ?k3 ?k4 ?k5 ?kK ?kd ?ku ?_; (case k1 => k_asm); (case k2 => k_asm); (case k3 => k_asm); (case k4 => k_asm); (case k5 => k_asm); (case kK => first | exact rfl | assumption); (case kd => ktr_room); (case ku => ktr_units); k_whole); intro D9 t8 t9 h9 tk9 F9 N9 l9; (try simp only [AllLt, and_true] at l9); (try dsimp only); (try k_fold)))
local macro_rules | `(tactic| walk_at "eval ListComp") => `(tactic| (k_here; (with_reducible show wpAny _ _ (eval (PySem.Expr.ListComp (PySem.Expr.BinOp _ _ _ _) [⟨PySem.Expr.Name _ _, PySem.Expr.Tuple _ _ _, [_], _⟩] _ _) _) _ _ _); k_dflt (refine comp_tupT (by k_asm) (by rfl) (by with_unfolding_all rfl) (by decide) (by rfl) (by decide) (by rfl) ?_)))
local macro_rules | `(tactic| walk_at "SrcTup") => `(tactic| (k_here; k_dflt (refine' src_due (by with_reducible assumption) ?F ?N ?m ?_ ?_ ?_; (case F => k_asm); (case N => k_asm); (case m => k_mem)); rotate_left; rotate_left; (intro D' h' tk' ys' hI' F' N' o1'; (try simp only [LCg.Off1, and_true] at o1'); (try dsimp only); (try k_sweep)); rotate_left))
local macro_rules | `(tactic| walk_at "call builtin:min") => `(tactic| (k_here; (with_reducible show wpAny _ _ (PySem.call (Value.builtin "min") [Value.ref _]) _ _ _); k_dflt (refine' min_to ?F ?N ?l ?i ?h (dueL_min _).1 (dueL_min _).2 ?_; (case F => k_asm); (case N => k_asm); (case l => is_list); (case i => with_reducible assumption); (case h => rfl); k_whole); intro h' t' tk' F' N'; (have hb9 := yr_ahead (by with_reducible assumption)); (try k_sweep)))
local macro_rules | `(tactic| walk_at "EltIs") => `(tactic| (unfold EltIs; intro n' t' I' oI' C' oC' D' oD' m' h' tk' E' s' hn' hC' hx' F' N'; (try (obtain ⟨hn1, hn2⟩ := hn')); (try k_fold)))
local macro_rules | `(tactic| walk_at "EltOk") => `(tactic| exact EltOk.intro (by k_asm) (by first | k_asm | (refine cb_drop ?_ ?_; (· assumption); (· kcj_all))) ⟨_, rfl⟩)
local macro_rules | `(tactic| walk_at "TestIs") => `(tactic| (unfold TestIs; intro n' t' I' oI' C' oC' D' oD' m' h' tk' E' s' hn' hC' hx' F' N' off' ne'; (try (obtain ⟨ne1, ne2, ne3⟩ := ne')); (try k_fold)))
local macro_rules | `(tactic| walk_at "TestOk") => `(tactic| exact TestOk.intro (by k_asm) (by first | k_asm | exact news_tail (by assumption) | (refine cb_drop ?_ ?_; (· assumption); (· kcj_all))) (by walk_at "mine test"))
local macro_rules | `(tactic| walk_at "mine test") => `(tactic| first | with_reducible exact alike_eq _ _ | rfl | (symm; simp; omega) | (simp; omega))
theorem c_due {w : World} {s₀ : Shared} {mg mb : Str → Option Value} {dp un : Nat} {gd : Option (List Code)} {cn : Str} {cs : Scope} {a : Addr} {ccd : Value} {cl : List (Str × Addr)} {outer : List Env} {A₀ : Around} {base h₀ : Heap} {L : Addr} {m : Str → Option Value} {news : List (Addr × Obj)} {s : Shared} {Q E : Value → Shared → Prop} {y : Int} {ty : Tok}
    (kB : Below A₀ base outer h₀) (kF : Fr h₀ L s.heap m) (kK : (hd03.heap_39 w.params).In h₀) (kN : News h₀ L s.heap news) (kT : Top hd03.view_39 (looseW hd03.view_39 [Str.ofString "_DAYS_IN_MONTH", Str.ofString "_DAYS_BEFORE_MONTH"]) (ExcName.means s₀.heap) mg mb h₀) (kk : cs.kind = .function) (kd : dp + 7 < recursionLimit) (ku : un + 56 < cLine) 
    (ret : ∀ (t : Tok) (h' : Heap) (tk' : Nat), Fr h₀ L h' m → News h₀ L h' news → Q (.int (due y) t) { s with heap := h', toks := tk' }) :
    wpAny (model Challenge.rw_dn0120_03.row.prog w) (ktrTop dp un gd cn cs L a ccd cl outer) (call (.ref 75) [Value.int y ty]) Q E s := by
  w_top off
  k_with_none
  w_strict (
    revert kK
    k_fill
    intro kK
    have hY9 : Yr y := Yr.mk
    refine wpAny_call ?_
    k_dflt (refine' code_defC ?k1 ?k2 ?k3 ?k4 ?k5 ?kA ?kF ?kK ?k6 ?k7 ?k8 ?k9 ?kB ?kD ?_ ?c2 ?c3 ?c4; (case kA => exact rfl); (case kF => exact rfl); (case kK => assumption); (case k1 => k_asm); (case k2 => k_asm); (case k3 => k_asm); (case k4 => k_asm); (case k5 => k_asm); (case k6 => k_is); (case k7 => k_is); (case k8 => ktr_room); (case k9 => exact BindsTo.of_eq rfl); (case kB => exact rfl); (case kD => decide +kernel); (case c2 => exact rfl); (case c3 => exact rfl); (case c4 => exact rfl); k_whole; intro g' L' h' tk' cells' FG' F' N' Y' B' X' T' l1; (try k_lt l1); k_cells Y'; (try simp only [List.cons_append, List.nil_append] at N'); (try dsimp only); (try k_lift B'); (try k_fold))
    k_steps
    k_with "tree" => (with_reducible first | exact w_due1 (by assumption) | exact w_due2 (by assumption) (by assumption) (by assumption) | exact w_due3 (by assumption) (by assumption) (by assumption) | exact w_due4 (by assumption) (by assumption))
    all_goals cb_end ret)
local macro_rules | `(tactic| walk_at "call ref") => `(tactic| (k_here; (with_reducible show wpAny _ _ (PySem.call (Value.ref 75) _) _ _ _); k_dflt (refine' c_due ?k1 ?k2 ?k3 ?k4 ?k5 ?kK ?kd ?ku ?_; (case k1 => k_asm); (case k2 => k_asm); (case k3 => k_asm); (case k4 => k_asm); (case k5 => k_asm); (case kK => first | exact rfl | assumption); (case kd => ktr_room); (case ku => ktr_units); k_whole); intro t9 h9 tk9 F9 N9; (try dsimp only); (try k_fold)))
end
section
local macro_rules | `(tactic| walk_at "mine pre") => `(tactic| first | with_reducible assumption | omega | l_fact)
local macro_rules | `(tactic| walk_at "mine twelve") => `(tactic| (intro k h1 h2; rcases m12 h1 h2 with h | h | h | h | h | h | h | h | h | h | h | h <;> (subst h; exact ⟨_, rfl⟩)))
local macro_rules | `(tactic| walk_at "mine lt") => `(tactic| first | with_reducible assumption | exact (by with_reducible assumption : _ ∧ AllLt _ _).2 | exact (by with_reducible assumption : _ ∧ _ ∧ AllLt _ _).2.2 | exact (by with_reducible assumption : _ ∧ _ ∧ _ ∧ AllLt _ _).2.2.2 | exact (by with_reducible assumption : _ ∧ _ ∧ _ ∧ _ ∧ AllLt _ _).2.2.2.2)
local macro_rules | `(tactic| walk_at "eval Call") => `(tactic| (k_here; (with_reducible show wpAny _ _ (eval (PySem.Expr.Call (PySem.Expr.Name (Str.ofString "_is_leap") _) _ [] _) _) _ _ _); k_dflt (refine Call_ ?_)))
local macro_rules | `(tactic| walk_at "eval Call") => `(tactic| (k_here; (with_reducible show wpAny _ _ (eval (PySem.Expr.Call (PySem.Expr.Name (Str.ofString "_days_before_year") _) _ [] _) _) _ _ _); k_dflt (refine Call_ ?_)))
local macro_rules | `(tactic| walk_at "eval Call") => `(tactic| (k_here; (with_reducible show wpAny _ _ (eval (PySem.Expr.Call (PySem.Expr.Name (Str.ofString "_days_in_month") _) _ [] _) _) _ _ _); k_dflt (refine Call_ ?_)))
local macro_rules | `(tactic| walk_at "eval Call") => `(tactic| (k_here; (with_reducible show wpAny _ _ (eval (PySem.Expr.Call (PySem.Expr.Name (Str.ofString "_days_before_month") _) _ [] _) _) _ _ _); k_dflt (refine Call_ ?_)))
local macro_rules | `(tactic| walk_at "eval Call") => `(tactic| (k_here; (with_reducible show wpAny _ _ (eval (PySem.Expr.Call (PySem.Expr.Name (Str.ofString "_ymd2ord") _) _ [] _) _) _ _ _); k_dflt (refine Call_ ?_)))
local macro_rules | `(tactic| walk_at "eval Call") => `(tactic| (k_here; (with_reducible show wpAny _ _ (eval (PySem.Expr.Call (PySem.Expr.Name (Str.ofString "_law_length") _) _ [] _) _) _ _ _); k_dflt (refine Call_ ?_)))
local macro_rules | `(tactic| walk_at "eval Call") => `(tactic| (k_here; (with_reducible show wpAny _ _ (eval (PySem.Expr.Call (PySem.Expr.Name (Str.ofString "_law_almanac") _) _ [] _) _) _ _ _); k_dflt (refine Call_ ?_)))
local macro_rules | `(tactic| walk_at "eval Call") => `(tactic| (k_here; (with_reducible show wpAny _ _ (eval (PySem.Expr.Call (PySem.Expr.Name (Str.ofString "_law_due") _) _ [] _) _) _ _ _); k_dflt (refine Call_ ?_)))
local macro_rules | `(tactic| walk_at "subscriptTail Name Name ref int") => `(tactic| (k_here; (with_reducible show wpAny _ _ (subscriptTail _ _ (Value.ref 15) (Value.int _ _)) _ _ _); k_dflt (refine' tab_item dimT ?F ?X ?o ?h1 ?h2 ?x ?s ?_; (case F => k_asm); (case X => k_asm); (case o => k_is); (case h1 => walk_at "mine pre"); (case h2 => walk_at "mine pre"); (case x => walk_at "mine twelve"); (case s => with_unfolding_all rfl); k_whole); intro t9))
local macro_rules | `(tactic| walk_at "subscriptTail Name Name ref int") => `(tactic| (k_here; (with_reducible show wpAny _ _ (subscriptTail _ _ (Value.ref 16) (Value.int _ _)) _ _ _); k_dflt (refine' tab_item dbmT ?F ?X ?o ?h1 ?h2 ?x ?s ?_; (case F => k_asm); (case X => k_asm); (case o => k_is); (case h1 => walk_at "mine pre"); (case h2 => walk_at "mine pre"); (case x => walk_at "mine twelve"); (case s => with_unfolding_all rfl); k_whole); intro t9))
local macro_rules | `(tactic| walk_at "call ref") => `(tactic| (k_here; (with_reducible show wpAny _ _ (PySem.call (Value.ref 28) _) _ _ _); k_dflt (refine' c_leap ?k1 ?k2 ?k3 ?k4 ?k5 ?kK ?kd ?ku ?_; (case k1 => k_asm); (case k2 => k_asm); (case k3 => k_asm); (case k4 => k_asm); (case k5 => k_asm); (case kK => first | exact rfl | assumption); (case kd => ktr_room); (case ku => ktr_units); k_whole); intro t9 h9 tk9 F9 N9; (try dsimp only); (try k_fold)))
local macro_rules | `(tactic| walk_at "call ref") => `(tactic| (k_here; (with_reducible show wpAny _ _ (PySem.call (Value.ref 35) _) _ _ _); k_dflt (refine' c_dby ?k1 ?k2 ?k3 ?k4 ?k5 ?kK ?kd ?ku ?_; (case k1 => k_asm); (case k2 => k_asm); (case k3 => k_asm); (case k4 => k_asm); (case k5 => k_asm); (case kK => first | exact rfl | assumption); (case kd => ktr_room); (case ku => ktr_units); k_whole); intro t9 h9 tk9 F9 N9; (try dsimp only); (try k_fold)))
local macro_rules | `(tactic| walk_at "call ref") => `(tactic| (k_here; (with_reducible show wpAny _ _ (PySem.call (Value.ref 42) _) _ _ _); k_dflt (refine' c_dim ?k1 ?k2 ?k3 ?k4 ?k5 ?kK ?kd ?ku ?kp0 ?kp1 ?_; (case k1 => k_asm); (case k2 => k_asm); (case k3 => k_asm); (case k4 => k_asm); (case k5 => k_asm); (case kK => first | exact rfl | assumption); (case kd => ktr_room); (case ku => ktr_units); (case kp0 => walk_at "mine pre"); (case kp1 => walk_at "mine pre"); k_whole); intro t9 h9 tk9 F9 N9; (try dsimp only); (try k_fold)))
local macro_rules | `(tactic| walk_at "call ref") => `(tactic| (k_here; (with_reducible show wpAny _ _ (PySem.call (Value.ref 49) _) _ _ _); k_dflt (refine' c_dbm ?k1 ?k2 ?k3 ?k4 ?k5 ?kK ?kd ?ku ?kp0 ?kp1 ?_; (case k1 => k_asm); (case k2 => k_asm); (case k3 => k_asm); (case k4 => k_asm); (case k5 => k_asm); (case kK => first | exact rfl | assumption); (case kd => ktr_room); (case ku => ktr_units); (case kp0 => walk_at "mine pre"); (case kp1 => walk_at "mine pre"); k_whole); intro t9 h9 tk9 F9 N9; (try dsimp only); (try k_fold)))
local macro_rules | `(tactic| walk_at "call ref") => `(tactic| (k_here; (with_reducible show wpAny _ _ (PySem.call (Value.ref 56) _) _ _ _); k_dflt (refine' c_ord ?k1 ?k2 ?k3 ?k4 ?k5 ?kK ?kd ?ku ?kp0 ?kp1 ?kp2 ?kp3 ?_; (case k1 => k_asm); (case k2 => k_asm); (case k3 => k_asm); (case k4 => k_asm); (case k5 => k_asm); (case kK => first | exact rfl | assumption); (case kd => ktr_room); (case ku => ktr_units); (case kp0 => walk_at "mine pre"); (case kp1 => walk_at "mine pre"); (case kp2 => walk_at "mine pre"); (case kp3 => walk_at "mine pre"); k_whole); intro t9 h9 tk9 hv9 F9 N9; (try dsimp only); (try k_fold)))
local macro_rules | `(tactic| walk_at "mine pre") => `(tactic| first | with_reducible assumption | omega | with_reducible exact dim_one (by decide) (by decide) | l_fact)
local macro_rules | `(tactic| walk_at "call ref") => `(tactic| (k_here; (with_reducible show wpAny _ _ (PySem.call (Value.ref 63) _) _ _ _); k_dflt (refine' c_len ?k1 ?k2 ?k3 ?k4 ?k5 ?kK ?kd ?ku ?kp0 ?kp1 ?_; (case k1 => k_asm); (case k2 => k_asm); (case k3 => k_asm); (case k4 => k_asm); (case k5 => k_asm); (case kK => first | exact rfl | assumption); (case kd => ktr_room); (case ku => ktr_units); (case kp0 => walk_at "mine pre"); (case kp1 => walk_at "mine pre"); k_whole); intro t9 h9 tk9 F9 N9; (try dsimp only); (try k_fold)))
local macro_rules | `(tactic| walk_at "call ref") => `(tactic| (k_here; (with_reducible show wpAny _ _ (PySem.call (Value.ref 70) _) _ _ _); k_dflt (refine' c_alm ?k1 ?k2 ?k3 ?k4 ?k5 ?kK ?kd ?ku ?_; (case k1 => k_asm); (case k2 => k_asm); (case k3 => k_asm); (case k4 => k_asm); (case k5 => k_asm); (case kK => first | exact rfl | assumption); (case kd => ktr_room); (case ku => ktr_units); k_whole); intro D9 t8 t9 h9 tk9 F9 N9 l9; (try simp only [AllLt, and_true] at l9); (try dsimp only); (try k_fold)))
local macro_rules | `(tactic| walk_at "call ref") => `(tactic| (k_here; (with_reducible show wpAny _ _ (PySem.call (Value.ref 75) _) _ _ _); k_dflt (refine' c_due ?k1 ?k2 ?k3 ?k4 ?k5 ?kK ?kd ?ku ?_; (case k1 => k_asm); (case k2 => k_asm); (case k3 => k_asm); (case k4 => k_asm); (case k5 => k_asm); (case kK => first | exact rfl | assumption); (case kd => ktr_room); (case ku => ktr_units); k_whole); intro t9 h9 tk9 F9 N9; (try dsimp only); (try k_fold)))
local macro_rules | `(tactic| walk_at "eval ListComp") => `(tactic| (k_here; (with_reducible show wpAny _ _ (eval (PySem.Expr.ListComp (PySem.Expr.Name _ _) [⟨PySem.Expr.Name _ _, _, [PySem.Expr.BoolOp BoolOp.Or _ _], _⟩] _ _) _) _ _ _); k_dflt (refine comp_no (F₀ := by k_asm) (by rfl) (by with_unfolding_all rfl) (by decide) (by rfl) (by decide) (by rfl) ?_ ?_)))
local macro_rules | `(tactic| walk_at "TestNo") => `(tactic| (unfold TestNo; intro n' t' I' oI' C' oC' D' oD' m' h' tk' E' s' nw' hC' hx' F' N'; (try k_fold)))
local macro_rules | `(tactic| walk_at "NoOk") => `(tactic| exact ⟨by first | rfl | decide, _, rfl⟩)
local macro_rules | `(tactic| walk_at "mine ints") => `(tactic| (refine all_ints ?_; (try dsimp only); repeat' (first | exact ints_nil | refine ints_cons ?_ | exact ints_are (by with_reducible assumption))))
local macro_rules | `(tactic| walk_at "SrcNo") => `(tactic| (k_here; k_dflt (refine' SrcNo.intro ?F ?N ?m ?t ?z ?i ?_; (case F => k_asm); (case N => k_asm); (case m => k_mem); (case t => decide); (case z => first | exact Nat.le_of_ble_eq_true rfl | size_fits); (case i => walk_at "mine ints")); intro D' h' tk' F' N' o1'; (try simp only [LCg.Off1, and_true] at o1'); (try dsimp only); (try k_sweep)))
local macro_rules | `(tactic| walk_at "subscriptTail List") => `(tactic| (k_here; (with_reducible show wpAny _ _ (subscriptTail _ (PySem.Expr.Slice _ none none _) (Value.ref _) (Value.ref _)) _ _ _); k_dflt (refine kba_turn (value' := PySem.Expr.Name (PySem.Str.ofString "_") ⟨0, 0, 0, 0⟩) (fun _ => rfl) ?_); k_dflt (refine' kmk_slice_ints ?F ?N ?l ?p ?q ?i ?m ?c ?_ ?s ?t ?z; (case F => k_asm); (case N => k_asm); (case l => kmk_list); (case p => kmk_part); (case q => kmk_part); (case i => l_ints); (case m => exact kmk_from (by l_ints) (by first | exact Int.natCast_nonneg _ | omega)); (case c => exact rfl); (case s => with_unfolding_all rfl); (case t => kmk_pure); (case z => exact Nat.le_of_ble_eq_true rfl)); intro D' ws' h' F' N' l1 hI' hC' hL'; clear hC' hL'; (try k_lt l1); (try k_sweep)))
local macro_rules | `(tactic| walk_at "assign Tuple cons ref") => `(tactic| (k_here; (with_reducible rename IntsAre _ (List.take 2 _ ++ _) => hI9); obtain ⟨a9, b9, u9, v9, hw9⟩ := pad2 hI9; clear hI9; subst hw9))
local macro_rules | `(tactic| walk_at "assign Tuple cons ref") => `(tactic| (k_here; (with_reducible rename IntsAre _ (List.take 4 _ ++ _) => hI9); obtain ⟨a9, b9, c9, d9, u9, v9, x9, y9, hw9⟩ := pad4 hI9; clear hI9; subst hw9))
local macro_rules | `(tactic| walk_at "mine bool end") => `(tactic| (kc_bool; (fail_if_success (with_reducible show GoodW _ _ _ _ _ (Except.ok (Flow.ret (Value.bool true))) _)); refine goodW_rw ?mb ?_; (case mb => walk_at "mine end")))
local macro_rules | `(tactic| walk_at "EltIs") => `(tactic| (unfold EltIs; intro n' t' I' oI' C' oC' D' oD' m' h' tk' E' s' hn' hC' hx' F' N'; (try (obtain ⟨hn1, hn2⟩ := hn')); (try k_fold)))
local macro_rules | `(tactic| walk_at "EltOk") => `(tactic| exact EltOk.intro (by k_asm) (by first | k_asm | (refine cb_drop ?_ ?_; (· assumption); (· kcj_all))) ⟨_, rfl⟩)
local macro_rules | `(tactic| walk_at "TestIs") => `(tactic| (unfold TestIs; intro n' t' I' oI' C' oC' D' oD' m' h' tk' E' s' hn' hC' hx' F' N' off' ne'; (try (obtain ⟨ne1, ne2, ne3⟩ := ne')); (try k_fold)))
local macro_rules | `(tactic| walk_at "TestOk") => `(tactic| exact TestOk.intro (by k_asm) (by first | k_asm | exact news_tail (by assumption) | (refine cb_drop ?_ ?_; (· assumption); (· kcj_all))) (by walk_at "mine test"))
local macro_rules | `(tactic| walk_at "mine test") => `(tactic| first | with_reducible exact alike_eq _ _ | rfl | (symm; simp; omega) | (simp; omega))
local macro_rules | `(tactic| walk_at "subscriptTail BinOp") => `(tactic| (k_here; (with_reducible show wpAny _ _ (subscriptTail (PySem.Expr.BinOp _ _ _ _) _ (Value.ref _) (Value.int 0 _)) _ _ _); k_dflt (refine' script_item ?l ?i ?a ?z ?k ?s ?_; (case l => is_list); (case i => l_ints); (case a => decide); (case z => decide); (case k => (rw [List.length_append]; simp only [List.length_cons, List.length_nil]; omega)); (case s => with_unfolding_all rfl); k_whole); intro x9 t9; (have hY9 : Yr x9 := Yr.mk)))
local macro_rules | `(tactic| walk_at "exec Assign cons ListComp") => `(tactic| (k_here; (with_reducible show wpAny _ _ (exec (PySem.Stmt.Assign _ (PySem.Expr.ListComp (PySem.Expr.Call _ _ _ _) [⟨PySem.Expr.Name _ _, PySem.Expr.Call _ _ _ _, [], _⟩] _ _) _) _) _ _ _); k_dflt (refine LCg.Assign_ListComp_U (F₀ := by k_asm) (by rfl) (by with_unfolding_all rfl) (by with_unfolding_all rfl) (by decide) (by rfl) (by decide) (by rfl) (by rfl) (by rfl) ?_)))
local macro_rules | `(tactic| walk_at "exec Assign cons ListComp") => `(tactic| (k_here; (with_reducible show wpAny _ _ (exec (PySem.Stmt.Assign _ (PySem.Expr.ListComp _ [⟨PySem.Expr.Name _ _, PySem.Expr.Call _ _ _ _, [_], _⟩] _ _) _) _) _ _ _); k_dflt (refine LCt.Assign_ListComp_T (F₀ := by k_asm) (by rfl) (by with_unfolding_all rfl) (by with_unfolding_all rfl) (by decide) (by rfl) (by decide) (by rfl) (by rfl) (by rfl) ?_)))
local macro_rules | `(tactic| walk_at "eval ListComp") => `(tactic| (k_here; (with_reducible show wpAny _ _ (eval (PySem.Expr.ListComp (PySem.Expr.Call _ _ _ _) [⟨PySem.Expr.Name _ _, PySem.Expr.Call _ _ _ _, [], _⟩] _ _) _) _ _ _); k_dflt (refine LCg.ListComp_U (F₀ := by k_asm) (by with_unfolding_all rfl) (by decide) (by rfl) (by decide) (by rfl) ?_)))
local macro_rules | `(tactic| walk_at "CompSrc") => `(tactic| (k_here; k_dflt (refine' src03 (by with_reducible assumption) (by rfl) ?F ?N ?r ?_ ?_; (case F => k_asm); (case N => k_asm); (case r => assumption))))
local macro_rules | `(tactic| walk_at "CompSrcT") => `(tactic| (k_here; k_dflt (refine' src03T (by with_reducible assumption) (by rfl) ?F ?N ?r ?_ ?_ ?_; (case F => k_asm); (case N => k_asm); (case r => assumption))))
local macro_rules | `(tactic| walk_at "EltIs") => `(tactic| (unfold EltIs; intro n' t' I' oI' C' oC' D' oD' m' h' tk' E' s' hn' hC' hx' F' N'; (try (obtain ⟨hn1, hn2⟩ := hn')); (try k_fold)))
local macro_rules | `(tactic| walk_at "EltOk") => `(tactic| exact EltOk.intro (by k_asm) (by first | k_asm | (refine cb_drop ?_ ?_; (· assumption); (· kcj_all))) ⟨_, rfl⟩)
local macro_rules | `(tactic| walk_at "SrcNo") => `(tactic| (k_here; k_dflt (refine' SrcNo.intro ?F ?N ?m ?t ?z ?i ?_; (case F => k_asm); (case N => k_asm); (case m => k_mem); (case t => decide); (case z => exact ints_size (by assumption) (by simp [runs])); (case i => exact all_ints (ints_are (by with_reducible assumption)))); intro D' h' tk' F' N' o1'; (try simp only [LCg.Off1, and_true] at o1'); (try dsimp only); (try k_sweep)))
local macro_rules | `(tactic| walk_at "compareOp NotEq int int") => `(tactic| (k_here; (with_reducible show wpAny _ _ (compareOp CmpOp.NotEq (Value.int (List.getD _ _ _) _) (Value.int (_ - _) _)) _ _ _); refine ne_known (l03_own _) ?_))
local macro_rules | `(tactic| walk_at "mine end") => `(tactic| exact decide_eq_true (found_runs _))
theorem t03 : PySem.Challenge.rw_dn0120_03.Holds := hd03 (by w_top off; k_with_none; w_strict (k_go0; (all_goals try k_fold); (repeat' (first | (k_unfold; (try dsimp only)) | (walk_at "mine bool end") | (k_end; kc_close) | walk1 | (dsimp only; walk1) | (leave1; (try dsimp only)) | fail "no step"))))
end
end Mine
theorem PySem.Challenge.cw_dn0120_03_holds : PySem.Challenge.rw_dn0120_03.Holds := by
  exact Mine.t03
