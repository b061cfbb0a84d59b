import PyProof.Rows.All
import Wide.All
import OpenK.AllK
import Wide.FinOn
import Lean
import PySem.Challenge.RW_dn0120_10
open PySem PySem.W PyProof.Rows
set_option Elab.async false
set_option maxRecDepth 100000
set_option maxHeartbeats 8000000
set_option linter.unusedVariables false
namespace Mine
section
def leap (y : Int) : Bool := decide (y % 4 = 0) && (!decide (y % 100 = 0) || decide (y % 400 = 0))
def dby (y : Int) : Int := (y - 1) * 365 + (y - 1) / 4 - (y - 1) / 100 + (y - 1) / 400
def dimT (m : Int) : Int := if m = 2 then 28 else if m = 4 ∨ m = 6 ∨ m = 9 ∨ m = 11 then 30 else 31
def dbmT (m : Int) : Int := if m = 1 then 0 else if m = 2 then 31 else if m = 3 then 59 else if m = 4 then 90 else if m = 5 then 120 else if m = 6 then 151 else if m = 7 then 181 else if m = 8 then 212 else if m = 9 then 243 else if m = 10 then 273 else if m = 11 then 304 else 334
/-- a leap year's day more -/
def lpd (y : Int) : Int := if leap y = true then 1 else 0
def dim (y m : Int) : Int := dimT m + if m = 2 then lpd y else 0
def dbm (y m : Int) : Int := dbmT m + if 2 < m then lpd y else 0
def Valid (y m d : Int) : Prop := 1 ≤ m ∧ m ≤ 12 ∧ 1 ≤ d ∧ d ≤ dim y m
def ord (y m d : Int) : Int := dby y + dbm y m + d
theorem m12 {m : Int} (h1 : 1 ≤ m) (h2 : m ≤ 12) : m = 1 ∨ m = 2 ∨ m = 3 ∨ m = 4 ∨ m = 5 ∨ m = 6 ∨ m = 7 ∨ m = 8 ∨ m = 9 ∨ m = 10 ∨ m = 11 ∨ m = 12 := by omega
theorem lpd_01 (y : Int) : 0 ≤ lpd y ∧ lpd y ≤ 1 := by unfold lpd; split <;> decide
theorem leap_iff (y : Int) : leap y = true ↔ (y % 4 = 0 ∧ (y % 100 ≠ 0 ∨ y % 400 = 0)) := by
  simp only [leap, Bool.and_eq_true, Bool.or_eq_true, decide_eq_true_eq, Bool.not_eq_true', decide_eq_false_iff_not, ne_eq]
theorem lpd_iff (y : Int) : lpd y = 1 ↔ (y % 4 = 0 ∧ (y % 100 ≠ 0 ∨ y % 400 = 0)) := by
  rw [← leap_iff]; unfold lpd; split <;> simp_all
theorem dby_succ (y : Int) : dby (y + 1) = dby y + 365 + lpd y := by
  have h := lpd_iff y
  have h2 := lpd_01 y
  unfold dby
  omega
theorem dim_pos {y m : Int} (h1 : 1 ≤ m) (h2 : m ≤ 12) : 28 ≤ dim y m ∧ dim y m ≤ 31 := by
  have h := lpd_01 y
  rcases m12 h1 h2 with h | h | h | h | h | h | h | h | h | h | h | h <;> subst h <;> simp [dim, dimT] <;> omega
theorem dbm_1 (y : Int) : dbm y 1 = 0 := by simp [dbm, dbmT]
theorem dbm_step {y m : Int} (h1 : 1 ≤ m) (h2 : m ≤ 11) : dbm y (m + 1) = dbm y m + dim y m := by
  rcases m12 h1 (by omega) with h | h | h | h | h | h | h | h | h | h | h | h <;> subst h <;> simp [dim, dimT, dbm, dbmT] <;> omega
theorem dbm_bds {y m : Int} (h1 : 1 ≤ m) (h2 : m ≤ 12) : 0 ≤ dbm y m ∧ dbm y m + dim y m ≤ 365 + lpd y := by
  have h := lpd_01 y
  rcases m12 h1 h2 with h | h | h | h | h | h | h | h | h | h | h | h <;> subst h <;> simp [dim, dimT, dbm, dbmT] <;> omega
theorem dbm_lt {y m m' : Int} (h1 : 1 ≤ m) (h : m < m') (h2 : m' ≤ 12) : dbm y m + dim y m ≤ dbm y m' := by
  have hl := lpd_01 y
  rcases m12 h1 (by omega) with e | e | e | e | e | e | e | e | e | e | e | e <;> rcases m12 (m := m') (by omega) h2 with e' | e' | e' | e' | e' | e' | e' | e' | e' | e' | e' | e' <;> subst e <;> subst e' <;> first | (exfalso; omega) | (simp [dim, dimT, dbm, dbmT]; try omega)
theorem dby_mono {y y' : Int} (h : y < y') : dby (y + 1) ≤ dby y' := by unfold dby; omega
theorem ord_in {y m d : Int} (h : Valid y m d) : dby y < ord y m d ∧ ord y m d ≤ dby (y + 1) := by
  obtain ⟨h1, h2, h3, h4⟩ := h
  have := dbm_bds (y := y) h1 h2
  rw [dby_succ]; unfold ord; omega
theorem ord_lt {y m d y' m' d' : Int} (h : Valid y m d) (h' : Valid y' m' d') (hl : y < y' ∨ (y = y' ∧ (m < m' ∨ (m = m' ∧ d < d')))) : ord y m d < ord y' m' d' := by
  rcases hl with hl | ⟨rfl, hl | ⟨rfl, hl⟩⟩
  · have a := ord_in h; have b := ord_in h'; have c := dby_mono hl; omega
  · have a := dbm_lt (y := y) h.1 hl h'.2.1
    have b := h.2.2.2; have c := h'.2.2.1; unfold ord; omega
  · unfold ord; omega
theorem ord_inj {y m d y' m' d' : Int} (h : Valid y m d) (h' : Valid y' m' d') (e : ord y m d = ord y' m' d') : y = y' ∧ m = m' ∧ d = d' := by
  by_cases c : y = y' ∧ m = m' ∧ d = d'
  · exact c
  · exfalso
    by_cases l : (y < y' ∨ (y = y' ∧ (m < m' ∨ (m = m' ∧ d < d'))))
    · have := ord_lt h h' l; omega
    · have := ord_lt h' h (by omega); omega
theorem dby_dec {a b c d : Int} (b0 : 0 ≤ b) (b1 : b ≤ 3) (c0 : 0 ≤ c) (c1 : c ≤ 24) (d0 : 0 ≤ d) (d1 : d ≤ 3) : dby (a * 400 + 1 + (b * 100 + c * 4 + d)) = 146097 * a + 36524 * b + 1461 * c + 365 * d := by
  have e : a * 400 + 1 + (b * 100 + c * 4 + d) - 1 = a * 400 + b * 100 + c * 4 + d := by omega
  have q1 : (a * 400 + b * 100 + c * 4 + d) / 4 = 100 * a + 25 * b + c := by omega
  have q2 : (a * 400 + b * 100 + c * 4 + d) / 100 = 4 * a + b := by omega
  have q3 : (a * 400 + b * 100 + c * 4 + d) / 400 = a := by omega
  unfold dby
  rw [e, q1, q2, q3]
  omega
theorem leap_dec {a b c d : Int} (b0 : 0 ≤ b) (b1 : b ≤ 3) (c0 : 0 ≤ c) (c1 : c ≤ 24) (d0 : 0 ≤ d) (d1 : d ≤ 3) : leap (a * 400 + 1 + (b * 100 + c * 4 + d)) = true ↔ (d = 3 ∧ (c ≠ 24 ∨ b = 3)) := by
  rw [leap_iff]; omega
/-- what _ord2ymd's four divmods tell -/
structure Dec (n a b c d r1 r2 r3 r4 : Int) : Prop where
  e0 : n - 1 = 146097 * a + r1
  e1 : r1 = 36524 * b + r2
  e2 : r2 = 1461 * c + r3
  e3 : r3 = 365 * d + r4
  l1 : 0 ≤ r1
  u1 : r1 < 146097
  l2 : 0 ≤ r2
  u2 : r2 < 36524
  l3 : 0 ≤ r3
  u3 : r3 < 1461
  l4 : 0 ≤ r4
  u4 : r4 < 365
theorem Dec.last {n a b c d r1 r2 r3 r4 : Int} (D : Dec n a b c d r1 r2 r3 r4) (h : d = 4 ∨ b = 4) : r4 = 0 ∧ Valid (a * 400 + 1 + (b * 100 + c * 4 + d) - 1) 12 31 ∧ ord (a * 400 + 1 + (b * 100 + c * 4 + d) - 1) 12 31 = n := by
  obtain ⟨e0, e1, e2, e3, l1, u1, l2, u2, l3, u3, l4, u4⟩ := D
  refine ⟨by omega, ?_, ?_⟩
  · simp [Valid, dim, dimT]
  · have key : dby (a * 400 + 1 + (b * 100 + c * 4 + d)) = n := by
      rcases h with h | h
      · subst h
        have := dby_dec (a := a) (b := b) (c := c + 1) (d := 0) (by omega) (by omega) (by omega) (by omega) (by omega) (by omega)
        rw [show a * 400 + 1 + (b * 100 + c * 4 + 4) = a * 400 + 1 + (b * 100 + (c + 1) * 4 + 0) by omega, this]
        omega
      · subst h
        have := dby_dec (a := a + 1) (b := 0) (c := c) (d := d) (by omega) (by omega) (by omega) (by omega) (by omega) (by omega)
        rw [show a * 400 + 1 + (4 * 100 + c * 4 + d) = (a + 1) * 400 + 1 + (0 * 100 + c * 4 + d) by omega, this]
        omega
    have h2 := dby_succ (a * 400 + 1 + (b * 100 + c * 4 + d) - 1)
    rw [show a * 400 + 1 + (b * 100 + c * 4 + d) - 1 + 1 = a * 400 + 1 + (b * 100 + c * 4 + d) by omega, key] at h2
    simp only [ord, dbm, dbmT]
    simp
    omega
theorem Dec.year {n a b c d r1 r2 r3 r4 : Int} (D : Dec n a b c d r1 r2 r3 r4) (hd : d ≠ 4) (hb : b ≠ 4) : (leap (a * 400 + 1 + (b * 100 + c * 4 + d)) = true ↔ (d = 3 ∧ (c ≠ 24 ∨ b = 3))) ∧ n - 1 = dby (a * 400 + 1 + (b * 100 + c * 4 + d)) + r4 ∧ 0 ≤ r4 ∧ r4 < 365 + lpd (a * 400 + 1 + (b * 100 + c * 4 + d)) := by
  obtain ⟨e0, e1, e2, e3, l1, u1, l2, u2, l3, u3, l4, u4⟩ := D
  have := lpd_01 (a * 400 + 1 + (b * 100 + c * 4 + d))
  refine ⟨leap_dec (by omega) (by omega) (by omega) (by omega) (by omega) (by omega), ?_, l4, by omega⟩
  rw [dby_dec (by omega) (by omega) (by omega) (by omega) (by omega) (by omega)]
  omega
theorem month_hi {y r m : Int} (h0 : 0 ≤ r) (h1 : r < 365) (l : 32 * m ≤ r + 50) (u : r + 50 < 32 * m + 32) : 1 ≤ m ∧ m ≤ 12 ∧ (r < dbm y m → 2 ≤ m ∧ dbm y (m - 1) ≤ r) ∧ (dbm y m ≤ r → r < dbm y m + dim y m) := by
  have hl := lpd_01 y
  have a1 : 1 ≤ m := by omega
  have a2 : m ≤ 12 := by omega
  refine ⟨a1, a2, ?_, ?_⟩
  · rcases m12 a1 a2 with e | e | e | e | e | e | e | e | e | e | e | e <;> subst e <;> simp [dbm, dbmT] <;> omega
  · rcases m12 a1 a2 with e | e | e | e | e | e | e | e | e | e | e | e <;> subst e <;> simp [dbm, dbmT, dim, dimT] <;> omega
end
section

end
section

end
section

end
section
/-- the Monday of the year's first week -/
def mon (y : Int) : Int := if 3 < (dby y + dbm y 1 + 1 + 6).fmod 7 then dby y + dbm y 1 + 1 - (dby y + dbm y 1 + 1 + 6).fmod 7 + 7 else dby y + dbm y 1 + 1 - (dby y + dbm y 1 + 1 + 6).fmod 7
/-- the year's weeks -/
def weeks (y : Int) : Int := if (dby y + dbm y 1 + 1).fmod 7 = 4 ∨ ((dby y + dbm y 1 + 1).fmod 7 = 3 ∧ leap y = true) then 53 else 52
def num (y k d : Int) : Int := mon y + ((k - 1) * 7 + (d - 1))
theorem fm7 (x : Int) : x.fmod 7 = x % 7 := Int.fmod_eq_emod_of_nonneg _ (by decide)
theorem weeks_cases (y : Int) : weeks y = 52 ∨ weeks y = 53 := by unfold weeks; split <;> simp
theorem weeks_53 {y : Int} : weeks y = 53 ↔ ((dby y + dbm y 1 + 1).fmod 7 = 4 ∨ ((dby y + dbm y 1 + 1).fmod 7 = 3 ∧ leap y = true)) := by
  unfold weeks; split <;> simp_all
theorem lpd_leap {y : Int} : leap y = true ↔ lpd y = 1 := by unfold lpd; split <;> simp_all
theorem mon_succ (y : Int) : mon (y + 1) = mon y + 7 * weeks y := by
  have h := dby_succ y
  have h2 := lpd_01 y
  have h3 := lpd_leap (y := y)
  have e : ∀ z, mon z = if 3 < dby z % 7 then dby z + 1 - dby z % 7 + 7 else dby z + 1 - dby z % 7 := fun z => by
    unfold mon
    rw [dbm_1, fm7, show (dby z + 0 + 1 + 6) % 7 = dby z % 7 by omega]
    simp
  have w := weeks_53 (y := y)
  have c := weeks_cases y
  rw [dbm_1, fm7, h3] at w
  rw [e, e, h]
  split <;> split <;> omega
theorem mon_near (y : Int) : dby y - 2 ≤ mon y ∧ mon y ≤ dby y + 4 := by
  unfold mon
  rw [dbm_1, fm7]
  split <;> omega
theorem ord_1228 (y : Int) : ord y 12 28 = dby (y + 1) - 3 := by
  have h := dby_succ y
  unfold ord
  rw [h]
  simp [dbm, dbmT]
  omega
theorem dec28 (y : Int) : ∃ d : Int, 1 ≤ d ∧ d ≤ 7 ∧ ord y 12 28 = num y (weeks y) d := by
  have a := mon_near (y + 1)
  have b := mon_succ y
  have c := ord_1228 y
  refine ⟨ord y 12 28 - (mon y + ((weeks y - 1) * 7)) + 1, by omega, by omega, ?_⟩
  unfold num
  omega
theorem valid_1228 (y : Int) : Valid y 12 28 := by simp [Valid, dim, dimT]
theorem mon_1 : num 1 1 1 = ord 1 1 1 := by decide +kernel
theorem valid_111 : Valid 1 1 1 := by simp [Valid, dim, dimT]
theorem told_111 {a b c : Int} (hV : Valid a b c) (hO : ord a b c = num 1 1 1) : a = 1 ∧ b = 1 ∧ c = 1 := ord_inj hV valid_111 (by rw [hO, mon_1])
/-- the runs a, a + 1, .. : n of them -/
def wsum : Nat → Int → Int
  | 0, _ => 0
  | n + 1, a => wsum n a + weeks (a + (n : Int))
theorem wsum_mon (a : Int) (n : Nat) : 7 * wsum n a = mon (a + (n : Int)) - mon a := by
  induction n with
  | zero => simp [wsum]
  | succ n ih =>
    have := mon_succ (a + (n : Int))
    rw [wsum]
    rw [show a + ((n + 1 : Nat) : Int) = a + (n : Int) + 1 by omega]
    omega
theorem iso_cases {y k : Int} (h2 : k ≤ weeks y) : k < 53 ∨ (k = 53 ∧ (dby y + dbm y 1 + 1).fmod 7 = 4) ∨ (k = 53 ∧ (dby y + dbm y 1 + 1).fmod 7 = 3 ∧ leap y = true) := by
  have c := weeks_cases y
  by_cases e : k = 53
  · have w := weeks_53.mp (show weeks y = 53 by omega)
    rcases w with w | w
    · exact Or.inr (Or.inl ⟨e, w⟩)
    · exact Or.inr (Or.inr ⟨e, w⟩)
  · left; omega
theorem iso_no {y k : Int} (h1 : k ≤ 53) (h2 : ¬ k ≤ weeks y) : k = 53 ∧ (dby y + dbm y 1 + 1).fmod 7 ≠ 4 ∧ ((dby y + dbm y 1 + 1).fmod 7 ≠ 3 ∨ leap y = false) := by
  have c := weeks_cases y
  have w := weeks_53 (y := y)
  refine ⟨by omega, fun e => ?_, ?_⟩
  · have := w.mpr (Or.inl e); omega
  · by_cases e : (dby y + dbm y 1 + 1).fmod 7 = 3
    · right
      cases hl : leap y with
      | false => rfl
      | true => have := w.mpr (Or.inr ⟨e, hl⟩); omega
    · left; exact e
theorem w_mon1 {y : Int} (h : 3 < (dby y + dbm y 1 + 1 + 6).fmod 7) : dby y + dbm y 1 + 1 - (dby y + dbm y 1 + 1 + 6).fmod 7 + 7 = mon y := by
  unfold mon; rw [if_pos h]
theorem w_mon2 {y : Int} (h : ¬ 3 < (dby y + dbm y 1 + 1 + 6).fmod 7) : dby y + dbm y 1 + 1 - (dby y + dbm y 1 + 1 + 6).fmod 7 = mon y := by
  unfold mon; rw [if_neg h]
theorem weeks_lo (y : Int) : 52 ≤ weeks y := by have := weeks_cases y; omega
theorem weeks_hi (y : Int) : weeks y ≤ 53 := by have := weeks_cases y; omega
end
section
section
variable {prog : Program} {w : World} {A : Around} {E : Value → Shared → Prop} {s : Shared} {h₀ : Heap} {L : Addr} {m : Str → Option Value} {news : List (Addr × Obj)}
/-- an item of a written list of the top's, at a place from 1 to 12 -/
theorem tab_item {l : Addr} {K : Frag} {value slice : PySem.Expr} {k : Int} {u : Tok} {Q : Value → Shared → Prop}
    {its : Array Value} {n : Nat} {d : Option Addr} {sl : Array (Option Value)} (f : Int → Int) (F : Fr h₀ L s.heap m) (X : K.In h₀) (ho : K.lookup l = some { cls := .type "list", dict := d, data := .seq its n, slots := sl }) (h1 : 1 ≤ k) (h2 : k ≤ 12)
    (hx : ∀ k : Int, 1 ≤ k → k ≤ 12 → ∃ t, its[k.toNat]? = some (Value.int (f k) t))
    (hs : subscripted slice false (.ref l) (.int k u) = operate [.ref l, .int k u] (getItem (.ref l) (.int k u)))
    (h : ∀ t, Q (.int (f k) t) s) : wpAny (model prog w) A (subscriptTail value slice (.ref l) (.int k u)) Q E s := by
  have hl := kun_topL F X ho
  obtain ⟨t, ht⟩ := hx k h1 h2
  exact tail_any hl.typeIs slot_list_getitem.lookup (wpAny_getItem_list hl (by omega) (by omega) ht (h t)) hs
/-- divmod by a positive number: two letters and what is known of them -/
theorem divmod_gen {a b : Int} {t u : Tok} {Q : Value → Shared → Prop} (F : Fr h₀ L s.heap m) (N : News h₀ L s.heap news) (hb : 0 < b) (hb2 : b < 1073741824)
    (h : ∀ q r D h' t1 t2 tk, a = b * q + r → 0 ≤ r → r < b → Fr h₀ L h' m → News h₀ L h' ((D, { cls := .type "tuple", data := .seq #[.int q t1, .int r t2] }) :: news) → AllLt D news → Q (.ref D) { s with heap := h', toks := tk }) :
    wpAny (model prog w) A (call (.builtin "divmod") [.int a t, .int b u]) Q E s := by
  refine divmod_N F N (by omega) (fun h' F' N' => ?_) (Or.inl (PyProof.noPylong_small (by omega)))
  refine h (a.fdiv b) (a.fmod b) _ h' _ _ _ ?_ ?_ ?_ F' N' (allLt_of fun p hp => Heap.lt_size (N p hp).1)
  · have := Int.mul_fdiv_add_fmod a b; omega
  · exact Int.fmod_nonneg_of_pos a hb
  · exact Int.fmod_lt_of_pos a hb
theorem rshift5_gen {a : Int} {t u : Tok} {Q : Value → Shared → Prop} (h : ∀ q t', 32 * q ≤ a → a < 32 * q + 32 → Q (.int q t') { s with toks := s.toks + 1 }) :
    wpAny (model prog w) A (binaryOp .RShift (.int a t) (.int 5 u)) Q E s := by
  refine rshift_int (by decide) ?_
  have e : a.fdiv (2 ^ Int.toNat 5) = a / 32 := by
    show a.fdiv 32 = _
    exact Int.fdiv_eq_ediv_of_nonneg _ (by decide)
  rw [e]
  exact h _ _ (by omega) (by omega)
theorem cmp_bool_tt {b c : Bool} {Q : Value → Shared → Prop} (e : b = c) (h : Q (.bool true) s) : wpAny (model prog w) A (compareOp .Eq (.bool b) (.bool c)) Q E s := by
  subst e
  refine eq_bool ?_
  rw [show (b == b) = true by cases b <;> rfl]
  exact h
end
/-- a cut: what is walked gives back one bool, and nothing is changed -/
def CutB (h₀ : Heap) (L : Addr) (m : Str → Option Value) (news : List (Addr × Obj)) (s : Shared) (b : Bool) (v : Value) (s' : Shared) : Prop :=
  ∃ (tk : Nat) (h' : Heap), v = .bool b ∧ s' = { s with heap := h', toks := tk } ∧ Fr h₀ L h' m ∧ News h₀ L h' news
theorem CutB.intro {h₀ : Heap} {L : Addr} {m : Str → Option Value} {news : List (Addr × Obj)} {s : Shared} {b c : Bool} {tk : Nat} {h' : Heap} (F : Fr h₀ L h' m) (N : News h₀ L h' news) (e : c = b) : CutB h₀ L m news s b (.bool c) { s with heap := h', toks := tk } := ⟨tk, h', by rw [e], rfl, F, N⟩
theorem cut_bool {M : Model} {A : Around} {E Q : Value → Shared → Prop} {s : Shared} {h₀ : Heap} {L : Addr} {m : Str → Option Value} {news : List (Addr × Obj)} {cm : Sem Value} (b : Bool) (_F : Fr h₀ L s.heap m) (_N : News h₀ L s.heap news)
    (h1 : wpAny M A cm (fun v s' => CutB h₀ L m news s b v s') E s) (h2 : ∀ tk h', Fr h₀ L h' m → News h₀ L h' news → Q (.bool b) { s with heap := h', toks := tk }) : wpAny M A cm Q E s := by
  refine wpAny_mono h1 (fun v s₂ hq => ?_) fun _ _ h => h
  obtain ⟨tk, h', rfl, rfl, F, N⟩ := hq
  exact h2 tk h' F N
theorem cut_iff {M : Model} {A : Around} {E Q : Value → Shared → Prop} {s : Shared} {h₀ : Heap} {L : Addr} {m : Str → Option Value} {news : List (Addr × Obj)} {cm : Sem Value} {b : Bool} {P : Prop} (_hb : b = true ↔ P) (_F : Fr h₀ L s.heap m) (_N : News h₀ L s.heap news)
    (h1 : wpAny M A cm (fun v s' => CutB h₀ L m news s b v s') E s) (h2 : ∀ tk h', Fr h₀ L h' m → News h₀ L h' news → Q (.bool b) { s with heap := h', toks := tk }) : wpAny M A cm Q E s := cut_bool b _F _N h1 h2
theorem w_y1 {b c d : Int} (h1 : d = 3) (h2 : c ≠ 24) : (c != 24) = true ↔ (d = 3 ∧ (c ≠ 24 ∨ b = 3)) := by simp [h1, h2]
theorem w_y2 {b c d : Int} (h1 : d = 3) (h2 : c = 24) : (b == 3) = true ↔ (d = 3 ∧ (c ≠ 24 ∨ b = 3)) := by simp [h1, h2]
theorem w_y3 {b c d : Int} (h1 : d ≠ 3) : (d == 3) = true ↔ (d = 3 ∧ (c ≠ 24 ∨ b = 3)) := by simp [h1]
theorem w_gt {q : Int} {z : Bool} (h : 2 < q) : z = true ↔ (2 < q ∧ z = true) := by simp [h]
theorem w_ngt {q : Int} {z : Bool} (h : ¬ 2 < q) : decide (2 < q) = true ↔ (2 < q ∧ z = true) := by simp [h]
theorem w_eq {q : Int} {z : Bool} (h : q = 2) : z = true ↔ (q = 2 ∧ z = true) := by simp [h]
theorem w_neq {q : Int} {z : Bool} (h : q ≠ 2) : (q == 2) = true ↔ (q = 2 ∧ z = true) := by simp [h]
theorem iff_bool {b c : Bool} (h : b = true ↔ c = true) : b = c := by cases b <;> cases c <;> simp_all
theorem o2y_year {n a b c d r1 r2 r3 r4 : Int} (D : Dec n a b c d r1 r2 r3 r4) (hd : d ≠ 4) (hb : b ≠ 4) : ∃ (z : Bool) (Y : Int), Y = a * 400 + 1 + (b * 100 + c * 4 + d) ∧ z = leap (a * 400 + 1 + (b * 100 + c * 4 + d)) ∧ z = leap Y ∧ (z = true ↔ (d = 3 ∧ (c ≠ 24 ∨ b = 3))) ∧ n - 1 = dby Y + r4 := by
  obtain ⟨h1, h2, h3, h4⟩ := D.year hd hb
  exact ⟨_, _, rfl, rfl, rfl, h1, h2⟩
theorem o2y_month {n Y r q : Int} (_hn : n - 1 = dby Y + r) (h0 : 0 ≤ r) (h1 : r < 365) (l : 32 * q ≤ r + 50) (u : r + 50 < 32 * q + 32) : 1 ≤ q ∧ q ≤ 12 ∧ (r < dbm Y q → 2 ≤ q ∧ dbm Y (q - 1) ≤ r) ∧ (dbm Y q ≤ r → r < dbm Y q + dim Y q) := month_hi h0 h1 l u
theorem o2y_gt2 {z : Bool} {Y q : Int} (hz : z = leap Y) : ∃ b : Bool, (b = true ↔ (2 < q ∧ z = true)) ∧ dbmT q + (if b = true then 1 else 0) = dbm Y q := by
  refine ⟨decide (2 < q ∧ z = true), by simp, ?_⟩
  subst hz
  unfold dbm lpd
  by_cases h : 2 < q <;> by_cases h' : leap Y = true <;> simp [h, h']
theorem o2y_eq2 {z : Bool} {Y q : Int} (hz : z = leap Y) : ∃ b : Bool, (b = true ↔ (q = 2 ∧ z = true)) ∧ dimT q + (if b = true then 1 else 0) = dim Y q := by
  refine ⟨decide (q = 2 ∧ z = true), by simp, ?_⟩
  subst hz
  unfold dim lpd
  by_cases h : q = 2 <;> by_cases h' : leap Y = true <;> simp [h, h']
theorem o2y_endA {n Y Y' r q P S : Int} (hn : n - 1 = dby Y + r) (hlt : r < P) (h7 : P = dbm Y q) (h6 : S = dim Y (q - 1)) (m2 : q ≤ 12) (m3 : r < dbm Y q → 2 ≤ q ∧ dbm Y (q - 1) ≤ r) (hy : Y = Y') :
    0 ≤ r - (P - S) ∧ r - (P - S) < dim Y' (q - 1) ∧ Valid Y' (q - 1) (r - (P - S) + 1) ∧ ord Y' (q - 1) (r - (P - S) + 1) = n := by
  subst hy
  obtain ⟨a, b⟩ := m3 (by omega)
  have e := dbm_step (y := Y) (m := q - 1) (by omega) (by omega)
  rw [show q - 1 + 1 = q by omega] at e
  refine ⟨by omega, by omega, ⟨by omega, by omega, by omega, by omega⟩, ?_⟩
  unfold ord
  omega
theorem o2y_endB {n Y Y' r q P : Int} (hn : n - 1 = dby Y + r) (hlt : ¬ r < P) (h7 : P = dbm Y q) (m1 : 1 ≤ q) (m2 : q ≤ 12) (m4 : dbm Y q ≤ r → r < dbm Y q + dim Y q) (hy : Y = Y') :
    0 ≤ r - P ∧ r - P < dim Y' q ∧ Valid Y' q (r - P + 1) ∧ ord Y' q (r - P + 1) = n := by
  subst hy
  have a := m4 (by omega)
  refine ⟨by omega, by omega, ⟨by omega, by omega, by omega, by omega⟩, ?_⟩
  unfold ord
  omega
theorem news_keep4 {h₀ h : Heap} {L : Addr} {x a b c d : Addr × Obj} {news : List (Addr × Obj)} (N : News h₀ L h (x :: a :: b :: c :: d :: news)) : News h₀ L h (x :: news) := fun p hp => N p (by
  rcases List.mem_cons.mp hp with rfl | hp
  · exact List.mem_cons_self
  · simp [hp])
end
section
theorem pad_len {ns zs : List Int} {k : Nat} (hz : zs.length = k) : (List.take k ns ++ List.drop (ns.length : Int).toNat zs).length = k := by
  rw [List.length_append, List.length_take, List.length_drop, Int.toNat_natCast, hz]; omega
/-- the test of a comprehension says no, and nothing is changed -/
def NoOk (s : Shared) (h : Heap) (ok : Bool) (s' : Shared) : Prop := ok = false ∧ ∃ tk, s' = { s with heap := h, toks := tk }
section
open LCg LCt
variable {prog : Program} {w : World} {A : Around} {E : Value → Shared → Prop} {s : Shared} {h₀ : Heap} {L : Addr} {m : Str → Option Value} {env : Env}
def TestNo (prog : Program) (w : World) (A : Around) (h₀ : Heap) (L : Addr) (m : Str → Option Value) (env : Env) (ct : Expr) (x : Str) (scope : Scope) (cl : List (Str × Addr)) : Prop :=
  ∀ (n : Int) (t : Tok) (I : Addr) (oI : Obj) (C : Addr) (oC : Obj) (D : Addr) (oD : Obj) (m₂ : Str → Option Value) (h : Heap) (tk : Nat) (E' : Value → Shared → Prop) (s₂ : Shared) (news : List (Addr × Obj)), NsObj oC m₂ → m₂ x = some (Value.int n t) → Fr h₀ L h m → News h₀ L h ((I, oI) :: (C, oC) :: (D, oD) :: news) →
    wpAny (model prog w) A (isTrue ct (compEnvC scope cl C env) (eval ct (compEnvC scope cl C env))) (fun ok s' => NoOk s₂ h ok s') E' { s₂ with heap := h, toks := tk }
theorem no_rest {ct elt : Expr} {x : Str} {scope : Scope} {cl : List (Str × Addr)} {S : List (Addr × Obj) → Prop} {P : Nat → Value → Prop} {Fin : List Value → List (Addr × Obj) → Prop} {news : List (Addr × Obj)} (T : TestNo prog w A h₀ L m env ct x scope cl)
    (hP : ∀ i v, P i v → ∃ n t, v = Value.int n t) (hS : S news) (hF : Fin [] news) : ∀ k i, CompRestT prog w A h₀ L m env ct elt x scope cl s S P Fin k i [] news
  | 0, _ => hF
  | k + 1, i => by
    refine CompRestT.succ fun v I oI C oC D m₂ h tk E' hv hC hx F N off ne => ?_
    obtain ⟨n, t, rfl⟩ := hP _ _ hv
    refine wpAny_mono (T n t I oI C oC D _ m₂ h tk E' s news hC hx F N) (fun ok s' hq => ?_) fun _ _ e => e
    obtain ⟨rfl, tk', rfl⟩ := hq
    simp only [Bool.false_eq_true, if_false]
    exact CompEnd.intro F N news (fun p hp => hp) off hS (no_rest T hP hS hF k (i + 1))
def SrcNo (h₀ : Heap) (L : Addr) (m : Str → Option Value) (Q : Value → Shared → Prop) (xv : Value) (s₁ : Shared) : Prop :=
  ∃ ax its news, xv = Value.ref ax ∧ Fr h₀ L s₁.heap m ∧ News h₀ L s₁.heap news ∧ (∃ o, (ax, o) ∈ news ∧ (o.cls = .type "tuple" ∨ o.cls = .type "list") ∧ ∃ n, o.data = .seq its n) ∧ its.size ≤ sizeLine ∧ (∀ (i : Nat) v, its[i]? = some v → ∃ n t, v = Value.int n t) ∧ ∀ g, FinE h₀ L m { s₁ with heap := g } Q [] news
theorem SrcNo.intro {Q : Value → Shared → Prop} {s₁ : Shared} {ax : Addr} {T : String} {its : Array Value} {n : Nat} {news : List (Addr × Obj)} (F : Fr h₀ L s₁.heap m) (N : News h₀ L s₁.heap news) (hm : (ax, ({ cls := .type T, data := .seq its n } : Obj)) ∈ news) (hT : T = "tuple" ∨ T = "list") (hz : its.size ≤ sizeLine)
    (hi : ∀ (i : Nat) v, its[i]? = some v → ∃ n t, v = Value.int n t) (h : ∀ D h' tk, Fr h₀ L h' m → News h₀ L h' ((D, lst []) :: news) → Off1 D news → Q (.ref D) { s₁ with heap := h', toks := tk }) : SrcNo h₀ L m Q (.ref ax) s₁ :=
  ⟨ax, its, news, rfl, F, N, ⟨_, hm, hT.elim (fun e => .inl (by rw [e])) (fun e => .inr (by rw [e])), _, rfl⟩, hz, hi, fun _ D h' tk F' N' O => h D h' tk F' N' O⟩
theorem all_ints {its : Array Value} (h : ∀ v ∈ its.toList, ∃ n t, v = Value.int n t) : ∀ (i : Nat) v, its[i]? = some v → ∃ n t, v = Value.int n t := fun i v hv => h v (by
  have := Array.mem_of_getElem? hv
  simpa using this)
theorem ints_nil : ∀ v ∈ ([] : List Value), ∃ n t, v = Value.int n t := fun _ h => nomatch h
theorem ints_cons {n : Int} {t : Tok} {r : List Value} (h : ∀ v ∈ r, ∃ n t, v = Value.int n t) : ∀ v ∈ Value.int n t :: r, ∃ n t, v = Value.int n t := fun v hv => by
  rcases List.mem_cons.mp hv with rfl | hv
  · exact ⟨_, _, rfl⟩
  · exact h v hv
theorem comp_no {ct elt iter : Expr} {x : Str} {px : Pos} {scope : Scope} {cl : List (Str × Addr)} {pos : Pos} {Q : Value → Shared → Prop} (F₀ : Fr h₀ L s.heap m) (hh : A.handled = none)
    (hclos : closureFor scope env = pure cl) (hcell : ∀ y ∈ scope.names, y.2 ≠ .cell) (hkind : scope.kind = .function)
    (hnames : ∀ y ∈ scope.names, y.2 = .local → scope.names.lookup y.1 = some .local) (hx : scope.names.lookup x = some .local)
    (T : TestNo prog w A h₀ L m env ct x scope cl)
    (h : wpAny (model prog w) A (eval iter env) (fun xv s₁ => SrcNo h₀ L m Q xv s₁) E s)
    (hs : ∀ x, foldedSetIterable iter env x = pure x := by intro _; rfl) :
    wpAny (model prog w) A (eval (.ListComp elt [⟨.Name x px, iter, [ct], 0⟩] scope pos) env) Q E s := by
  rw [eval_ListComp]
  refine wpAny_comprehension_free (use := none) rfl hs hclos hkind hnames (wpAny_mono h (fun xv s₁ h₁ => ?_) fun _ _ e => e)
  obtain ⟨ax, its, news, rfl, F, N, ⟨o, hm, hc, n, hd⟩, hsz, hi, fin⟩ := h₁
  have hget : s₁.heap.get? ax = some o := (N _ hm).1
  have hlt : ax < s₁.heap.objs.size := Heap.lt_size hget
  rcases hc with hc | hc
  · have hl : s₁.heap.IsTuple ax its := ⟨o, hget, hc, n, hd⟩
    refine wpAny_pyIter_tuple hl ?_
    have up : ∀ b o, s₁.heap.get? b = some o → (s₁.heap.push { cls := .type "tuple_iterator", data := .fields #[.ref ax, .int 0 0] }).get? b = some o := fun b o e => Heap.get?_push_of_some _ e
    refine block_T (Walks.tuple hh s₁.heap.objs.size ax (Nat.ne_of_lt hlt) its) hsz (fun i h st => by obtain ⟨o, e, _⟩ := st.1; exact ⟨o, e⟩) (S := fun nw => (ax, o) ∈ nw) (fun i h h' o' nw st e e' k N' S => ⟨by obtain ⟨o'', q, r⟩ := st.1; rw [e] at q; cases q; exact ⟨o', e', r⟩, ⟨o, (N' _ S).1, hc, n, hd⟩⟩) hcell hkind hx ⟨⟨_, Heap.get?_push_size _ rfl, rfl, rfl⟩, hl.push _⟩ (fun b hb => ?_)
      (F.keeps up) (N.grown up) (Nat.ne_of_lt F.ns.lt) (next_is_new F) (fun p hp => Nat.ne_of_lt (Heap.lt_size (N p hp).1)) hm (no_rest T hi hm (fin s₁.heap) _ _) ?_
    · show b < (s₁.heap.push _).objs.size
      rw [Heap.size_push]
      rcases List.mem_cons.mp hb with rfl | hb
      · exact Nat.lt_succ_self _
      · rw [List.mem_singleton.mp hb]; exact Nat.lt_succ_of_lt hlt
    · intro D C h tk m' ys news' F' N' o1 hn hC₀ hD₀ hCL hDL hCD offC fin
      refine ⟨m', hn, fun h'' hs'' => fin D h'' tk (F'.change hs'' hCL hC₀) (fun p hp => ?_) o1⟩
      refine ⟨hs''.extBut _ _ ?_ (N' p hp).1, (N' p hp).2⟩
      rcases List.mem_cons.mp hp with rfl | hp
      · exact Ne.symm hCD
      · exact offC p hp
  · have hl : s₁.heap.IsList ax its := ⟨o, hget, hc, n, hd⟩
    refine wpAny_pyIter_list hl ?_
    have up : ∀ b o, s₁.heap.get? b = some o → (s₁.heap.push { cls := .type "list_iterator", data := .fields #[.ref ax, .int 0 0] }).get? b = some o := fun b o e => Heap.get?_push_of_some _ e
    refine block_T (Walks.list hh s₁.heap.objs.size ax (Nat.ne_of_lt hlt) its) hsz (fun i h st => by obtain ⟨o, e, _⟩ := st.1; exact ⟨o, e⟩) (S := fun nw => (ax, o) ∈ nw) (fun i h h' o' nw st e e' k N' S => ⟨by obtain ⟨o'', q, r⟩ := st.1; rw [e] at q; cases q; exact ⟨o', e', r⟩, ⟨o, (N' _ S).1, hc, n, hd⟩⟩) hcell hkind hx ⟨⟨_, Heap.get?_push_size _ rfl, rfl, rfl⟩, hl.push _⟩ (fun b hb => ?_)
      (F.keeps up) (N.grown up) (Nat.ne_of_lt F.ns.lt) (next_is_new F) (fun p hp => Nat.ne_of_lt (Heap.lt_size (N p hp).1)) hm (no_rest T hi hm (fin s₁.heap) _ _) ?_
    · show b < (s₁.heap.push _).objs.size
      rw [Heap.size_push]
      rcases List.mem_cons.mp hb with rfl | hb
      · exact Nat.lt_succ_self _
      · rw [List.mem_singleton.mp hb]; exact Nat.lt_succ_of_lt hlt
    · intro D C h tk m' ys news' F' N' o1 hn hC₀ hD₀ hCL hDL hCD offC fin
      refine ⟨m', hn, fun h'' hs'' => fin D h'' tk (F'.change hs'' hCL hC₀) (fun p hp => ?_) o1⟩
      refine ⟨hs''.extBut _ _ ?_ (N' p hp).1, (N' p hp).2⟩
      rcases List.mem_cons.mp hp with rfl | hp
      · exact Ne.symm hCD
      · exact offC p hp
end
end
section
section
variable {prog : Program} {w : World} {A : Around} {E : Value → Shared → Prop} {s : Shared}
theorem mod_gen {a b : Int} {t u : Tok} {Q : Value → Shared → Prop} (hb : 0 < b) (h : ∀ q r t', a = b * q + r → 0 ≤ r → r < b → Q (.int r t') { s with toks := s.toks + 1 }) :
    wpAny (model prog w) A (binaryOp .Mod (.int a t) (.int b u)) Q E s := by
  refine mod_int' (by omega) ?_
  have h1 := Int.mul_fdiv_add_fmod a b
  have h2 := Int.fmod_nonneg_of_pos a hb
  have h3 := Int.fmod_lt_of_pos a hb
  exact h (a.fdiv b) _ _ (by omega) h2 h3
end
section
variable {prog : Program} {w : World} {A : Around} {E : Value → Shared → Prop} {s : Shared}
/-- a remainder by a positive number -/
theorem mod_pos {a b : Int} {t u : Tok} {Q : Value → Shared → Prop} (hb : 0 < b) (h : ∀ r t', 0 ≤ r → r < b → Q (.int r t') { s with toks := s.toks + 1 }) :
    wpAny (model prog w) A (binaryOp .Mod (.int a t) (.int b u)) Q E s :=
  mod_gen hb fun _ r t' _ h2 h3 => h r t' h2 h3
end
end
section
section
variable {prog : Program} {w : World} {A : Around} {E : Value → Shared → Prop} {s : Shared}
abbrev tup3 (a b c : Int) (t u v : Tok) : Obj := { cls := .type "tuple", data := .seq #[.int a t, .int b u, .int c v] }
theorem tup_eq {l k : Addr} {a b c x y z : Int} {t1 t2 t3 u1 u2 u3 : Tok} {Q : Value → Shared → Prop} (ha : s.heap.get? l = some (tup3 a b c t1 t2 t3)) (hb : s.heap.get? k = some (tup3 x y z u1 u2 u3)) (hu : A.units + 64 < cLine) {B : Bool} (e : (a == x && (b == y && c == z)) = B) (h : Q (.bool B) s) :
    wpAny (model prog w) A (compareOp .Eq (.ref l) (.ref k)) Q E s := by
  refine eq_dataH (reads_tuple_at ha rfl rfl (ReadsAll.cons (Reads.int _ _) (ReadsAll.cons (Reads.int _ _) (ReadsAll.cons (Reads.int _ _) ReadsAll.nil)))) (reads_tuple_at hb rfl rfl (ReadsAll.cons (Reads.int _ _) (ReadsAll.cons (Reads.int _ _) (ReadsAll.cons (Reads.int _ _) ReadsAll.nil)))) rfl rfl hu ?_
  simp only [PyData.eqv, PyData.eqvAll, Bool.and_true]
  rw [e]
  exact h
end
end
section
section
open LCg
variable {prog : Program} {w : World} {A : Around} {E : Value → Shared → Prop} {s : Shared} {h₀ : Heap} {L : Addr} {m : Str → Option Value} {env : Env}
/-- an element of a comprehension over ints: one value, nothing else changed -/
def EltOk (h₀ : Heap) (L : Addr) (m : Str → Option Value) (s : Shared) (I : Addr) (oI : Obj) (C : Addr) (oC : Obj) (D : Addr) (oD : Obj) (news : List (Addr × Obj)) (R : Int → Value → Prop) (n : Int) (v : Value) (s' : Shared) : Prop :=
  ∃ (h' : Heap) (tk : Nat), R n v ∧ s' = { s with heap := h', toks := tk } ∧ Fr h₀ L h' m ∧ News h₀ L h' ((I, oI) :: (C, oC) :: (D, oD) :: news)
theorem EltOk.intro {I : Addr} {oI : Obj} {C : Addr} {oC : Obj} {D : Addr} {oD : Obj} {news : List (Addr × Obj)} {R : Int → Value → Prop} {n : Int} {v : Value} {h' : Heap} {tk : Nat} (F : Fr h₀ L h' m) (N : News h₀ L h' ((I, oI) :: (C, oC) :: (D, oD) :: news)) (r : R n v) :
    EltOk h₀ L m s I oI C oC D oD news R n v { s with heap := h', toks := tk } := ⟨h', tk, r, rfl, F, N⟩
def EltIs (prog : Program) (w : World) (A : Around) (h₀ : Heap) (L : Addr) (m : Str → Option Value) (env : Env) (elt : Expr) (x : Str) (scope : Scope) (cl : List (Str × Addr)) (Pn : Int → Prop) (R : Int → Value → Prop) (news : List (Addr × Obj)) : Prop :=
  ∀ (n : Int) (t : Tok) (I : Addr) (oI : Obj) (C : Addr) (oC : Obj) (D : Addr) (oD : Obj) (m₂ : Str → Option Value) (h : Heap) (tk : Nat) (E' : Value → Shared → Prop) (s₂ : Shared), Pn n → NsObj oC m₂ → m₂ x = some (.int n t) → Fr h₀ L h m → News h₀ L h ((I, oI) :: (C, oC) :: (D, oD) :: news) →
    wpAny (model prog w) A (eval elt (compEnvC scope cl C env)) (fun v s' => EltOk h₀ L m s₂ I oI C oC D oD news R n v s') E' { s₂ with heap := h, toks := tk }
theorem map_rest {elt : Expr} {x : Str} {scope : Scope} {cl : List (Str × Addr)} {S : List (Addr × Obj) → Prop} {P : Nat → Value → Prop} {Fin : List Value → List (Addr × Obj) → Prop} {news : List (Addr × Obj)} {Pn : Int → Prop} {R : Int → Value → Prop} {g : Nat → Int} {Acc : Nat → List Value → Prop} {n : Nat}
    (T : EltIs prog w A h₀ L m env elt x scope cl Pn R news) (hP : ∀ i v, i < n → P i v → ∃ t, v = Value.int (g i) t ∧ Pn (g i)) (hS : S news) (hA : ∀ i ys y, i < n → Acc i ys → R (g i) y → Acc (i + 1) (ys ++ [y])) (hF : ∀ ys, Acc n ys → Fin ys news) :
    ∀ k i ys, i + k = n → Acc i ys → CompRest prog w A h₀ L m env elt x scope cl s S P Fin k i ys news
  | 0, i, ys, e, ha => hF ys (by rw [← show i = n by omega]; exact ha)
  | k + 1, i, ys, e, ha => by
    refine CompRest.succ fun v I oI C oC D m₂ h tk E' hv hC hx F N off ne => ?_
    obtain ⟨t, rfl, hp⟩ := hP i v (by omega) hv
    refine wpAny_mono (T (g i) t I oI C oC D _ m₂ h tk E' s hp hC hx F N) (fun v s' hq => ?_) fun _ _ e => e
    obtain ⟨h', tk', hr, rfl, F', N'⟩ := hq
    exact CompEnd.intro F' N' news (fun p hp => hp) off hS (map_rest T hP hS hA hF k (i + 1) (ys ++ [v]) (by omega) (hA i ys v (by omega) ha hr))
def SrcTup (h₀ : Heap) (L : Addr) (m : Str → Option Value) (K : Array Value → List (Addr × Obj) → Shared → Prop) (xv : Value) (s₁ : Shared) : Prop :=
  ∃ ax its news, xv = Value.ref ax ∧ Fr h₀ L s₁.heap m ∧ News h₀ L s₁.heap news ∧ (∃ o, (ax, o) ∈ news ∧ o.cls = .type "tuple" ∧ ∃ n, o.data = .seq its n) ∧ its.size ≤ sizeLine ∧ K its news s₁
end
end
section

end
section
section
variable {prog : Program} {w : World} {A : Around} {E : Value → Shared → Prop} {s : Shared} {h₀ : Heap} {L l : Addr} {m : Str → Option Value} {news : List (Addr × Obj)} {vs : List Value} {ns : List Int}
theorem ints_at : ∀ {vs : List Value} {ns : List Int}, IntsAre vs ns → ∀ {k : Nat} (h : k < ns.length), ∃ t, vs[k]? = some (Value.int ns[k] t)
  | _, _, .nil, _, h => absurd h (by simp)
  | _, _, .cons _ t _, 0, _ => ⟨t, rfl⟩
  | _, _, .cons _ _ r, k + 1, h => by simpa using ints_at r (k := k) (by simpa using h)
/-- an item of a list of ints at a place that lies in it -/
theorem list_item {value slice : PySem.Expr} {k : Int} {u : Tok} {Q : Value → Shared → Prop} (hl : s.heap.IsList l vs.toArray) (hi : IntsAre vs ns) (h0 : 0 ≤ k) (hz : k < 2 ^ 63) (hk : k.toNat < ns.length)
    (hs : subscripted slice false (.ref l) (.int k u) = operate [.ref l, .int k u] (getItem (.ref l) (.int k u)))
    (h : ∀ t, Q (.int ns[k.toNat] t) s) : wpAny (model prog w) A (subscriptTail value slice (.ref l) (.int k u)) Q E s := by
  obtain ⟨t, ht⟩ := ints_at hi hk
  exact tail_any hl.typeIs slot_list_getitem.lookup (wpAny_getItem_list hl h0 hz (by simpa using ht) (h t)) hs
theorem script_item {value slice : PySem.Expr} {k : Int} {u : Tok} {Q : Value → Shared → Prop} (hl : s.heap.IsList l vs.toArray) (hi : IntsAre vs ns) (h0 : 0 ≤ k) (hz : k < 2 ^ 63) (hk : k < (ns.length : Int))
    (hs : subscripted slice false (.ref l) (.int k u) = operate [.ref l, .int k u] (getItem (.ref l) (.int k u)))
    (h : ∀ x t, Q (.int x t) s) : wpAny (model prog w) A (subscriptTail value slice (.ref l) (.int k u)) Q E s :=
  list_item hl hi h0 hz (by omega) hs (h _)
end
end
section
section
open LCg LCt
variable {prog : Program} {w : World} {A : Around} {E : Value → Shared → Prop} {s : Shared} {h₀ : Heap} {L : Addr} {m : Str → Option Value} {env : Env}
end
end
section
/-- a marker: this is the law's year -/
structure Yr (y : Int) : Prop where
  mk ::
theorem dim_one {y m : Int} (h1 : 1 ≤ m) (h2 : m ≤ 12) : 1 ≤ dim y m := by have := dim_pos (y := y) h1 h2; omega
theorem ints_snoc : ∀ {vs : List Value} {ns : List Int}, IntsAre vs ns → ∀ {n : Int} {t : Tok}, IntsAre (vs ++ [Value.int n t]) (ns ++ [n])
  | _, _, .nil, n, t => .cons n t .nil
  | _, _, .cons k u r, _, _ => .cons k u (ints_snoc r)
section
open LCg LCt
variable {prog : Program} {w : World} {A : Around} {E : Value → Shared → Prop} {s₁ : Shared} {h₀ : Heap} {L : Addr} {m : Str → Option Value} {env : Env}
/-- the runs a, a + 1, .. : n of them -/
def runs (a : Int) (n : Nat) : List Int := (List.range n).map fun (i : Nat) => a + (i : Int)
theorem ints_succ (a : Int) (n : Nat) : runs a (n + 1) = runs a n ++ [a + (n : Int)] := by simp [runs, List.range_succ]
/-- a comprehension over a range: f of each int -/
theorem src_map {elt : Expr} {x : Str} {scope : Scope} {cl : List (Str × Addr)} {Fin : Shared → List Value → List (Addr × Obj) → Prop} {r : Addr} {a b : Int} {t u v : Tok} {n : Nat} {news : List (Addr × Obj)} {Pn : Int → Prop} {f : Int → Int}
    (hh : A.handled = none) (F : Fr h₀ L s₁.heap m) (N : News h₀ L s₁.heap news) (hr : IsRange s₁.heap r a b 1 t u v) (hsm : Builtin.Range.small a b 1 = true) (hn : Builtin.Range.rangeSize a b 1 = ((n : Nat) : Int)) (hsz : n ≤ sizeLine)
    (hp : ∀ i : Nat, i < n → Pn (a + (i : Int))) (T : EltIs prog w A h₀ L m env elt x scope cl Pn (fun n v => ∃ t, v = Value.int (f n) t) news)
    (h : ∀ g ys, IntsAre ys ((runs a n).map f) → Fin { s₁ with heap := g } ys news) : CompSrc prog w A h₀ L m env elt x scope cl Fin (.ref r) s₁ := by
  refine CompSrc.range hh F N hr hsm hn hsz fun g => ?_
  refine map_rest (Pn := Pn) (R := fun n v => ∃ t, v = Value.int (f n) t) (g := fun i => a + (i : Int)) (Acc := fun i ys => IntsAre ys ((runs a i).map f)) (n := n) T ?_ trivial ?_ (h g) n 0 [] (by omega) .nil
  · rintro i v hi ⟨t, rfl⟩
    exact ⟨t, rfl, hp i hi⟩
  · rintro i ys y _ ha ⟨t, rfl⟩
    rw [ints_succ, List.map_append]
    exact ints_snoc ha
end
end
section
section
variable {prog : Program} {w : World} {A : Around} {E : Value → Shared → Prop} {s : Shared} {h₀ : Heap} {L l : Addr} {m : Str → Option Value} {news : List (Addr × Obj)} {vs : List Value} {ns : List Int}
theorem ne_known {a b : Int} {t u : Tok} {Q : Value → Shared → Prop} (e : a = b) (h : Q (.bool false) s) : wpAny (model prog w) A (compareOp .NotEq (.int a t) (.int b u)) Q E s := by
  refine ne_int ?_
  rw [show (a != b) = false by simp [e]]
  exact h
end
section
open LCg LCt
variable {prog : Program} {w : World} {A : Around} {E : Value → Shared → Prop} {s₁ : Shared} {h₀ : Heap} {L : Addr} {m : Str → Option Value} {env : Env}
end
theorem news_tail {h₀ h : Heap} {L : Addr} {x : Addr × Obj} {news : List (Addr × Obj)} (N : News h₀ L h (x :: news)) : News h₀ L h news := fun p hp => N p (List.mem_cons_of_mem _ hp)
end
section
section
variable {prog : Program} {w : World} {A : Around} {E : Value → Shared → Prop} {s : Shared} {a b : Int} {t u : Tok} {Q : Value → Shared → Prop}
theorem lt_yes (e : a < b) (h : Q (.bool true) s) : wpAny (model prog w) A (compareOp .Lt (.int a t) (.int b u)) Q E s := lt_int (by rw [decide_eq_true e]; exact h)
theorem lt_no (e : ¬ a < b) (h : Q (.bool false) s) : wpAny (model prog w) A (compareOp .Lt (.int a t) (.int b u)) Q E s := lt_int (by rw [decide_eq_false e]; exact h)
theorem le_yes (e : a ≤ b) (h : Q (.bool true) s) : wpAny (model prog w) A (compareOp .LtE (.int a t) (.int b u)) Q E s := le_int (by rw [decide_eq_true e]; exact h)
theorem eq_yes (e : a = b) (h : Q (.bool true) s) : wpAny (model prog w) A (compareOp .Eq (.int a t) (.int b u)) Q E s := eq_int (by rw [show (a == b) = true by simp [e]]; exact h)
theorem eq_no (e : a ≠ b) (h : Q (.bool false) s) : wpAny (model prog w) A (compareOp .Eq (.int a t) (.int b u)) Q E s := eq_int (by rw [show (a == b) = false by simp [e]]; exact h)
end
theorem num_eq {X y k d : Int} (h : X = mon y + ((k - 1) * 7 + (d - 1))) : X = num y k d := h
def NumV (y k d : Int) (v : Value) : Prop := (k ≤ weeks y ∧ ∃ t, v = .int (num y k d) t) ∨ (weeks y < k ∧ v = .none)
theorem numV_int {y k d a b c : Int} {t : Tok} (h : k ≤ weeks y) (hO : ord a b c = num y k d) : NumV y k d (.int (dby a + dbm a b + c) t) := Or.inl ⟨h, t, by rw [← hO]; rfl⟩
theorem numV_none {y k d : Int} (h : ¬ k ≤ weeks y) : NumV y k d .none := Or.inr ⟨by omega, rfl⟩
end
section
theorem num_ret {h₀ h' : Heap} {L : Addr} {m : Str → Option Value} {news : List (Addr × Obj)} {s : Shared} {Q : Value → Shared → Prop} {x y : Int} {t : Tok} {tk' : Nat}
    (ret : ∀ (t : Tok) (h' : Heap) (tk' : Nat), Fr h₀ L h' m → News h₀ L h' news → Q (.int x t) { s with heap := h', toks := tk' }) (e : y = x) (F : Fr h₀ L h' m) (N : News h₀ L h' news) : Q (.int y t) { s with heap := h', toks := tk' } := by
  subst e
  exact ret t h' tk' F N
/-- back in the caller's frame when a caught exception has turned the frame's slots -/
theorem back_turn {h₀ g g' h : Heap} {L L' : Addr} {m m' : Str → Option Value} {news' : List (Addr × Obj)} (FG : Fr h₀ L g m) (T : KtsTurn [L] g g') (F' : Fr g' L' h m') (N' : News g' L' h news') : Fr h₀ L h m ∧ News h₀ L h news' := by
  have free : h₀.get? L = none := kts_self FG
  obtain ⟨o, es, ep, hL, hd, hk, hm⟩ := FG.ns
  obtain ⟨sl, hs⟩ := T.up hL
  have off : ∀ b o, h₀.get? b = some o → b ∉ [L] := fun b o e q => by
    rw [List.mem_singleton.mp q, free] at e
    cases e
  refine ⟨⟨⟨_, es, ep, F'.keep _ _ hs, hd, hk, hm⟩, fun b o e => F'.keep b o (T.other b o (FG.keep b o e) (off b o e)), FG.above⟩, fun p hp => ?_⟩
  obtain ⟨h1, h2, h3⟩ := N' p hp
  refine ⟨h1, fun q => ?_, ?_⟩
  · rw [q, hs] at h3
    cases h3
  · cases e : h₀.get? p.1 with
    | none => rfl
    | some o' =>
      rw [T.other _ _ (FG.keep _ _ e) (off _ _ e)] at h3
      cases h3
section
variable {prog : Program} {w : World} {A₀ A : Around} {s : Shared} {base h₀ : Heap} {L : Addr} {m : Str → Option Value} {news : List (Addr × Obj)} {K : Frag} {p : Program} {loose : List Str} {mean : ExcName → Option Value} {mg mb : Str → Option Value}
    {R : Result → Shared → Prop} {name qual : Str} {params : Arguments} {body : List Stmt} {scope : Scope} {dV kV doc pm cdv ct oc : Value} {an od : Option Addr} {osl : Array (Option Value)} {f : Addr} {args : Args} {binds : List (Str × Value)} {cn : Str} {cs : Scope} {a : Addr} {ccd : Value} {cl : List (Str × Addr)}
/-- a def is entered from the law's own frame, which may have cells; an exception may be caught within -/
theorem enterT (B : Below A₀ base [] h₀) (F : Fr h₀ L s.heap m) (X₀ : K.In h₀) (N : News h₀ L s.heap news) (T : Top p loose mean mg mb h₀) (hA : A.frames = some [envX cn cs L a ccd cl]) (hke : cs.kind = .function)
    (ho : K.lookup f = some ⟨oc, od, .func (fnOf name qual params body scope dV kV doc pm an cdv ct), osl⟩) (hcd : codeIn K cdv qual = true) (hroom : A.depth < recursionLimit)
    (hbind : BindsTo s (fnOf name qual params body scope dV kV doc pm an cdv ct) args binds) (hloc : ∀ y ∈ binds, scope.names.lookup y.1 = some .local)
    (h : ∀ g L' h₁, Fr h₀ L g m → Fr g L' h₁ (fun y => binds.reverse.lookup y) → News g L' h₁ news → Below A base [envX cn cs L a ccd cl] g → K.In g → Top p loose mean mg mb g → KtsDicts ([envX cn cs L a ccd cl].filterMap (·.frame)) g →
      wpAny (model prog w) (A.deeper (envOf qual scope L' f cdv)) (execs body (envOf qual scope L' f cdv))
        (fun fl s' => LeaveS0 ([envX cn cs L a ccd cl].filterMap (·.frame)) h₀ L m g R (match fl with | .ret v => v | _ => .none) s')
        (fun e s' => wpAny (model prog w) (A.deeper (envOf qual scope L' f cdv)) (leaving (envOf qual scope L' f cdv) e) (fun _ s'' => R (.error e) s'') (fun e' s'' => R (.error e') s'') s')
        { s with heap := h₁, toks := s.toks + binds.length })
    (hco : scope.isCoroutine = false) (hgen : scope.isGenerator = false) (hk : scope.kind = .function)
    (hcell : ∀ x ∈ scope.names, x.2 ≠ .cell) : codeAny (model prog w) A (.call (.ref f) args) R s := by
  obtain ⟨FG, BG, st, _⟩ := groundX (R := R) (env := envX cn cs L a ccd cl) B F N hA rfl hke
  have X := X₀.keeps F.keep
  refine codeAny_call_def (fd := fnOf name qual params body scope dV kV doc pm an cdv ct) (body := body) (binds := binds) hroom (X _ _ ho) rfl (T.nolimit.keeps F.keep) (codeRec_of X hcd) rfl hbind hcell hloc (fun h₁ hns up => ?_) hco hgen hk
  have Fn : Fr (hideAll s.heap (news.map (·.1))) s.heap.objs.size h₁ (fun y => binds.reverse.lookup y) := ⟨hns, fun b o e => up b o (of_hideAll _ e), Nat.le_of_eq (hideAll_size _ _)⟩
  have Nn : News (hideAll s.heap (news.map (·.1))) s.heap.objs.size h₁ news := fun q hq => ⟨up _ _ (N q hq).1, Nat.ne_of_lt (Heap.lt_size (N q hq).1), hideAll_none _ (List.mem_map_of_mem hq)⟩
  have Dn : KtsDicts ([envX cn cs L a ccd cl].filterMap (·.frame)) (hideAll s.heap (news.map (·.1))) := fun b hb => by
    obtain ⟨o, es, ep, e1, e2, _⟩ := FG.ns
    rw [show b = L from List.mem_singleton.mp hb]
    exact ⟨o, es, ep, e1, e2⟩
  refine wpAny_mono (h _ _ h₁ FG Fn Nn BG (X₀.keeps st) (T.keeps st) Dn) (fun fl s' hl => ?_) fun _ _ y => y
  obtain ⟨g', L', m', news', T', F', N', k⟩ := hl
  obtain ⟨r1, r2⟩ := back_turn FG T' F' N'
  exact k r1 r2
end
end
section
/-- a marker: this is the turn's day -/
structure Dy (d : Int) : Prop where
  mk ::
theorem dy_of (r : Int) : Dy (1 + r) := Dy.mk
theorem pad6_len {ns zs : List Int} (hz : zs.length = 6) {k : Int} (h : k < 6) : k < ((List.take 6 ns ++ List.drop (ns.length : Int).toNat zs).length : Int) := by
  rw [pad_len hz]; omega
section
variable {prog : Program} {w : World} {A : Around} {E : Value → Shared → Prop} {s : Shared} {h₀ : Heap} {L l k : Addr} {m : Str → Option Value} {news : List (Addr × Obj)}
theorem min2 {a b : Int} {t u : Tok} {Q : Value → Shared → Prop} (hh : A.handled = none) (F : Fr h₀ L s.heap m) (N : News h₀ L s.heap news)
    (h : ∀ h' tk t', Fr h₀ L h' m → News h₀ L h' news → Q (.int (min a b) t') { s with heap := h', toks := tk }) : wpAny (model prog w) A (call (.builtin "min") [.int a t, .int b u]) Q E s := by
  refine min_two_ints hh fun h' tk up => ?_
  by_cases c : b < a
  · rw [if_pos c]
    have := h h' tk u (F.keeps up) (N.grown up)
    rw [show min a b = b by omega] at this
    exact this
  · rw [if_neg c]
    have := h h' tk t (F.keeps up) (N.grown up)
    rw [show min a b = a by omega] at this
    exact this
/-- two lists of two bools, the same -/
theorem ne_bools {b c : Bool} {n n' : Nat} {Q : Value → Shared → Prop} (N : News h₀ L s.heap news) (hl : (l, ({ cls := .type "list", data := .seq #[.bool b, .bool false] n } : Obj)) ∈ news) (hk : (k, ({ cls := .type "list", data := .seq #[.bool c, .bool false] n' } : Obj)) ∈ news) (hu : A.units + 64 < cLine) (e : b = c) (h : Q (.bool false) s) :
    wpAny (model prog w) A (compareOp .NotEq (.ref l) (.ref k)) Q E s := by
  subst e
  refine ne_dataH (reads_list_at (N _ hl).1 rfl rfl (ReadsAll.cons (Reads.bool _) (ReadsAll.cons (Reads.bool _) ReadsAll.nil))) (reads_list_at (N _ hk).1 rfl rfl (ReadsAll.cons (Reads.bool _) (ReadsAll.cons (Reads.bool _) ReadsAll.nil))) rfl rfl hu ?_
  have : PyData.eqv (.list [.bool b, .bool false]) (.list [.bool b, .bool false]) = true := by cases b <;> decide
  rw [this]
  exact h
end
section
open LCg LCt
variable {prog : Program} {w : World} {A : Around} {E : Value → Shared → Prop} {s₁ : Shared} {h₀ : Heap} {L : Addr} {m : Str → Option Value} {env : Env}
theorem assign_tup {elt iter : Expr} {x y : Str} {px py : Pos} {scope : Scope} {cl : List (Str × Addr)} {pos spos : Pos} {s : Shared} {Q : Flow → Shared → Prop} (_F₀ : Fr h₀ L s.heap m) (hLe : env.locals = L) (hh : A.handled = none)
    (hsw : swapsWith (.ListComp elt [⟨.Name x px, iter, [], 0⟩] scope pos) (some (.Name y py)) spos.line env = pure true)
    (hclos : closureFor scope env = pure cl) (hcell : ∀ z ∈ scope.names, z.2 ≠ .cell) (hkind : scope.kind = .function)
    (hnames : ∀ z ∈ scope.names, z.2 = .local → scope.names.lookup z.1 = some .local) (hx : scope.names.lookup x = some .local)
    (hy : env.kindOf y = some .local) (hp : (env.scope.kind == .class || (env.scope.kind == .module && env.locals != env.globals)) = false)
    (h : wpAny (model prog w) A (eval iter env) (fun xv s₁ => SrcTup h₀ L m (fun its news s₁ => ∀ s₂ : Shared, (∃ h, s₂ = { s₁ with heap := h }) → ∀ S : List (Addr × Obj) → Prop, S news → CompRest prog w A h₀ L m env elt x scope cl s₂ S (fun i v => its[i]? = some v) (FinA h₀ L m s₂ y Q) its.size 0 [] news) xv s₁) E s)
    (hs : ∀ x, foldedSetIterable iter env x = pure x := by intro _; rfl) :
    wpAny (model prog w) A (exec (.Assign [.Name y py] (.ListComp elt [⟨.Name x px, iter, [], 0⟩] scope pos) spos) env) Q E s := by
  subst hLe
  rw [exec_Assign_Name_used _ _ _ _ hsw]
  refine wpAny_bind (wpAny_standAt (wpAny_bind ?_))
  show wpAny _ A (do let _ ← comprehension (.ListComp elt [⟨.Name x px, iter, [], 0⟩] scope pos) scope env _ (newList []) false (eval iter env) (some (assign (.Name y py) env))) _ _ s
  refine wpAny_bind (wpAny_mono (wpAny_comprehension_free (use := some (assign (.Name y py) env)) (Q := fun _ s' => Q .next s') rfl hs hclos hkind hnames
    (wpAny_mono h (fun xv s₁ h₁ => ?_) fun _ _ e => e)) (fun _ s' hq => wpAny_pure (wpAny_pure hq)) fun _ _ e => e)
  obtain ⟨ax, its, news, rfl, F, N, ⟨o, hm, hc, n, hd⟩, hsz, R⟩ := h₁
  have hget : s₁.heap.get? ax = some o := (N _ hm).1
  have hlt : ax < s₁.heap.objs.size := Heap.lt_size hget
  have hl : s₁.heap.IsTuple ax its := ⟨o, hget, hc, n, hd⟩
  refine wpAny_pyIter_tuple hl ?_
  have up : ∀ b o, s₁.heap.get? b = some o → (s₁.heap.push { cls := .type "tuple_iterator", data := .fields #[.ref ax, .int 0 0] }).get? b = some o := fun b o e => Heap.get?_push_of_some _ e
  refine block_U (Walks.tuple hh s₁.heap.objs.size ax (Nat.ne_of_lt hlt) its) hsz (fun i h st => by obtain ⟨o, e, _⟩ := st.1; exact ⟨o, e⟩) (S := fun nw => (ax, o) ∈ nw) (fun i h h' o' nw st e e' k N' S => ⟨by obtain ⟨o'', q, r⟩ := st.1; rw [e] at q; cases q; exact ⟨o', e', r⟩, ⟨o, (N' _ S).1, hc, n, hd⟩⟩) hcell hkind hx ⟨⟨_, Heap.get?_push_size _ rfl, rfl, rfl⟩, hl.push _⟩ (fun b hb => ?_)
    (F.keeps up) (N.grown up) (Nat.ne_of_lt F.ns.lt) (next_is_new F) (fun p hp => Nat.ne_of_lt (Heap.lt_size (N p hp).1)) hm (R _ ⟨_, rfl⟩ _ hm) ?_
  · show b < (s₁.heap.push _).objs.size
    rw [Heap.size_push]
    rcases List.mem_cons.mp hb with rfl | hb
    · exact Nat.lt_succ_self _
    · rw [List.mem_singleton.mp hb]; exact Nat.lt_succ_of_lt hlt
  · intro D C h' tk m' ys news' F' N' o1 hn hC₀ hD₀ hCL hDL hCD offC fin
    show wpAny _ A (assign (.Name y py) env (.ref D)) _ _ _
    refine wpAny_assign_Name (wpAny_storeName_local hy F'.ns (fun h₂ hn₂ hs₂ => ?_) hp)
    have free : h₀.get? env.locals = none := Heap.get?_none_of_le F'.above
    have F₂ : Fr h₀ env.locals h₂ (fun z => if z = y then some (.ref D) else m z) := ⟨hn₂, fun b o e => hs₂.extBut b o (fun q => by rw [q, free] at e; cases e) (F'.keep b o e), F'.above⟩
    refine ⟨m', hn.sameBut hs₂ hCL, fun h'' hs'' => fin D h'' _ (F₂.change hs'' hCL hC₀) (fun p hp => ?_) o1⟩
    refine ⟨hs''.extBut _ _ ?_ (hs₂.extBut _ _ (N' p hp).2.1 (N' p hp).1), (N' p hp).2⟩
    rcases List.mem_cons.mp hp with rfl | hp
    · exact Ne.symm hCD
    · exact offC p hp
theorem src_num {elt : Expr} {x : Str} {scope : Scope} {cl : List (Str × Addr)} {Fin : Shared → List Value → List (Addr × Obj) → Prop} {ax : Addr} {y d k1 k2 : Int} {t1 t2 : Tok} {n : Nat} {news : List (Addr × Obj)}
    (_hY : Yr y) (_hD : Dy d) (F : Fr h₀ L s₁.heap m) (Nw : News h₀ L s₁.heap news) (hm : (ax, ({ cls := .type "tuple", data := .seq #[.int k1 t1, .int k2 t2] n } : Obj)) ∈ news) (a1 : 1 ≤ k1) (a2 : k1 ≤ 53) (b1 : 1 ≤ k2) (b2 : k2 ≤ weeks y)
    (T : EltIs prog w A h₀ L m env elt x scope cl (fun k => 1 ≤ k ∧ k ≤ 53) (fun k v => NumV y k d v) news)
    (h : ∀ g v t, NumV y k1 d v → Fin { s₁ with heap := g } [v, .int (num y k2 d) t] news) :
    SrcTup h₀ L m (fun its news s₁ => ∀ s₂ : Shared, (∃ h, s₂ = { s₁ with heap := h }) → ∀ S : List (Addr × Obj) → Prop, S news → CompRest prog w A h₀ L m env elt x scope cl s₂ S (fun i v => its[i]? = some v) (Fin s₂) its.size 0 [] news) (.ref ax) s₁ := by
  refine ⟨ax, _, news, rfl, F, Nw, ⟨_, hm, rfl, _, rfl⟩, Nat.le_of_ble_eq_true rfl, ?_⟩
  have wc := weeks_cases y
  rintro s₂ ⟨h', rfl⟩ S hS
  refine map_rest (Pn := fun k => 1 ≤ k ∧ k ≤ 53) (R := fun k v => NumV y k d v) (g := fun i => if i = 0 then k1 else k2) (Acc := fun i ys => match i with | 0 => ys = [] | 1 => ∃ v, ys = [v] ∧ NumV y k1 d v | _ => ∃ v u, ys = [v, u] ∧ NumV y k1 d v ∧ NumV y k2 d u) (n := 2) T ?_ hS ?_ ?_ _ _ _ rfl rfl
  · intro i v hi hv
    rcases (show i = 0 ∨ i = 1 by omega) with e | e
    · subst e
      exact ⟨t1, by simpa using hv.symm, a1, a2⟩
    · subst e
      exact ⟨t2, by simpa using hv.symm, b1, by simp; omega⟩
  · intro i ys u hi hy hr
    rcases (show i = 0 ∨ i = 1 by omega) with e | e
    · subst e
      have hy : ys = [] := hy
      subst hy
      exact ⟨u, rfl, hr⟩
    · subst e
      obtain ⟨v, rfl, hv⟩ := hy
      exact ⟨v, u, rfl, hv, hr⟩
  · rintro ys ⟨v, u, rfl, hv, hu⟩
    rcases hu with ⟨_, t, rfl⟩ | ⟨c, _⟩
    · exact h h' v t hv
    · exfalso; omega
/-- an element that asks of any number or None -/
def EltV (prog : Program) (w : World) (A : Around) (h₀ : Heap) (L : Addr) (m : Str → Option Value) (env : Env) (elt : Expr) (x : Str) (scope : Scope) (cl : List (Str × Addr)) (news : List (Addr × Obj)) : Prop :=
  ∀ (v : Value) (b : Bool) (I : Addr) (oI : Obj) (C : Addr) (oC : Obj) (D : Addr) (oD : Obj) (m₂ : Str → Option Value) (h : Heap) (tk : Nat) (E' : Value → Shared → Prop) (s₂ : Shared), ((∃ n t, v = Value.int n t ∧ b = false) ∨ (v = Value.none ∧ b = true)) → NsObj oC m₂ → m₂ x = some v → Fr h₀ L h m → News h₀ L h ((I, oI) :: (C, oC) :: (D, oD) :: news) →
    wpAny (model prog w) A (eval elt (compEnvC scope cl C env)) (fun v s' => EltOk h₀ L m s₂ I oI C oC D oD news (fun _ v => v = .bool b) 0 v s') E' { s₂ with heap := h, toks := tk }
theorem src_none {elt : Expr} {x : Str} {scope : Scope} {cl : List (Str × Addr)} {Fin : Shared → List Value → List (Addr × Obj) → Prop} {ax : Addr} {y k1 d z : Int} {v : Value} {t : Tok} {news : List (Addr × Obj)}
    (hv : NumV y k1 d v) (hh : A.handled = none) (F : Fr h₀ L s₁.heap m) (N : News h₀ L s₁.heap news) (hm : (ax, lst [v, .int z t]) ∈ news)
    (T : EltV prog w A h₀ L m env elt x scope cl news)
    (h : ∀ g, Fin { s₁ with heap := g } [.bool (decide (weeks y < k1)), .bool false] news) : CompSrc prog w A h₀ L m env elt x scope cl Fin (.ref ax) s₁ := by
  refine CompSrc.ledger (its := #[v, .int z t]) (k := 2) hh F N hm (Nat.le_of_ble_eq_true rfl) fun g => ?_
  refine CompRest.succ fun u I oI C oC D m₂ h' tk E' hu hC hx F' N' off ne => ?_
  have hu : u = v := by simpa using hu.symm
  subst hu
  have hb : (∃ n t, u = Value.int n t ∧ decide (weeks y < k1) = false) ∨ (u = Value.none ∧ decide (weeks y < k1) = true) := by
    rcases hv with ⟨c, t, rfl⟩ | ⟨c, rfl⟩
    · exact Or.inl ⟨_, _, rfl, decide_eq_false (by omega)⟩
    · exact Or.inr ⟨rfl, decide_eq_true c⟩
  refine wpAny_mono (T u _ I oI C oC D _ m₂ h' tk E' _ hb hC hx F' N') (fun r s' hq => ?_) fun _ _ e => e
  obtain ⟨h2, tk2, rfl, rfl, F2, N2⟩ := hq
  refine CompEnd.intro F2 N2 news (fun p hp => hp) off (.inr ⟨_, hm, rfl, _, rfl⟩) ?_
  refine CompRest.succ fun u2 I oI C oC D m₂ h' tk E' hu hC hx F' N' off ne => ?_
  have hu : u2 = .int z t := by simpa using hu.symm
  subst hu
  refine wpAny_mono (T _ false I oI C oC D _ m₂ h' tk E' _ (Or.inl ⟨z, t, rfl, rfl⟩) hC hx F' N') (fun r s' hq => ?_) fun _ _ e => e
  obtain ⟨h2, tk2, rfl, rfl, F2, N2⟩ := hq
  exact CompEnd.intro F2 N2 news (fun p hp => hp) off (.inr ⟨_, hm, rfl, _, rfl⟩) (h g)
theorem wsum_runs (a : Int) (n : Nat) : ((runs a n).map weeks).sum = wsum n a := by
  induction n with
  | zero => simp [runs, wsum]
  | succ n ih => rw [ints_succ, List.map_append, List.sum_append, ih]; simp [wsum]
theorem range_facts {a b : Int} (h1 : 1 ≤ a) (h2 : a ≤ b) (h3 : b ≤ 9999) : Builtin.Range.small a b 1 = true ∧ Builtin.Range.rangeSize a b 1 = (((b - a).toNat : Nat) : Int) ∧ (b - a).toNat ≤ sizeLine := by
  refine ⟨?_, rangeSize_nat a b, ?_⟩
  · unfold Builtin.Range.small
    simp only [rangeSize_nat, Builtin.Range.rangeFitsLong, Bool.and_eq_true, decide_eq_true_eq, (show (2 : Int) ^ 63 = 9223372036854775808 from rfl)]
    refine ⟨by omega, ?_⟩
    rw [Bool.or_eq_true]
    right
    rw [if_pos (by decide), Bool.and_eq_true, decide_eq_true_eq, decide_eq_true_eq]
    omega
  · have : (10000 : Nat) ≤ sizeLine := Nat.le_of_ble_eq_true rfl
    omega
theorem src_weeks {elt : Expr} {x : Str} {scope : Scope} {cl : List (Str × Addr)} {Fin : Shared → List Value → List (Addr × Obj) → Prop} {r : Addr} {a b : Int} {t u v : Tok} {news : List (Addr × Obj)}
    (hh : A.handled = none) (F : Fr h₀ L s₁.heap m) (N : News h₀ L s₁.heap news) (hr : IsRange s₁.heap r a b 1 t u v) (h1 : 1 ≤ a) (h2 : a ≤ b) (h3 : b ≤ 9999)
    (T : EltIs prog w A h₀ L m env elt x scope cl (fun n => 1 ≤ n ∧ n ≤ 9999) (fun n v => ∃ t, v = Value.int (weeks n) t) news)
    (h : ∀ g ys, IntsAre ys ((runs a (b - a).toNat).map weeks) → Fin { s₁ with heap := g } ys news) : CompSrc prog w A h₀ L m env elt x scope cl Fin (.ref r) s₁ :=
  src_map (n := (b - a).toNat) hh F N hr (range_facts h1 h2 h3).1 (range_facts h1 h2 h3).2.1 (range_facts h1 h2 h3).2.2 (fun i hi => by omega) T h
theorem between_eq {a b : Int} (h : a ≤ b) : 7 * ((runs a (b - a).toNat).map weeks).sum = mon b - mon a := by
  rw [wsum_runs, wsum_mon, show a + ((b - a).toNat : Int) = b by omega]
end
end
section
section
open LCg LCt
variable {prog : Program} {w : World} {A : Around} {E : Value → Shared → Prop} {s s₁ : Shared} {h₀ : Heap} {L : Addr} {m : Str → Option Value} {env : Env}
/-- an element that makes a date -/
def EltDOk (h₀ : Heap) (L : Addr) (m : Str → Option Value) (s : Shared) (I : Addr) (oI : Obj) (C : Addr) (oC : Obj) (D : Addr) (oD : Obj) (news : List (Addr × Obj)) (N : Int) (v : Value) (s' : Shared) : Prop :=
  ∃ (h' : Heap) (tk : Nat) (T : Addr) (a b c : Int) (t1 t2 t3 : Tok), v = .ref T ∧ Valid a b c ∧ ord a b c = N ∧ s' = { s with heap := h', toks := tk } ∧ Fr h₀ L h' m ∧ News h₀ L h' ((T, tup3 a b c t1 t2 t3) :: (I, oI) :: (C, oC) :: (D, oD) :: news) ∧ (I : Nat) < T ∧ (C : Nat) < T ∧ (D : Nat) < T
theorem EltDOk.intro {I : Addr} {oI : Obj} {C : Addr} {oC : Obj} {D : Addr} {oD : Obj} {news : List (Addr × Obj)} {X : Int} {T : Addr} {a b c : Int} {t1 t2 t3 : Tok} {h' : Heap} {tk : Nat} {R : Prop} (hV : Valid a b c) (hO : ord a b c = X) (F : Fr h₀ L h' m) (N : News h₀ L h' ((T, tup3 a b c t1 t2 t3) :: (I, oI) :: (C, oC) :: (D, oD) :: news)) (l : (I : Nat) < T ∧ (C : Nat) < T ∧ (D : Nat) < T ∧ R) :
    EltDOk h₀ L m s I oI C oC D oD news X (.ref T) { s with heap := h', toks := tk } := ⟨h', tk, T, a, b, c, t1, t2, t3, rfl, hV, hO, rfl, F, N, l.1, l.2.1, l.2.2.1⟩
def EltD (prog : Program) (w : World) (A : Around) (h₀ : Heap) (L : Addr) (m : Str → Option Value) (env : Env) (elt : Expr) (x : Str) (scope : Scope) (cl : List (Str × Addr)) (y : Int) (news : List (Addr × Obj)) : Prop :=
  ∀ (n : Int) (t : Tok) (ex : List (Addr × Obj)) (I : Addr) (oI : Obj) (C : Addr) (oC : Obj) (D : Addr) (oD : Obj) (m₂ : Str → Option Value) (h : Heap) (tk : Nat) (E' : Value → Shared → Prop) (s₂ : Shared), 1 ≤ n → n ≤ 7 → NsObj oC m₂ → m₂ x = some (.int n t) → Fr h₀ L h m → News h₀ L h ((I, oI) :: (C, oC) :: (D, oD) :: (news ++ ex)) →
    wpAny (model prog w) A (eval elt (compEnvC scope cl C env)) (fun v s' => EltDOk h₀ L m s₂ I oI C oC D oD (news ++ ex) (num y (weeks y) n) v s') E' { s₂ with heap := h, toks := tk }
/-- the dates made so far -/
def Dates (y : Int) (ys : List Value) (ex : List (Addr × Obj)) : Prop :=
  (∀ v ∈ ys, ∃ T a b c t1 t2 t3, v = .ref T ∧ (T, tup3 a b c t1 t2 t3) ∈ ex) ∧ ∀ j : Nat, j < ys.length → ∃ T a b c t1 t2 t3, ys[j]? = some (.ref T) ∧ (T, tup3 a b c t1 t2 t3) ∈ ex ∧ Valid a b c ∧ ord a b c = num y (weeks y) ((j : Int) + 1)
theorem Dates.snoc {y : Int} {ys : List Value} {ex : List (Addr × Obj)} {T : Addr} {a b c : Int} {t1 t2 t3 : Tok} (H : Dates y ys ex) (hV : Valid a b c) (hO : ord a b c = num y (weeks y) ((ys.length : Int) + 1)) : Dates y (ys ++ [.ref T]) ((T, tup3 a b c t1 t2 t3) :: ex) := by
  refine ⟨fun v hv => ?_, fun j hj => ?_⟩
  · rcases List.mem_append.mp hv with hv | hv
    · obtain ⟨T', a, b, c, t1, t2, t3, e, hm⟩ := H.1 v hv
      exact ⟨T', a, b, c, t1, t2, t3, e, List.mem_cons_of_mem _ hm⟩
    · exact ⟨T, a, b, c, t1, t2, t3, List.mem_singleton.mp hv, List.mem_cons_self⟩
  · rw [List.length_append] at hj
    simp only [List.length_cons, List.length_nil] at hj
    by_cases c' : j < ys.length
    · obtain ⟨T', a, b, c, t1, t2, t3, e, hm, r⟩ := H.2 j c'
      exact ⟨T', a, b, c, t1, t2, t3, by rw [List.getElem?_append_left c']; exact e, List.mem_cons_of_mem _ hm, r⟩
    · have : j = ys.length := by omega
      subst this
      exact ⟨T, a, b, c, t1, t2, t3, by simp, List.mem_cons_self, hV, hO⟩
theorem date_rest {elt : Expr} {x : Str} {scope : Scope} {cl : List (Str × Addr)} {P : Nat → Value → Prop} {Fin : List Value → List (Addr × Obj) → Prop} {news : List (Addr × Obj)} {y : Int}
    (T : EltD prog w A h₀ L m env elt x scope cl y news) (hP : ∀ i v, P i v → ∃ t, v = Value.int (1 + (i : Int)) t) (hF : ∀ ys ex, ys.length = 7 → Dates y ys ex → Fin ys (news ++ ex)) :
    ∀ k i ys ex, i + k = 7 → ys.length = i → Dates y ys ex → CompRest prog w A h₀ L m env elt x scope cl s (fun _ => True) P Fin k i ys (news ++ ex)
  | 0, i, ys, ex, e, hl, ha => hF ys ex (by omega) ha
  | k + 1, i, ys, ex, e, hl, ha => by
    refine CompRest.succ fun v I oI C oC D m₂ h tk E' hv hC hx F N off ne => ?_
    obtain ⟨t, rfl⟩ := hP i v hv
    refine wpAny_mono (T _ t ex I oI C oC D _ m₂ h tk E' s (by omega) (by omega) hC hx F N) (fun v s' hq => ?_) fun _ _ e => e
    obtain ⟨h', tk', T', a, b, c, t1, t2, t3, rfl, hV, hO, rfl, F', N', l1, l2, l3⟩ := hq
    refine CompEnd.intro F' N' (news ++ ((T', tup3 a b c t1 t2 t3) :: ex)) (fun p hp => ?_) ?_ trivial (date_rest T hP hF k (i + 1) (ys ++ [.ref T']) ((T', tup3 a b c t1 t2 t3) :: ex) (by omega) (by simp [hl]) (ha.snoc hV (by rw [hO, hl, show (1 : Int) + (i : Int) = (i : Int) + 1 by omega])))
    · simp only [List.mem_cons, List.mem_append] at hp ⊢
      rcases hp with hp | hp | hp | hp | hp | hp <;> simp [hp]
    · refine Off3.of fun p hp => ?_
      rcases List.mem_append.mp hp with hp | hp
      · exact off.mem p (List.mem_append_left _ hp)
      · rcases List.mem_cons.mp hp with rfl | hp
        · exact ⟨Nat.ne_of_gt l1, Nat.ne_of_gt l2, Nat.ne_of_gt l3⟩
        · exact off.mem p (List.mem_append_right _ hp)
theorem src_dates {elt : Expr} {x : Str} {scope : Scope} {cl : List (Str × Addr)} {Fin : Shared → List Value → List (Addr × Obj) → Prop} {r : Addr} {t u v : Tok} {news : List (Addr × Obj)} {y : Int} (_hY : Yr y)
    (hh : A.handled = none) (F : Fr h₀ L s₁.heap m) (N : News h₀ L s₁.heap news) (hr : IsRange s₁.heap r 1 8 1 t u v)
    (T : EltD prog w A h₀ L m env elt x scope cl y news)
    (h : ∀ g ys ex, ys.length = 7 → Dates y ys ex → Fin { s₁ with heap := g } ys (news ++ ex)) : CompSrc prog w A h₀ L m env elt x scope cl Fin (.ref r) s₁ := by
  refine CompSrc.range (n := 7) hh F N hr (by decide) (by decide) (by decide) fun g => ?_
  have := date_rest (s := { s₁ with heap := g }) (P := fun i v => ∃ t, v = .int (1 + (i : Int)) t) (Fin := Fin { s₁ with heap := g }) T (fun i v hv => hv) (h g) 7 0 [] [] rfl rfl ⟨(fun _ h => by cases h), (fun j hj => absurd hj (by simp))⟩
  rwa [List.append_nil] at this
end
section
variable {prog : Program} {w : World} {A : Around} {E : Value → Shared → Prop} {s : Shared} {h₀ : Heap} {L l k : Addr} {m : Str → Option Value} {news ex : List (Addr × Obj)}
theorem reads_tup3 {T : Addr} {a b c : Int} {t1 t2 t3 : Tok} (h : s.heap.get? T = some (tup3 a b c t1 t2 t3)) : Reads s.heap (.ref T) (.tuple [.int a, .int b, .int c]) [] :=
  reads_tuple_at h rfl rfl (ReadsAll.cons (Reads.int _ _) (ReadsAll.cons (Reads.int _ _) (ReadsAll.cons (Reads.int _ _) ReadsAll.nil)))
/-- 28 December lies in the last week -/
theorem not_in_dates {y : Int} {ys : List Value} {t1 t2 t3 : Tok} {Q : Value → Shared → Prop} (hD : Dates y ys ex) (h7 : ys.length = 7) (N : News h₀ L s.heap news) (hk : (k, tup3 y 12 28 t1 t2 t3) ∈ news) (hl : (l, LCg.lst ys) ∈ news) (hex : ∀ p ∈ ex, p ∈ news) (hu : A.units + 65 < cLine) (h : Q (.bool false) s) :
    wpAny (model prog w) A (compareOp .NotIn (.ref k) (.ref l)) Q E s := by
  classical
  have hL : s.heap.IsList l ys.toArray := ⟨_, (N _ hl).1, rfl, _, rfl⟩
  refine SeqAt.notIn_listAt (fun v => decide (∃ T a b c t1 t2 t3, v = .ref T ∧ s.heap.get? T = some (tup3 a b c t1 t2 t3) ∧ a = y ∧ b = 12 ∧ c = 28)) hL (fun v hv => ?_) ?_
  · obtain ⟨T, a, b, c, u1, u2, u3, rfl, hm⟩ := hD.1 v (by simpa using hv)
    have hT := (N _ (hex _ hm)).1
    have q := keq_at (A := A) (reads_tup3 hT) (reads_tup3 (N _ hk).1) rfl rfl (by show A.units + 1 + 64 < cLine; omega)
    have e : PyData.eqv (.tuple [.int a, .int b, .int c]) (.tuple [.int y, .int 12, .int 28]) = decide (∃ T' a b c t1 t2 t3, (Value.ref T) = .ref T' ∧ s.heap.get? T' = some (tup3 a b c t1 t2 t3) ∧ a = y ∧ b = 12 ∧ c = 28) := by
      simp only [PyData.eqv, PyData.eqvAll, Bool.and_true]
      rw [Bool.eq_iff_iff]
      simp only [Bool.and_eq_true, beq_iff_eq, decide_eq_true_eq]
      constructor
      · rintro ⟨e1, e2, e3⟩
        exact ⟨T, a, b, c, u1, u2, u3, rfl, hT, e1, e2, e3⟩
      · rintro ⟨T', a', b', c', v1, v2, v3, eT, hg, e1, e2, e3⟩
        have eT : T = T' := by injection eT
        subst eT
        rw [hT] at hg
        have hh := Option.some.inj hg
        simp at hh
        obtain ⟨⟨f1, _⟩, ⟨f2, _⟩, ⟨f3, _⟩⟩ := hh
        exact ⟨f1.trans e1, f2.trans e2, f3.trans e3⟩
    rw [e] at q
    exact q
  · obtain ⟨d, d1, d2, d3⟩ := dec28 y
    obtain ⟨T, a, b, c, u1, u2, u3, e, hm, hV, hO⟩ := hD.2 (d - 1).toNat (by omega)
    obtain ⟨f1, f2, f3⟩ := ord_inj hV (valid_1228 y) (by rw [hO, d3, show (((d - 1).toNat : Nat) : Int) + 1 = d by omega])
    have hT := (N _ (hex _ hm)).1
    have ha : ys.toArray.any (fun v => decide (∃ T a b c t1 t2 t3, v = .ref T ∧ s.heap.get? T = some (tup3 a b c t1 t2 t3) ∧ a = y ∧ b = 12 ∧ c = 28)) = true := by
      rw [Array.any_eq_true']
      refine ⟨.ref T, ?_, decide_eq_true ⟨T, a, b, c, u1, u2, u3, rfl, hT, f1, f2, f3⟩⟩
      have := List.mem_of_getElem? e
      simpa using this
    rw [ha]
    exact h
end
theorem l10_end {y1 y2 k1 k2 d1 d2 : Int} (h : y1 ≤ y2) : num y2 k2 d2 - num y1 k1 d1 = 7 * ((runs y1 (y2 - y1).toNat).map weeks).sum + (7 * k2 + d2) - (7 * k1 + d1) := by
  rw [between_eq h]
  unfold num
  omega
theorem l10_eq {a b c : Int} (hV : Valid a b c) (hO : ord a b c = num 1 1 1) : (a == 1 && (b == 1 && c == 1)) = true := by
  obtain ⟨rfl, rfl, rfl⟩ := told_111 hV hO
  rfl
end
section
theorem conj_lt {a b c : Nat} {R : Prop} (h : c < b ∧ R) (k : (c < b ∧ R) → a < b) : a ≠ b := Nat.ne_of_lt (k h)
theorem conj_gt {a b c : Nat} {R : Prop} (h : c < a ∧ R) (k : (c < a ∧ R) → b < a) : a ≠ b := Nat.ne_of_gt (k h)
theorem conj_ne2 {a b c : Nat} {R : Prop} (h : c ≠ a ∧ R) (k : (c ≠ a ∧ R) → b ≠ a) : a ≠ b := Ne.symm (k h)
end
section
open_top hd10 for PySem.Challenge.rw_dn0120_10
end
section
local macro_rules | `(tactic| walk_at $s:str) => `(tactic| k_extra $s)
theorem c_leap {w : World} {s₀ : Shared} {mg mb : Str → Option Value} {dp un : Nat} {gd : Option (List Code)} {cn : Str} {cs : Scope} {a : Addr} {ccd : Value} {cl : List (Str × Addr)} {outer : List Env} {A₀ : Around} {base h₀ : Heap} {L : Addr} {m : Str → Option Value} {news : List (Addr × Obj)} {s : Shared} {Q E : Value → Shared → Prop} {y : Int} {ty : Tok}
    (kB : Below A₀ base outer h₀) (kF : Fr h₀ L s.heap m) (kK : (hd10.heap_39 w.params).In h₀) (kN : News h₀ L s.heap news) (kT : Top hd10.view_39 (looseW hd10.view_39 [Str.ofString "_DAYS_IN_MONTH", Str.ofString "_DAYS_BEFORE_MONTH", Str.ofString "_DI400Y", Str.ofString "_DI100Y", Str.ofString "_DI4Y"]) (ExcName.means s₀.heap) mg mb h₀) (kk : cs.kind = .function) (kd : dp + 1 < recursionLimit) (ku : un + 8 < cLine) 
    (ret : ∀ (t : Tok) (h' : Heap) (tk' : Nat), Fr h₀ L h' m → News h₀ L h' news → Q (.bool (leap y)) { s with heap := h', toks := tk' }) :
    wpAny (model Challenge.rw_dn0120_10.row.prog w) (ktrTop dp un gd cn cs L a ccd cl outer) (call (.ref 28) [Value.int y ty]) Q E s := by
  w_top off
  k_with_none
  k_with "mine pre" => first | with_reducible assumption | omega | l_fact
  k_with "mine twelve" => (intro k h1 h2; rcases m12 h1 h2 with h | h | h | h | h | h | h | h | h | h | h | h <;> (subst h; exact ⟨_, rfl⟩))
  k_with "mine lt" => first | with_reducible assumption | exact (by with_reducible assumption : _ ∧ AllLt _ _).2 | exact (by with_reducible assumption : _ ∧ _ ∧ AllLt _ _).2.2 | exact (by with_reducible assumption : _ ∧ _ ∧ _ ∧ AllLt _ _).2.2.2 | exact (by with_reducible assumption : _ ∧ _ ∧ _ ∧ _ ∧ AllLt _ _).2.2.2.2
  k_with "eval Call" => (k_here; (with_reducible show wpAny _ _ (eval (PySem.Expr.Call (PySem.Expr.Name (Str.ofString "_is_leap") _) _ [] _) _) _ _ _); k_dflt (refine Call_ ?_))
  k_with "eval Call" => (k_here; (with_reducible show wpAny _ _ (eval (PySem.Expr.Call (PySem.Expr.Name (Str.ofString "_days_before_year") _) _ [] _) _) _ _ _); k_dflt (refine Call_ ?_))
  k_with "eval Call" => (k_here; (with_reducible show wpAny _ _ (eval (PySem.Expr.Call (PySem.Expr.Name (Str.ofString "_days_in_month") _) _ [] _) _) _ _ _); k_dflt (refine Call_ ?_))
  k_with "eval Call" => (k_here; (with_reducible show wpAny _ _ (eval (PySem.Expr.Call (PySem.Expr.Name (Str.ofString "_days_before_month") _) _ [] _) _) _ _ _); k_dflt (refine Call_ ?_))
  k_with "eval Call" => (k_here; (with_reducible show wpAny _ _ (eval (PySem.Expr.Call (PySem.Expr.Name (Str.ofString "_ymd2ord") _) _ [] _) _) _ _ _); k_dflt (refine Call_ ?_))
  k_with "eval Call" => (k_here; (with_reducible show wpAny _ _ (eval (PySem.Expr.Call (PySem.Expr.Name (Str.ofString "_ord2ymd") _) _ [] _) _) _ _ _); k_dflt (refine Call_ ?_))
  k_with "eval Call" => (k_here; (with_reducible show wpAny _ _ (eval (PySem.Expr.Call (PySem.Expr.Name (Str.ofString "_isoweek_to_gregorian") _) _ [] _) _) _ _ _); k_dflt (refine Call_ ?_))
  k_with "eval Call" => (k_here; (with_reducible show wpAny _ _ (eval (PySem.Expr.Call (PySem.Expr.Name (Str.ofString "_isoweek1monday") _) _ [] _) _) _ _ _); k_dflt (refine Call_ ?_))
  k_with "eval Call" => (k_here; (with_reducible show wpAny _ _ (eval (PySem.Expr.Call (PySem.Expr.Name (Str.ofString "_law_number") _) _ [] _) _) _ _ _); k_dflt (refine Call_ ?_))
  k_with "eval Call" => (k_here; (with_reducible show wpAny _ _ (eval (PySem.Expr.Call (PySem.Expr.Name (Str.ofString "_law_weeks") _) _ [] _) _) _ _ _); k_dflt (refine Call_ ?_))
  k_with "subscriptTail Name Name ref int" => (k_here; (with_reducible show wpAny _ _ (subscriptTail _ _ (Value.ref 15) (Value.int _ _)) _ _ _); k_dflt (refine' tab_item dimT (by k_asm) (by k_asm) (by k_is) (by walk_at "mine pre") (by walk_at "mine pre") (by walk_at "mine twelve") (by with_unfolding_all rfl) ?_; k_whole); intro t9)
  k_with "subscriptTail Name Name ref int" => (k_here; (with_reducible show wpAny _ _ (subscriptTail _ _ (Value.ref 16) (Value.int _ _)) _ _ _); k_dflt (refine' tab_item dbmT (by k_asm) (by k_asm) (by k_is) (by walk_at "mine pre") (by walk_at "mine pre") (by walk_at "mine twelve") (by with_unfolding_all rfl) ?_; k_whole); intro t9)
  w_strict (
    revert kK
    k_fill
    intro kK
    refine wpAny_call ?_
    k_dflt cell_enter
    k_steps
    k_with "tree" => (simp only [leap])
    all_goals cb_end ret)
theorem c_dby {w : World} {s₀ : Shared} {mg mb : Str → Option Value} {dp un : Nat} {gd : Option (List Code)} {cn : Str} {cs : Scope} {a : Addr} {ccd : Value} {cl : List (Str × Addr)} {outer : List Env} {A₀ : Around} {base h₀ : Heap} {L : Addr} {m : Str → Option Value} {news : List (Addr × Obj)} {s : Shared} {Q E : Value → Shared → Prop} {y : Int} {ty : Tok}
    (kB : Below A₀ base outer h₀) (kF : Fr h₀ L s.heap m) (kK : (hd10.heap_39 w.params).In h₀) (kN : News h₀ L s.heap news) (kT : Top hd10.view_39 (looseW hd10.view_39 [Str.ofString "_DAYS_IN_MONTH", Str.ofString "_DAYS_BEFORE_MONTH", Str.ofString "_DI400Y", Str.ofString "_DI100Y", Str.ofString "_DI4Y"]) (ExcName.means s₀.heap) mg mb h₀) (kk : cs.kind = .function) (kd : dp + 1 < recursionLimit) (ku : un + 8 < cLine) 
    (ret : ∀ (t : Tok) (h' : Heap) (tk' : Nat), Fr h₀ L h' m → News h₀ L h' news → Q (.int (dby y) t) { s with heap := h', toks := tk' }) :
    wpAny (model Challenge.rw_dn0120_10.row.prog w) (ktrTop dp un gd cn cs L a ccd cl outer) (call (.ref 35) [Value.int y ty]) Q E s := by
  w_top off
  k_with_none
  k_with "mine pre" => first | with_reducible assumption | omega | l_fact
  k_with "mine twelve" => (intro k h1 h2; rcases m12 h1 h2 with h | h | h | h | h | h | h | h | h | h | h | h <;> (subst h; exact ⟨_, rfl⟩))
  k_with "mine lt" => first | with_reducible assumption | exact (by with_reducible assumption : _ ∧ AllLt _ _).2 | exact (by with_reducible assumption : _ ∧ _ ∧ AllLt _ _).2.2 | exact (by with_reducible assumption : _ ∧ _ ∧ _ ∧ AllLt _ _).2.2.2 | exact (by with_reducible assumption : _ ∧ _ ∧ _ ∧ _ ∧ AllLt _ _).2.2.2.2
  k_with "eval Call" => (k_here; (with_reducible show wpAny _ _ (eval (PySem.Expr.Call (PySem.Expr.Name (Str.ofString "_is_leap") _) _ [] _) _) _ _ _); k_dflt (refine Call_ ?_))
  k_with "eval Call" => (k_here; (with_reducible show wpAny _ _ (eval (PySem.Expr.Call (PySem.Expr.Name (Str.ofString "_days_before_year") _) _ [] _) _) _ _ _); k_dflt (refine Call_ ?_))
  k_with "eval Call" => (k_here; (with_reducible show wpAny _ _ (eval (PySem.Expr.Call (PySem.Expr.Name (Str.ofString "_days_in_month") _) _ [] _) _) _ _ _); k_dflt (refine Call_ ?_))
  k_with "eval Call" => (k_here; (with_reducible show wpAny _ _ (eval (PySem.Expr.Call (PySem.Expr.Name (Str.ofString "_days_before_month") _) _ [] _) _) _ _ _); k_dflt (refine Call_ ?_))
  k_with "eval Call" => (k_here; (with_reducible show wpAny _ _ (eval (PySem.Expr.Call (PySem.Expr.Name (Str.ofString "_ymd2ord") _) _ [] _) _) _ _ _); k_dflt (refine Call_ ?_))
  k_with "eval Call" => (k_here; (with_reducible show wpAny _ _ (eval (PySem.Expr.Call (PySem.Expr.Name (Str.ofString "_ord2ymd") _) _ [] _) _) _ _ _); k_dflt (refine Call_ ?_))
  k_with "eval Call" => (k_here; (with_reducible show wpAny _ _ (eval (PySem.Expr.Call (PySem.Expr.Name (Str.ofString "_isoweek_to_gregorian") _) _ [] _) _) _ _ _); k_dflt (refine Call_ ?_))
  k_with "eval Call" => (k_here; (with_reducible show wpAny _ _ (eval (PySem.Expr.Call (PySem.Expr.Name (Str.ofString "_isoweek1monday") _) _ [] _) _) _ _ _); k_dflt (refine Call_ ?_))
  k_with "eval Call" => (k_here; (with_reducible show wpAny _ _ (eval (PySem.Expr.Call (PySem.Expr.Name (Str.ofString "_law_number") _) _ [] _) _) _ _ _); k_dflt (refine Call_ ?_))
  k_with "eval Call" => (k_here; (with_reducible show wpAny _ _ (eval (PySem.Expr.Call (PySem.Expr.Name (Str.ofString "_law_weeks") _) _ [] _) _) _ _ _); k_dflt (refine Call_ ?_))
  k_with "subscriptTail Name Name ref int" => (k_here; (with_reducible show wpAny _ _ (subscriptTail _ _ (Value.ref 15) (Value.int _ _)) _ _ _); k_dflt (refine' tab_item dimT (by k_asm) (by k_asm) (by k_is) (by walk_at "mine pre") (by walk_at "mine pre") (by walk_at "mine twelve") (by with_unfolding_all rfl) ?_; k_whole); intro t9)
  k_with "subscriptTail Name Name ref int" => (k_here; (with_reducible show wpAny _ _ (subscriptTail _ _ (Value.ref 16) (Value.int _ _)) _ _ _); k_dflt (refine' tab_item dbmT (by k_asm) (by k_asm) (by k_is) (by walk_at "mine pre") (by walk_at "mine pre") (by walk_at "mine twelve") (by with_unfolding_all rfl) ?_; k_whole); intro t9)
  k_with "call ref" => (k_here; (with_reducible show wpAny _ _ (PySem.call (Value.ref 28) _) _ _ _); k_dflt (refine' c_leap (by k_asm) (by k_asm) (by k_asm) (by k_asm) (by k_asm) (by first | exact rfl | assumption) (by ktr_room) (by ktr_units) ?_; k_whole); intro t9 h9 tk9 F9 N9; (try dsimp only); (try k_fold))
  w_strict (
    revert kK
    k_fill
    intro kK
    refine wpAny_call ?_
    k_dflt cell_enter
    k_steps
    k_with "tree" => (simp only [dby, Int.fdiv_eq_ediv_of_nonneg _ (show (0 : Int) ≤ 4 by decide), Int.fdiv_eq_ediv_of_nonneg _ (show (0 : Int) ≤ 100 by decide), Int.fdiv_eq_ediv_of_nonneg _ (show (0 : Int) ≤ 400 by decide)])
    all_goals cb_end ret)
theorem c_dim {w : World} {s₀ : Shared} {mg mb : Str → Option Value} {dp un : Nat} {gd : Option (List Code)} {cn : Str} {cs : Scope} {a : Addr} {ccd : Value} {cl : List (Str × Addr)} {outer : List Env} {A₀ : Around} {base h₀ : Heap} {L : Addr} {m : Str → Option Value} {news : List (Addr × Obj)} {s : Shared} {Q E : Value → Shared → Prop} {y : Int} {ty : Tok} {mo : Int} {tmo : Tok}
    (kB : Below A₀ base outer h₀) (kF : Fr h₀ L s.heap m) (kK : (hd10.heap_39 w.params).In h₀) (kN : News h₀ L s.heap news) (kT : Top hd10.view_39 (looseW hd10.view_39 [Str.ofString "_DAYS_IN_MONTH", Str.ofString "_DAYS_BEFORE_MONTH", Str.ofString "_DI400Y", Str.ofString "_DI100Y", Str.ofString "_DI4Y"]) (ExcName.means s₀.heap) mg mb h₀) (kk : cs.kind = .function) (kd : dp + 3 < recursionLimit) (ku : un + 24 < cLine) (h1 : 1 ≤ mo) (h2 : mo ≤ 12)
    (ret : ∀ (t : Tok) (h' : Heap) (tk' : Nat), Fr h₀ L h' m → News h₀ L h' news → Q (.int (dim y mo) t) { s with heap := h', toks := tk' }) :
    wpAny (model Challenge.rw_dn0120_10.row.prog w) (ktrTop dp un gd cn cs L a ccd cl outer) (call (.ref 42) [Value.int y ty, Value.int mo tmo]) Q E s := by
  w_top off
  k_with_none
  k_with "mine pre" => first | with_reducible assumption | omega | l_fact
  k_with "mine twelve" => (intro k h1 h2; rcases m12 h1 h2 with h | h | h | h | h | h | h | h | h | h | h | h <;> (subst h; exact ⟨_, rfl⟩))
  k_with "mine lt" => first | with_reducible assumption | exact (by with_reducible assumption : _ ∧ AllLt _ _).2 | exact (by with_reducible assumption : _ ∧ _ ∧ AllLt _ _).2.2 | exact (by with_reducible assumption : _ ∧ _ ∧ _ ∧ AllLt _ _).2.2.2 | exact (by with_reducible assumption : _ ∧ _ ∧ _ ∧ _ ∧ AllLt _ _).2.2.2.2
  k_with "eval Call" => (k_here; (with_reducible show wpAny _ _ (eval (PySem.Expr.Call (PySem.Expr.Name (Str.ofString "_is_leap") _) _ [] _) _) _ _ _); k_dflt (refine Call_ ?_))
  k_with "eval Call" => (k_here; (with_reducible show wpAny _ _ (eval (PySem.Expr.Call (PySem.Expr.Name (Str.ofString "_days_before_year") _) _ [] _) _) _ _ _); k_dflt (refine Call_ ?_))
  k_with "eval Call" => (k_here; (with_reducible show wpAny _ _ (eval (PySem.Expr.Call (PySem.Expr.Name (Str.ofString "_days_in_month") _) _ [] _) _) _ _ _); k_dflt (refine Call_ ?_))
  k_with "eval Call" => (k_here; (with_reducible show wpAny _ _ (eval (PySem.Expr.Call (PySem.Expr.Name (Str.ofString "_days_before_month") _) _ [] _) _) _ _ _); k_dflt (refine Call_ ?_))
  k_with "eval Call" => (k_here; (with_reducible show wpAny _ _ (eval (PySem.Expr.Call (PySem.Expr.Name (Str.ofString "_ymd2ord") _) _ [] _) _) _ _ _); k_dflt (refine Call_ ?_))
  k_with "eval Call" => (k_here; (with_reducible show wpAny _ _ (eval (PySem.Expr.Call (PySem.Expr.Name (Str.ofString "_ord2ymd") _) _ [] _) _) _ _ _); k_dflt (refine Call_ ?_))
  k_with "eval Call" => (k_here; (with_reducible show wpAny _ _ (eval (PySem.Expr.Call (PySem.Expr.Name (Str.ofString "_isoweek_to_gregorian") _) _ [] _) _) _ _ _); k_dflt (refine Call_ ?_))
  k_with "eval Call" => (k_here; (with_reducible show wpAny _ _ (eval (PySem.Expr.Call (PySem.Expr.Name (Str.ofString "_isoweek1monday") _) _ [] _) _) _ _ _); k_dflt (refine Call_ ?_))
  k_with "eval Call" => (k_here; (with_reducible show wpAny _ _ (eval (PySem.Expr.Call (PySem.Expr.Name (Str.ofString "_law_number") _) _ [] _) _) _ _ _); k_dflt (refine Call_ ?_))
  k_with "eval Call" => (k_here; (with_reducible show wpAny _ _ (eval (PySem.Expr.Call (PySem.Expr.Name (Str.ofString "_law_weeks") _) _ [] _) _) _ _ _); k_dflt (refine Call_ ?_))
  k_with "subscriptTail Name Name ref int" => (k_here; (with_reducible show wpAny _ _ (subscriptTail _ _ (Value.ref 15) (Value.int _ _)) _ _ _); k_dflt (refine' tab_item dimT (by k_asm) (by k_asm) (by k_is) (by walk_at "mine pre") (by walk_at "mine pre") (by walk_at "mine twelve") (by with_unfolding_all rfl) ?_; k_whole); intro t9)
  k_with "subscriptTail Name Name ref int" => (k_here; (with_reducible show wpAny _ _ (subscriptTail _ _ (Value.ref 16) (Value.int _ _)) _ _ _); k_dflt (refine' tab_item dbmT (by k_asm) (by k_asm) (by k_is) (by walk_at "mine pre") (by walk_at "mine pre") (by walk_at "mine twelve") (by with_unfolding_all rfl) ?_; k_whole); intro t9)
  k_with "call ref" => (k_here; (with_reducible show wpAny _ _ (PySem.call (Value.ref 28) _) _ _ _); k_dflt (refine' c_leap (by k_asm) (by k_asm) (by k_asm) (by k_asm) (by k_asm) (by first | exact rfl | assumption) (by ktr_room) (by ktr_units) ?_; k_whole); intro t9 h9 tk9 F9 N9; (try dsimp only); (try k_fold))
  k_with "call ref" => (k_here; (with_reducible show wpAny _ _ (PySem.call (Value.ref 35) _) _ _ _); k_dflt (refine' c_dby (by k_asm) (by k_asm) (by k_asm) (by k_asm) (by k_asm) (by first | exact rfl | assumption) (by ktr_room) (by ktr_units) ?_; k_whole); intro t9 h9 tk9 F9 N9; (try dsimp only); (try k_fold))
  w_strict (
    revert kK
    k_fill
    intro kK
    refine wpAny_call ?_
    k_dflt cell_enter
    k_steps
    k_with "tree" => (simp only [dim, dimT, lpd])
    all_goals cb_end ret)
theorem c_dbm {w : World} {s₀ : Shared} {mg mb : Str → Option Value} {dp un : Nat} {gd : Option (List Code)} {cn : Str} {cs : Scope} {a : Addr} {ccd : Value} {cl : List (Str × Addr)} {outer : List Env} {A₀ : Around} {base h₀ : Heap} {L : Addr} {m : Str → Option Value} {news : List (Addr × Obj)} {s : Shared} {Q E : Value → Shared → Prop} {y : Int} {ty : Tok} {mo : Int} {tmo : Tok}
    (kB : Below A₀ base outer h₀) (kF : Fr h₀ L s.heap m) (kK : (hd10.heap_39 w.params).In h₀) (kN : News h₀ L s.heap news) (kT : Top hd10.view_39 (looseW hd10.view_39 [Str.ofString "_DAYS_IN_MONTH", Str.ofString "_DAYS_BEFORE_MONTH", Str.ofString "_DI400Y", Str.ofString "_DI100Y", Str.ofString "_DI4Y"]) (ExcName.means s₀.heap) mg mb h₀) (kk : cs.kind = .function) (kd : dp + 3 < recursionLimit) (ku : un + 24 < cLine) (h1 : 1 ≤ mo) (h2 : mo ≤ 12)
    (ret : ∀ (t : Tok) (h' : Heap) (tk' : Nat), Fr h₀ L h' m → News h₀ L h' news → Q (.int (dbm y mo) t) { s with heap := h', toks := tk' }) :
    wpAny (model Challenge.rw_dn0120_10.row.prog w) (ktrTop dp un gd cn cs L a ccd cl outer) (call (.ref 49) [Value.int y ty, Value.int mo tmo]) Q E s := by
  w_top off
  k_with_none
  k_with "mine pre" => first | with_reducible assumption | omega | l_fact
  k_with "mine twelve" => (intro k h1 h2; rcases m12 h1 h2 with h | h | h | h | h | h | h | h | h | h | h | h <;> (subst h; exact ⟨_, rfl⟩))
  k_with "mine lt" => first | with_reducible assumption | exact (by with_reducible assumption : _ ∧ AllLt _ _).2 | exact (by with_reducible assumption : _ ∧ _ ∧ AllLt _ _).2.2 | exact (by with_reducible assumption : _ ∧ _ ∧ _ ∧ AllLt _ _).2.2.2 | exact (by with_reducible assumption : _ ∧ _ ∧ _ ∧ _ ∧ AllLt _ _).2.2.2.2
  k_with "eval Call" => (k_here; (with_reducible show wpAny _ _ (eval (PySem.Expr.Call (PySem.Expr.Name (Str.ofString "_is_leap") _) _ [] _) _) _ _ _); k_dflt (refine Call_ ?_))
  k_with "eval Call" => (k_here; (with_reducible show wpAny _ _ (eval (PySem.Expr.Call (PySem.Expr.Name (Str.ofString "_days_before_year") _) _ [] _) _) _ _ _); k_dflt (refine Call_ ?_))
  k_with "eval Call" => (k_here; (with_reducible show wpAny _ _ (eval (PySem.Expr.Call (PySem.Expr.Name (Str.ofString "_days_in_month") _) _ [] _) _) _ _ _); k_dflt (refine Call_ ?_))
  k_with "eval Call" => (k_here; (with_reducible show wpAny _ _ (eval (PySem.Expr.Call (PySem.Expr.Name (Str.ofString "_days_before_month") _) _ [] _) _) _ _ _); k_dflt (refine Call_ ?_))
  k_with "eval Call" => (k_here; (with_reducible show wpAny _ _ (eval (PySem.Expr.Call (PySem.Expr.Name (Str.ofString "_ymd2ord") _) _ [] _) _) _ _ _); k_dflt (refine Call_ ?_))
  k_with "eval Call" => (k_here; (with_reducible show wpAny _ _ (eval (PySem.Expr.Call (PySem.Expr.Name (Str.ofString "_ord2ymd") _) _ [] _) _) _ _ _); k_dflt (refine Call_ ?_))
  k_with "eval Call" => (k_here; (with_reducible show wpAny _ _ (eval (PySem.Expr.Call (PySem.Expr.Name (Str.ofString "_isoweek_to_gregorian") _) _ [] _) _) _ _ _); k_dflt (refine Call_ ?_))
  k_with "eval Call" => (k_here; (with_reducible show wpAny _ _ (eval (PySem.Expr.Call (PySem.Expr.Name (Str.ofString "_isoweek1monday") _) _ [] _) _) _ _ _); k_dflt (refine Call_ ?_))
  k_with "eval Call" => (k_here; (with_reducible show wpAny _ _ (eval (PySem.Expr.Call (PySem.Expr.Name (Str.ofString "_law_number") _) _ [] _) _) _ _ _); k_dflt (refine Call_ ?_))
  k_with "eval Call" => (k_here; (with_reducible show wpAny _ _ (eval (PySem.Expr.Call (PySem.Expr.Name (Str.ofString "_law_weeks") _) _ [] _) _) _ _ _); k_dflt (refine Call_ ?_))
  k_with "subscriptTail Name Name ref int" => (k_here; (with_reducible show wpAny _ _ (subscriptTail _ _ (Value.ref 15) (Value.int _ _)) _ _ _); k_dflt (refine' tab_item dimT (by k_asm) (by k_asm) (by k_is) (by walk_at "mine pre") (by walk_at "mine pre") (by walk_at "mine twelve") (by with_unfolding_all rfl) ?_; k_whole); intro t9)
  k_with "subscriptTail Name Name ref int" => (k_here; (with_reducible show wpAny _ _ (subscriptTail _ _ (Value.ref 16) (Value.int _ _)) _ _ _); k_dflt (refine' tab_item dbmT (by k_asm) (by k_asm) (by k_is) (by walk_at "mine pre") (by walk_at "mine pre") (by walk_at "mine twelve") (by with_unfolding_all rfl) ?_; k_whole); intro t9)
  k_with "call ref" => (k_here; (with_reducible show wpAny _ _ (PySem.call (Value.ref 28) _) _ _ _); k_dflt (refine' c_leap (by k_asm) (by k_asm) (by k_asm) (by k_asm) (by k_asm) (by first | exact rfl | assumption) (by ktr_room) (by ktr_units) ?_; k_whole); intro t9 h9 tk9 F9 N9; (try dsimp only); (try k_fold))
  k_with "call ref" => (k_here; (with_reducible show wpAny _ _ (PySem.call (Value.ref 35) _) _ _ _); k_dflt (refine' c_dby (by k_asm) (by k_asm) (by k_asm) (by k_asm) (by k_asm) (by first | exact rfl | assumption) (by ktr_room) (by ktr_units) ?_; k_whole); intro t9 h9 tk9 F9 N9; (try dsimp only); (try k_fold))
  k_with "call ref" => (k_here; (with_reducible show wpAny _ _ (PySem.call (Value.ref 42) _) _ _ _); k_dflt (refine' c_dim (by k_asm) (by k_asm) (by k_asm) (by k_asm) (by k_asm) (by first | exact rfl | assumption) (by ktr_room) (by ktr_units) (by walk_at "mine pre") (by walk_at "mine pre") ?_; k_whole); intro t9 h9 tk9 F9 N9; (try dsimp only); (try k_fold))
  w_strict (
    revert kK
    k_fill
    intro kK
    refine wpAny_call ?_
    k_dflt cell_enter
    k_steps
    k_with "tree" => (simp only [dbm, lpd])
    all_goals cb_end ret)
theorem c_ord {w : World} {s₀ : Shared} {mg mb : Str → Option Value} {dp un : Nat} {gd : Option (List Code)} {cn : Str} {cs : Scope} {a : Addr} {ccd : Value} {cl : List (Str × Addr)} {outer : List Env} {A₀ : Around} {base h₀ : Heap} {L : Addr} {m : Str → Option Value} {news : List (Addr × Obj)} {s : Shared} {Q E : Value → Shared → Prop} {y : Int} {ty : Tok} {mo : Int} {tmo : Tok} {d : Int} {td : Tok}
    (kB : Below A₀ base outer h₀) (kF : Fr h₀ L s.heap m) (kK : (hd10.heap_39 w.params).In h₀) (kN : News h₀ L s.heap news) (kT : Top hd10.view_39 (looseW hd10.view_39 [Str.ofString "_DAYS_IN_MONTH", Str.ofString "_DAYS_BEFORE_MONTH", Str.ofString "_DI400Y", Str.ofString "_DI100Y", Str.ofString "_DI4Y"]) (ExcName.means s₀.heap) mg mb h₀) (kk : cs.kind = .function) (kd : dp + 5 < recursionLimit) (ku : un + 40 < cLine) (h1 : 1 ≤ mo) (h2 : mo ≤ 12) (h3 : 1 ≤ d) (h4 : d ≤ dim y mo)
    (ret : ∀ (t : Tok) (h' : Heap) (tk' : Nat), Valid y mo d → Fr h₀ L h' m → News h₀ L h' news → Q (.int (dby y + dbm y mo + d) t) { s with heap := h', toks := tk' }) :
    wpAny (model Challenge.rw_dn0120_10.row.prog w) (ktrTop dp un gd cn cs L a ccd cl outer) (call (.ref 56) [Value.int y ty, Value.int mo tmo, Value.int d td]) Q E s := by
  w_top off
  k_with_none
  k_with "mine pre" => first | with_reducible assumption | omega | l_fact
  k_with "mine twelve" => (intro k h1 h2; rcases m12 h1 h2 with h | h | h | h | h | h | h | h | h | h | h | h <;> (subst h; exact ⟨_, rfl⟩))
  k_with "mine lt" => first | with_reducible assumption | exact (by with_reducible assumption : _ ∧ AllLt _ _).2 | exact (by with_reducible assumption : _ ∧ _ ∧ AllLt _ _).2.2 | exact (by with_reducible assumption : _ ∧ _ ∧ _ ∧ AllLt _ _).2.2.2 | exact (by with_reducible assumption : _ ∧ _ ∧ _ ∧ _ ∧ AllLt _ _).2.2.2.2
  k_with "eval Call" => (k_here; (with_reducible show wpAny _ _ (eval (PySem.Expr.Call (PySem.Expr.Name (Str.ofString "_is_leap") _) _ [] _) _) _ _ _); k_dflt (refine Call_ ?_))
  k_with "eval Call" => (k_here; (with_reducible show wpAny _ _ (eval (PySem.Expr.Call (PySem.Expr.Name (Str.ofString "_days_before_year") _) _ [] _) _) _ _ _); k_dflt (refine Call_ ?_))
  k_with "eval Call" => (k_here; (with_reducible show wpAny _ _ (eval (PySem.Expr.Call (PySem.Expr.Name (Str.ofString "_days_in_month") _) _ [] _) _) _ _ _); k_dflt (refine Call_ ?_))
  k_with "eval Call" => (k_here; (with_reducible show wpAny _ _ (eval (PySem.Expr.Call (PySem.Expr.Name (Str.ofString "_days_before_month") _) _ [] _) _) _ _ _); k_dflt (refine Call_ ?_))
  k_with "eval Call" => (k_here; (with_reducible show wpAny _ _ (eval (PySem.Expr.Call (PySem.Expr.Name (Str.ofString "_ymd2ord") _) _ [] _) _) _ _ _); k_dflt (refine Call_ ?_))
  k_with "eval Call" => (k_here; (with_reducible show wpAny _ _ (eval (PySem.Expr.Call (PySem.Expr.Name (Str.ofString "_ord2ymd") _) _ [] _) _) _ _ _); k_dflt (refine Call_ ?_))
  k_with "eval Call" => (k_here; (with_reducible show wpAny _ _ (eval (PySem.Expr.Call (PySem.Expr.Name (Str.ofString "_isoweek_to_gregorian") _) _ [] _) _) _ _ _); k_dflt (refine Call_ ?_))
  k_with "eval Call" => (k_here; (with_reducible show wpAny _ _ (eval (PySem.Expr.Call (PySem.Expr.Name (Str.ofString "_isoweek1monday") _) _ [] _) _) _ _ _); k_dflt (refine Call_ ?_))
  k_with "eval Call" => (k_here; (with_reducible show wpAny _ _ (eval (PySem.Expr.Call (PySem.Expr.Name (Str.ofString "_law_number") _) _ [] _) _) _ _ _); k_dflt (refine Call_ ?_))
  k_with "eval Call" => (k_here; (with_reducible show wpAny _ _ (eval (PySem.Expr.Call (PySem.Expr.Name (Str.ofString "_law_weeks") _) _ [] _) _) _ _ _); k_dflt (refine Call_ ?_))
  k_with "subscriptTail Name Name ref int" => (k_here; (with_reducible show wpAny _ _ (subscriptTail _ _ (Value.ref 15) (Value.int _ _)) _ _ _); k_dflt (refine' tab_item dimT (by k_asm) (by k_asm) (by k_is) (by walk_at "mine pre") (by walk_at "mine pre") (by walk_at "mine twelve") (by with_unfolding_all rfl) ?_; k_whole); intro t9)
  k_with "subscriptTail Name Name ref int" => (k_here; (with_reducible show wpAny _ _ (subscriptTail _ _ (Value.ref 16) (Value.int _ _)) _ _ _); k_dflt (refine' tab_item dbmT (by k_asm) (by k_asm) (by k_is) (by walk_at "mine pre") (by walk_at "mine pre") (by walk_at "mine twelve") (by with_unfolding_all rfl) ?_; k_whole); intro t9)
  k_with "call ref" => (k_here; (with_reducible show wpAny _ _ (PySem.call (Value.ref 28) _) _ _ _); k_dflt (refine' c_leap (by k_asm) (by k_asm) (by k_asm) (by k_asm) (by k_asm) (by first | exact rfl | assumption) (by ktr_room) (by ktr_units) ?_; k_whole); intro t9 h9 tk9 F9 N9; (try dsimp only); (try k_fold))
  k_with "call ref" => (k_here; (with_reducible show wpAny _ _ (PySem.call (Value.ref 35) _) _ _ _); k_dflt (refine' c_dby (by k_asm) (by k_asm) (by k_asm) (by k_asm) (by k_asm) (by first | exact rfl | assumption) (by ktr_room) (by ktr_units) ?_; k_whole); intro t9 h9 tk9 F9 N9; (try dsimp only); (try k_fold))
  k_with "call ref" => (k_here; (with_reducible show wpAny _ _ (PySem.call (Value.ref 42) _) _ _ _); k_dflt (refine' c_dim (by k_asm) (by k_asm) (by k_asm) (by k_asm) (by k_asm) (by first | exact rfl | assumption) (by ktr_room) (by ktr_units) (by walk_at "mine pre") (by walk_at "mine pre") ?_; k_whole); intro t9 h9 tk9 F9 N9; (try dsimp only); (try k_fold))
  k_with "call ref" => (k_here; (with_reducible show wpAny _ _ (PySem.call (Value.ref 49) _) _ _ _); k_dflt (refine' c_dbm (by k_asm) (by k_asm) (by k_asm) (by k_asm) (by k_asm) (by first | exact rfl | assumption) (by ktr_room) (by ktr_units) (by walk_at "mine pre") (by walk_at "mine pre") ?_; k_whole); intro t9 h9 tk9 F9 N9; (try dsimp only); (try k_fold))
  w_strict (
    revert kK
    k_fill
    intro kK
    replace ret := fun t h' tk' => ret t h' tk' ⟨h1, h2, h3, h4⟩
    refine wpAny_call ?_
    k_dflt cell_enter
    k_steps
    all_goals cb_end ret)
section
theorem c_o2y {w : World} {s₀ : Shared} {mg mb : Str → Option Value} {dp un : Nat} {gd : Option (List Code)} {cn : Str} {cs : Scope} {a : Addr} {ccd : Value} {cl : List (Str × Addr)} {outer : List Env} {A₀ : Around} {base h₀ : Heap} {L : Addr} {m : Str → Option Value} {news : List (Addr × Obj)} {s : Shared} {Q E : Value → Shared → Prop} {n : Int} {tn : Tok}
    (kB : Below A₀ base outer h₀) (kF : Fr h₀ L s.heap m) (kK : (hd10.heap_39 w.params).In h₀) (kN : News h₀ L s.heap news) (kT : Top hd10.view_39 (looseW hd10.view_39 [Str.ofString "_DAYS_IN_MONTH", Str.ofString "_DAYS_BEFORE_MONTH", Str.ofString "_DI400Y", Str.ofString "_DI100Y", Str.ofString "_DI4Y"]) (ExcName.means s₀.heap) mg mb h₀) (kk : cs.kind = .function) (kd : dp + 5 < recursionLimit) (ku : un + 40 < cLine) 
    (ret : ∀ (D : Addr) (yy mm dd : Int) (t1 t2 t3 : Tok) (h' : Heap) (tk' : Nat), Valid yy mm dd → ord yy mm dd = n → Fr h₀ L h' m → News h₀ L h' ((D, ({ cls := .type "tuple", data := .seq #[.int yy t1, .int mm t2, .int dd t3] } : Obj)) :: news) → AllLt D news → Q (.ref D) { s with heap := h', toks := tk' }) :
    wpAny (model Challenge.rw_dn0120_10.row.prog w) (ktrTop dp un gd cn cs L a ccd cl outer) (call (.ref 66) [Value.int n tn]) Q E s := by
  w_top off
  k_with_none
  k_with "mine pre" => first | with_reducible assumption | omega | l_fact
  k_with "mine twelve" => (intro k h1 h2; rcases m12 h1 h2 with h | h | h | h | h | h | h | h | h | h | h | h <;> (subst h; exact ⟨_, rfl⟩))
  k_with "mine lt" => first | with_reducible assumption | exact (by with_reducible assumption : _ ∧ AllLt _ _).2 | exact (by with_reducible assumption : _ ∧ _ ∧ AllLt _ _).2.2 | exact (by with_reducible assumption : _ ∧ _ ∧ _ ∧ AllLt _ _).2.2.2 | exact (by with_reducible assumption : _ ∧ _ ∧ _ ∧ _ ∧ AllLt _ _).2.2.2.2
  k_with "eval Call" => (k_here; (with_reducible show wpAny _ _ (eval (PySem.Expr.Call (PySem.Expr.Name (Str.ofString "_is_leap") _) _ [] _) _) _ _ _); k_dflt (refine Call_ ?_))
  k_with "eval Call" => (k_here; (with_reducible show wpAny _ _ (eval (PySem.Expr.Call (PySem.Expr.Name (Str.ofString "_days_before_year") _) _ [] _) _) _ _ _); k_dflt (refine Call_ ?_))
  k_with "eval Call" => (k_here; (with_reducible show wpAny _ _ (eval (PySem.Expr.Call (PySem.Expr.Name (Str.ofString "_days_in_month") _) _ [] _) _) _ _ _); k_dflt (refine Call_ ?_))
  k_with "eval Call" => (k_here; (with_reducible show wpAny _ _ (eval (PySem.Expr.Call (PySem.Expr.Name (Str.ofString "_days_before_month") _) _ [] _) _) _ _ _); k_dflt (refine Call_ ?_))
  k_with "eval Call" => (k_here; (with_reducible show wpAny _ _ (eval (PySem.Expr.Call (PySem.Expr.Name (Str.ofString "_ymd2ord") _) _ [] _) _) _ _ _); k_dflt (refine Call_ ?_))
  k_with "eval Call" => (k_here; (with_reducible show wpAny _ _ (eval (PySem.Expr.Call (PySem.Expr.Name (Str.ofString "_ord2ymd") _) _ [] _) _) _ _ _); k_dflt (refine Call_ ?_))
  k_with "eval Call" => (k_here; (with_reducible show wpAny _ _ (eval (PySem.Expr.Call (PySem.Expr.Name (Str.ofString "_isoweek_to_gregorian") _) _ [] _) _) _ _ _); k_dflt (refine Call_ ?_))
  k_with "eval Call" => (k_here; (with_reducible show wpAny _ _ (eval (PySem.Expr.Call (PySem.Expr.Name (Str.ofString "_isoweek1monday") _) _ [] _) _) _ _ _); k_dflt (refine Call_ ?_))
  k_with "eval Call" => (k_here; (with_reducible show wpAny _ _ (eval (PySem.Expr.Call (PySem.Expr.Name (Str.ofString "_law_number") _) _ [] _) _) _ _ _); k_dflt (refine Call_ ?_))
  k_with "eval Call" => (k_here; (with_reducible show wpAny _ _ (eval (PySem.Expr.Call (PySem.Expr.Name (Str.ofString "_law_weeks") _) _ [] _) _) _ _ _); k_dflt (refine Call_ ?_))
  k_with "subscriptTail Name Name ref int" => (k_here; (with_reducible show wpAny _ _ (subscriptTail _ _ (Value.ref 15) (Value.int _ _)) _ _ _); k_dflt (refine' tab_item dimT (by k_asm) (by k_asm) (by k_is) (by walk_at "mine pre") (by walk_at "mine pre") (by walk_at "mine twelve") (by with_unfolding_all rfl) ?_; k_whole); intro t9)
  k_with "subscriptTail Name Name ref int" => (k_here; (with_reducible show wpAny _ _ (subscriptTail _ _ (Value.ref 16) (Value.int _ _)) _ _ _); k_dflt (refine' tab_item dbmT (by k_asm) (by k_asm) (by k_is) (by walk_at "mine pre") (by walk_at "mine pre") (by walk_at "mine twelve") (by with_unfolding_all rfl) ?_; k_whole); intro t9)
  k_with "call ref" => (k_here; (with_reducible show wpAny _ _ (PySem.call (Value.ref 28) _) _ _ _); k_dflt (refine' c_leap (by k_asm) (by k_asm) (by k_asm) (by k_asm) (by k_asm) (by first | exact rfl | assumption) (by ktr_room) (by ktr_units) ?_; k_whole); intro t9 h9 tk9 F9 N9; (try dsimp only); (try k_fold))
  k_with "call ref" => (k_here; (with_reducible show wpAny _ _ (PySem.call (Value.ref 35) _) _ _ _); k_dflt (refine' c_dby (by k_asm) (by k_asm) (by k_asm) (by k_asm) (by k_asm) (by first | exact rfl | assumption) (by ktr_room) (by ktr_units) ?_; k_whole); intro t9 h9 tk9 F9 N9; (try dsimp only); (try k_fold))
  k_with "call ref" => (k_here; (with_reducible show wpAny _ _ (PySem.call (Value.ref 42) _) _ _ _); k_dflt (refine' c_dim (by k_asm) (by k_asm) (by k_asm) (by k_asm) (by k_asm) (by first | exact rfl | assumption) (by ktr_room) (by ktr_units) (by walk_at "mine pre") (by walk_at "mine pre") ?_; k_whole); intro t9 h9 tk9 F9 N9; (try dsimp only); (try k_fold))
  k_with "call ref" => (k_here; (with_reducible show wpAny _ _ (PySem.call (Value.ref 49) _) _ _ _); k_dflt (refine' c_dbm (by k_asm) (by k_asm) (by k_asm) (by k_asm) (by k_asm) (by first | exact rfl | assumption) (by ktr_room) (by ktr_units) (by walk_at "mine pre") (by walk_at "mine pre") ?_; k_whole); intro t9 h9 tk9 F9 N9; (try dsimp only); (try k_fold))
  k_with "call ref" => (k_here; (with_reducible show wpAny _ _ (PySem.call (Value.ref 56) _) _ _ _); k_dflt (refine' c_ord (by k_asm) (by k_asm) (by k_asm) (by k_asm) (by k_asm) (by first | exact rfl | assumption) (by ktr_room) (by ktr_units) (by walk_at "mine pre") (by walk_at "mine pre") (by walk_at "mine pre") (by walk_at "mine pre") ?_; k_whole); intro t9 h9 tk9 hv9 F9 N9; (try dsimp only); (try k_fold))
  k_with "call builtin:divmod" => (k_here; (with_reducible show wpAny _ _ (PySem.call _ [Value.int _ _, Value.int _ _]) _ _ _); k_dflt (refine' divmod_gen (by k_asm) (by k_asm) (by decide) (by decide) ?_; k_whole); intro q' r' D' h' t1' t2' tk' dvE dvL dvU F' N' l1; (try simp only [AllLt] at l1); (try k_sweep))
  k_with "mine dec" => exact Dec.mk (by with_reducible assumption) (by with_reducible assumption) (by with_reducible assumption) (by with_reducible assumption) (by with_reducible assumption) (by with_reducible assumption) (by with_reducible assumption) (by with_reducible assumption) (by with_reducible assumption) (by with_reducible assumption) (by with_reducible assumption) (by with_reducible assumption)
  k_with "eval BoolOp And" => (k_here; (with_reducible show wpAny _ _ (eval (PySem.Expr.BoolOp BoolOp.And [PySem.Expr.Compare (PySem.Expr.Name (Str.ofString "n1") _) _ _ _, _] _) _) _ _ _); (fail_if_success (with_reducible show wpAny _ _ _ (fun v s' => CutB _ _ _ _ _ _ v s') _ _)); obtain ⟨z9, y9, hy8, hz8, hz9, hz7, hy7⟩ := o2y_year (by walk_at "mine dec") (by with_reducible assumption) (by with_reducible assumption); refine' cut_bool z9 (by k_asm) (by k_asm) ?_ ?_; rotate_left; (intro tk' h' F' N'; (try dsimp only); (try k_sweep)); rotate_left)
  k_with "eval BoolOp And" => (k_here; (with_reducible show wpAny _ _ (eval (PySem.Expr.BoolOp BoolOp.And [PySem.Expr.Compare (PySem.Expr.Name (Str.ofString "month") _) [CmpOp.Gt] _ _, PySem.Expr.Name (Str.ofString "leapyear") _] _) _) _ _ _); (fail_if_success (with_reducible show wpAny _ _ _ (fun v s' => CutB _ _ _ _ _ _ v s') _ _)); refine' cut_iff (P := ((2 : Int) < _ ∧ _ = true)) (by with_reducible assumption) (by k_asm) (by k_asm) ?_ ?_; rotate_left; (intro tk' h' F' N'; (try dsimp only); (try k_sweep)); rotate_left)
  k_with "eval BoolOp And" => (k_here; (with_reducible show wpAny _ _ (eval (PySem.Expr.BoolOp BoolOp.And [PySem.Expr.Compare (PySem.Expr.Name (Str.ofString "month") _) [CmpOp.Eq] _ _, PySem.Expr.Name (Str.ofString "leapyear") _] _) _) _ _ _); (fail_if_success (with_reducible show wpAny _ _ _ (fun v s' => CutB _ _ _ _ _ _ v s') _ _)); refine' cut_iff (P := (_ = (2 : Int) ∧ _ = true)) (by with_reducible assumption) (by k_asm) (by k_asm) ?_ ?_; rotate_left; (intro tk' h' F' N'; (try dsimp only); (try k_sweep)); rotate_left)
  k_with "CutB" => (refine CutB.intro (by k_asm) (by k_asm) ?_; refine iff_bool ?_; refine Iff.trans ?_ (Iff.symm (by with_reducible assumption)); first | exact w_y1 (by with_reducible assumption) (by with_reducible assumption) | exact w_y2 (by with_reducible assumption) (by with_reducible assumption) | exact w_y3 (by with_reducible assumption) | exact w_gt (by with_reducible assumption) | exact w_ngt (by with_reducible assumption) | exact w_eq (by with_reducible assumption) | exact w_neq (by with_reducible assumption))
  k_with "compareOp Eq bool bool" => (k_here; refine cmp_bool_tt (by with_reducible assumption) ?_)
  k_with "binaryOp RShift int int" => (k_here; refine rshift5_gen ?_; intro q9 t9 hq8 hq9; obtain ⟨hm1, hm2, hm3, hm4⟩ := o2y_month (by with_reducible assumption) (by with_reducible assumption) (by with_reducible assumption) hq8 hq9; obtain ⟨b8, hb8, hb7⟩ := o2y_gt2 (q := q9) (by with_reducible assumption); obtain ⟨b9, hb9, hb6⟩ := o2y_eq2 (q := q9 - 1) (by with_reducible assumption))
  k_with "mine endA" => exact o2y_endA (by with_reducible assumption) (by with_reducible assumption) (by with_reducible assumption) (by with_reducible assumption) (by with_reducible assumption) (by with_reducible assumption) (by with_reducible assumption)
  k_with "mine endB" => exact o2y_endB (by with_reducible assumption) (by with_reducible assumption) (by with_reducible assumption) (by with_reducible assumption) (by with_reducible assumption) (by with_reducible assumption) (by with_reducible assumption)
  k_with "mine o2y no" => (exfalso; first | with_reducible exact absurd (Dec.last (by walk_at "mine dec") (Or.inl (by with_reducible assumption))).1 (by with_reducible assumption) | with_reducible exact absurd (Dec.last (by walk_at "mine dec") (Or.inr (by with_reducible assumption))).1 (by with_reducible assumption) | with_reducible exact absurd (And.left (by walk_at "mine endA")) (by with_reducible assumption) | with_reducible exact absurd (And.left (And.right (by walk_at "mine endA"))) (by with_reducible assumption) | with_reducible exact absurd (And.left (by walk_at "mine endB")) (by with_reducible assumption) | with_reducible exact absurd (And.left (And.right (by walk_at "mine endB"))) (by with_reducible assumption))
  w_strict (
    revert kK
    k_fill
    intro kK
    refine wpAny_call ?_
    k_dflt cell_enter
    k_steps
    all_goals (first | (refine' ret _ _ _ _ _ _ _ _ _ ?v ?o ?f (news_keep4 ?n) ?l; (case f => k_asm); (case n => k_asm); (case l => walk_at "mine lt"); (case v => first | with_reducible exact (Dec.last (by walk_at "mine dec") (Or.inl (by with_reducible assumption))).2.1 | with_reducible exact (Dec.last (by walk_at "mine dec") (Or.inr (by with_reducible assumption))).2.1 | with_reducible exact And.left (And.right (And.right (by walk_at "mine endA"))) | with_reducible exact And.left (And.right (And.right (by walk_at "mine endB")))); (case o => first | with_reducible exact (Dec.last (by walk_at "mine dec") (Or.inl (by with_reducible assumption))).2.2 | with_reducible exact (Dec.last (by walk_at "mine dec") (Or.inr (by with_reducible assumption))).2.2 | with_reducible exact And.right (And.right (And.right (by walk_at "mine endA"))) | with_reducible exact And.right (And.right (And.right (by walk_at "mine endB"))))) | walk_at "mine o2y no"))
end
theorem c_mon {w : World} {s₀ : Shared} {mg mb : Str → Option Value} {dp un : Nat} {gd : Option (List Code)} {cn : Str} {cs : Scope} {a : Addr} {ccd : Value} {cl : List (Str × Addr)} {outer : List Env} {A₀ : Around} {base h₀ : Heap} {L : Addr} {m : Str → Option Value} {news : List (Addr × Obj)} {s : Shared} {Q E : Value → Shared → Prop} {y : Int} {ty : Tok}
    (kB : Below A₀ base outer h₀) (kF : Fr h₀ L s.heap m) (kK : (hd10.heap_39 w.params).In h₀) (kN : News h₀ L s.heap news) (kT : Top hd10.view_39 (looseW hd10.view_39 [Str.ofString "_DAYS_IN_MONTH", Str.ofString "_DAYS_BEFORE_MONTH", Str.ofString "_DI400Y", Str.ofString "_DI100Y", Str.ofString "_DI4Y"]) (ExcName.means s₀.heap) mg mb h₀) (kk : cs.kind = .function) (kd : dp + 7 < recursionLimit) (ku : un + 56 < cLine) 
    (ret : ∀ (t : Tok) (h' : Heap) (tk' : Nat), Fr h₀ L h' m → News h₀ L h' news → Q (.int (mon y) t) { s with heap := h', toks := tk' }) :
    wpAny (model Challenge.rw_dn0120_10.row.prog w) (ktrTop dp un gd cn cs L a ccd cl outer) (call (.ref 80) [Value.int y ty]) Q E s := by
  w_top off
  k_with_none
  k_with "mine pre" => first | with_reducible assumption | omega | l_fact
  k_with "mine twelve" => (intro k h1 h2; rcases m12 h1 h2 with h | h | h | h | h | h | h | h | h | h | h | h <;> (subst h; exact ⟨_, rfl⟩))
  k_with "mine lt" => first | with_reducible assumption | exact (by with_reducible assumption : _ ∧ AllLt _ _).2 | exact (by with_reducible assumption : _ ∧ _ ∧ AllLt _ _).2.2 | exact (by with_reducible assumption : _ ∧ _ ∧ _ ∧ AllLt _ _).2.2.2 | exact (by with_reducible assumption : _ ∧ _ ∧ _ ∧ _ ∧ AllLt _ _).2.2.2.2
  k_with "eval Call" => (k_here; (with_reducible show wpAny _ _ (eval (PySem.Expr.Call (PySem.Expr.Name (Str.ofString "_is_leap") _) _ [] _) _) _ _ _); k_dflt (refine Call_ ?_))
  k_with "eval Call" => (k_here; (with_reducible show wpAny _ _ (eval (PySem.Expr.Call (PySem.Expr.Name (Str.ofString "_days_before_year") _) _ [] _) _) _ _ _); k_dflt (refine Call_ ?_))
  k_with "eval Call" => (k_here; (with_reducible show wpAny _ _ (eval (PySem.Expr.Call (PySem.Expr.Name (Str.ofString "_days_in_month") _) _ [] _) _) _ _ _); k_dflt (refine Call_ ?_))
  k_with "eval Call" => (k_here; (with_reducible show wpAny _ _ (eval (PySem.Expr.Call (PySem.Expr.Name (Str.ofString "_days_before_month") _) _ [] _) _) _ _ _); k_dflt (refine Call_ ?_))
  k_with "eval Call" => (k_here; (with_reducible show wpAny _ _ (eval (PySem.Expr.Call (PySem.Expr.Name (Str.ofString "_ymd2ord") _) _ [] _) _) _ _ _); k_dflt (refine Call_ ?_))
  k_with "eval Call" => (k_here; (with_reducible show wpAny _ _ (eval (PySem.Expr.Call (PySem.Expr.Name (Str.ofString "_ord2ymd") _) _ [] _) _) _ _ _); k_dflt (refine Call_ ?_))
  k_with "eval Call" => (k_here; (with_reducible show wpAny _ _ (eval (PySem.Expr.Call (PySem.Expr.Name (Str.ofString "_isoweek_to_gregorian") _) _ [] _) _) _ _ _); k_dflt (refine Call_ ?_))
  k_with "eval Call" => (k_here; (with_reducible show wpAny _ _ (eval (PySem.Expr.Call (PySem.Expr.Name (Str.ofString "_isoweek1monday") _) _ [] _) _) _ _ _); k_dflt (refine Call_ ?_))
  k_with "eval Call" => (k_here; (with_reducible show wpAny _ _ (eval (PySem.Expr.Call (PySem.Expr.Name (Str.ofString "_law_number") _) _ [] _) _) _ _ _); k_dflt (refine Call_ ?_))
  k_with "eval Call" => (k_here; (with_reducible show wpAny _ _ (eval (PySem.Expr.Call (PySem.Expr.Name (Str.ofString "_law_weeks") _) _ [] _) _) _ _ _); k_dflt (refine Call_ ?_))
  k_with "subscriptTail Name Name ref int" => (k_here; (with_reducible show wpAny _ _ (subscriptTail _ _ (Value.ref 15) (Value.int _ _)) _ _ _); k_dflt (refine' tab_item dimT (by k_asm) (by k_asm) (by k_is) (by walk_at "mine pre") (by walk_at "mine pre") (by walk_at "mine twelve") (by with_unfolding_all rfl) ?_; k_whole); intro t9)
  k_with "subscriptTail Name Name ref int" => (k_here; (with_reducible show wpAny _ _ (subscriptTail _ _ (Value.ref 16) (Value.int _ _)) _ _ _); k_dflt (refine' tab_item dbmT (by k_asm) (by k_asm) (by k_is) (by walk_at "mine pre") (by walk_at "mine pre") (by walk_at "mine twelve") (by with_unfolding_all rfl) ?_; k_whole); intro t9)
  k_with "call ref" => (k_here; (with_reducible show wpAny _ _ (PySem.call (Value.ref 28) _) _ _ _); k_dflt (refine' c_leap (by k_asm) (by k_asm) (by k_asm) (by k_asm) (by k_asm) (by first | exact rfl | assumption) (by ktr_room) (by ktr_units) ?_; k_whole); intro t9 h9 tk9 F9 N9; (try dsimp only); (try k_fold))
  k_with "call ref" => (k_here; (with_reducible show wpAny _ _ (PySem.call (Value.ref 35) _) _ _ _); k_dflt (refine' c_dby (by k_asm) (by k_asm) (by k_asm) (by k_asm) (by k_asm) (by first | exact rfl | assumption) (by ktr_room) (by ktr_units) ?_; k_whole); intro t9 h9 tk9 F9 N9; (try dsimp only); (try k_fold))
  k_with "call ref" => (k_here; (with_reducible show wpAny _ _ (PySem.call (Value.ref 42) _) _ _ _); k_dflt (refine' c_dim (by k_asm) (by k_asm) (by k_asm) (by k_asm) (by k_asm) (by first | exact rfl | assumption) (by ktr_room) (by ktr_units) (by walk_at "mine pre") (by walk_at "mine pre") ?_; k_whole); intro t9 h9 tk9 F9 N9; (try dsimp only); (try k_fold))
  k_with "call ref" => (k_here; (with_reducible show wpAny _ _ (PySem.call (Value.ref 49) _) _ _ _); k_dflt (refine' c_dbm (by k_asm) (by k_asm) (by k_asm) (by k_asm) (by k_asm) (by first | exact rfl | assumption) (by ktr_room) (by ktr_units) (by walk_at "mine pre") (by walk_at "mine pre") ?_; k_whole); intro t9 h9 tk9 F9 N9; (try dsimp only); (try k_fold))
  k_with "call ref" => (k_here; (with_reducible show wpAny _ _ (PySem.call (Value.ref 56) _) _ _ _); k_dflt (refine' c_ord (by k_asm) (by k_asm) (by k_asm) (by k_asm) (by k_asm) (by first | exact rfl | assumption) (by ktr_room) (by ktr_units) (by walk_at "mine pre") (by walk_at "mine pre") (by walk_at "mine pre") (by walk_at "mine pre") ?_; k_whole); intro t9 h9 tk9 hv9 F9 N9; (try dsimp only); (try k_fold))
  k_with "mine pre" => first | with_reducible assumption | omega | with_reducible exact dim_one (by decide) (by decide) | l_fact
  w_strict (
    revert kK
    k_fill
    intro kK
    refine wpAny_call ?_
    k_dflt cell_enter
    k_steps
    k_with "tree" => (with_reducible first | exact w_mon1 (by assumption) | exact w_mon2 (by assumption))
    all_goals cb_end ret)
local macro_rules | `(tactic| walk_at "call ref") => `(tactic| (k_here; (with_reducible show wpAny _ _ (PySem.call (Value.ref 73) _) _ _ _); k_dflt (refine wpAny_call ?_; (refine' code_def ?k1 ?k2 ?k3 ?k4 ?k5 ?kA ?kF ?kK ?k6 ?k7 ?k8 ?k9 ?kB ?_ ?c2 ?c3 ?c4 ?c5; (case kA => exact rfl); (case kF => exact rfl); (case kK => first | exact rfl | assumption); (case k1 => k_asm); (case k2 => k_asm); (case k3 => k_asm); (case k4 => k_asm); (case k5 => k_asm); (case k6 => k_is); (case k7 => k_is); (case k8 => ktr_room); (case k9 => exact BindsTo.of_eq rfl); (case c5 => decide); (case kB => exact locs rfl); (case c2 => exact rfl); (case c3 => exact rfl); (case c4 => exact rfl); k_whole; intro g' L' h' FG' F' N' B' X' T'; (try dsimp only); (try k_lift B'); (try k_fold)))))
local macro_rules | `(tactic| walk_at $s:str) => `(tactic| k_extra $s)
theorem c_iso {w : World} {s₀ : Shared} {mg mb : Str → Option Value} {dp un : Nat} {gd : Option (List Code)} {cn : Str} {cs : Scope} {a : Addr} {ccd : Value} {cl : List (Str × Addr)} {outer : List Env} {A₀ : Around} {base h₀ : Heap} {L : Addr} {m : Str → Option Value} {news : List (Addr × Obj)} {s : Shared} {Q E : Value → Shared → Prop} {y : Int} {ty : Tok} {k : Int} {tk : Tok} {d : Int} {td : Tok}
    (kB : Below A₀ base outer h₀) (kF : Fr h₀ L s.heap m) (kK : (hd10.heap_39 w.params).In h₀) (kN : News h₀ L s.heap news) (kT : Top hd10.view_39 (looseW hd10.view_39 [Str.ofString "_DAYS_IN_MONTH", Str.ofString "_DAYS_BEFORE_MONTH", Str.ofString "_DI400Y", Str.ofString "_DI100Y", Str.ofString "_DI4Y"]) (ExcName.means s₀.heap) mg mb h₀) (kk : cs.kind = .function) (kd : dp + 10 < recursionLimit) (ku : un + 80 < cLine) (a1 : 1 ≤ y) (a2 : y ≤ 9999) (b1 : 1 ≤ k) (b2 : k ≤ weeks y) (c1 : 1 ≤ d) (c2 : d ≤ 7)
    (ret : ∀ (D : Addr) (yy mm dd : Int) (t1 t2 t3 : Tok) (h' : Heap) (tk' : Nat), Valid yy mm dd → ord yy mm dd = num y k d → Fr h₀ L h' m → News h₀ L h' ((D, ({ cls := .type "tuple", data := .seq #[.int yy t1, .int mm t2, .int dd t3] } : Obj)) :: news) → AllLt D news → Q (.ref D) { s with heap := h', toks := tk' }) :
    wpAny (model Challenge.rw_dn0120_10.row.prog w) (ktrTop dp un gd cn cs L a ccd cl outer) (call (.ref 73) [Value.int y ty, Value.int k tk, Value.int d td]) Q E s := by
  w_top off
  k_with_none
  k_with "mine pre" => first | with_reducible assumption | omega | l_fact
  k_with "mine twelve" => (intro k h1 h2; rcases m12 h1 h2 with h | h | h | h | h | h | h | h | h | h | h | h <;> (subst h; exact ⟨_, rfl⟩))
  k_with "mine lt" => first | with_reducible assumption | exact (by with_reducible assumption : _ ∧ AllLt _ _).2 | exact (by with_reducible assumption : _ ∧ _ ∧ AllLt _ _).2.2 | exact (by with_reducible assumption : _ ∧ _ ∧ _ ∧ AllLt _ _).2.2.2 | exact (by with_reducible assumption : _ ∧ _ ∧ _ ∧ _ ∧ AllLt _ _).2.2.2.2
  k_with "eval Call" => (k_here; (with_reducible show wpAny _ _ (eval (PySem.Expr.Call (PySem.Expr.Name (Str.ofString "_is_leap") _) _ [] _) _) _ _ _); k_dflt (refine Call_ ?_))
  k_with "eval Call" => (k_here; (with_reducible show wpAny _ _ (eval (PySem.Expr.Call (PySem.Expr.Name (Str.ofString "_days_before_year") _) _ [] _) _) _ _ _); k_dflt (refine Call_ ?_))
  k_with "eval Call" => (k_here; (with_reducible show wpAny _ _ (eval (PySem.Expr.Call (PySem.Expr.Name (Str.ofString "_days_in_month") _) _ [] _) _) _ _ _); k_dflt (refine Call_ ?_))
  k_with "eval Call" => (k_here; (with_reducible show wpAny _ _ (eval (PySem.Expr.Call (PySem.Expr.Name (Str.ofString "_days_before_month") _) _ [] _) _) _ _ _); k_dflt (refine Call_ ?_))
  k_with "eval Call" => (k_here; (with_reducible show wpAny _ _ (eval (PySem.Expr.Call (PySem.Expr.Name (Str.ofString "_ymd2ord") _) _ [] _) _) _ _ _); k_dflt (refine Call_ ?_))
  k_with "eval Call" => (k_here; (with_reducible show wpAny _ _ (eval (PySem.Expr.Call (PySem.Expr.Name (Str.ofString "_ord2ymd") _) _ [] _) _) _ _ _); k_dflt (refine Call_ ?_))
  k_with "eval Call" => (k_here; (with_reducible show wpAny _ _ (eval (PySem.Expr.Call (PySem.Expr.Name (Str.ofString "_isoweek_to_gregorian") _) _ [] _) _) _ _ _); k_dflt (refine Call_ ?_))
  k_with "eval Call" => (k_here; (with_reducible show wpAny _ _ (eval (PySem.Expr.Call (PySem.Expr.Name (Str.ofString "_isoweek1monday") _) _ [] _) _) _ _ _); k_dflt (refine Call_ ?_))
  k_with "eval Call" => (k_here; (with_reducible show wpAny _ _ (eval (PySem.Expr.Call (PySem.Expr.Name (Str.ofString "_law_number") _) _ [] _) _) _ _ _); k_dflt (refine Call_ ?_))
  k_with "eval Call" => (k_here; (with_reducible show wpAny _ _ (eval (PySem.Expr.Call (PySem.Expr.Name (Str.ofString "_law_weeks") _) _ [] _) _) _ _ _); k_dflt (refine Call_ ?_))
  k_with "subscriptTail Name Name ref int" => (k_here; (with_reducible show wpAny _ _ (subscriptTail _ _ (Value.ref 15) (Value.int _ _)) _ _ _); k_dflt (refine' tab_item dimT (by k_asm) (by k_asm) (by k_is) (by walk_at "mine pre") (by walk_at "mine pre") (by walk_at "mine twelve") (by with_unfolding_all rfl) ?_; k_whole); intro t9)
  k_with "subscriptTail Name Name ref int" => (k_here; (with_reducible show wpAny _ _ (subscriptTail _ _ (Value.ref 16) (Value.int _ _)) _ _ _); k_dflt (refine' tab_item dbmT (by k_asm) (by k_asm) (by k_is) (by walk_at "mine pre") (by walk_at "mine pre") (by walk_at "mine twelve") (by with_unfolding_all rfl) ?_; k_whole); intro t9)
  k_with "call ref" => (k_here; (with_reducible show wpAny _ _ (PySem.call (Value.ref 28) _) _ _ _); k_dflt (refine' c_leap (by k_asm) (by k_asm) (by k_asm) (by k_asm) (by k_asm) (by first | exact rfl | assumption) (by ktr_room) (by ktr_units) ?_; k_whole); intro t9 h9 tk9 F9 N9; (try dsimp only); (try k_fold))
  k_with "call ref" => (k_here; (with_reducible show wpAny _ _ (PySem.call (Value.ref 35) _) _ _ _); k_dflt (refine' c_dby (by k_asm) (by k_asm) (by k_asm) (by k_asm) (by k_asm) (by first | exact rfl | assumption) (by ktr_room) (by ktr_units) ?_; k_whole); intro t9 h9 tk9 F9 N9; (try dsimp only); (try k_fold))
  k_with "call ref" => (k_here; (with_reducible show wpAny _ _ (PySem.call (Value.ref 42) _) _ _ _); k_dflt (refine' c_dim (by k_asm) (by k_asm) (by k_asm) (by k_asm) (by k_asm) (by first | exact rfl | assumption) (by ktr_room) (by ktr_units) (by walk_at "mine pre") (by walk_at "mine pre") ?_; k_whole); intro t9 h9 tk9 F9 N9; (try dsimp only); (try k_fold))
  k_with "call ref" => (k_here; (with_reducible show wpAny _ _ (PySem.call (Value.ref 49) _) _ _ _); k_dflt (refine' c_dbm (by k_asm) (by k_asm) (by k_asm) (by k_asm) (by k_asm) (by first | exact rfl | assumption) (by ktr_room) (by ktr_units) (by walk_at "mine pre") (by walk_at "mine pre") ?_; k_whole); intro t9 h9 tk9 F9 N9; (try dsimp only); (try k_fold))
  k_with "call ref" => (k_here; (with_reducible show wpAny _ _ (PySem.call (Value.ref 56) _) _ _ _); k_dflt (refine' c_ord (by k_asm) (by k_asm) (by k_asm) (by k_asm) (by k_asm) (by first | exact rfl | assumption) (by ktr_room) (by ktr_units) (by walk_at "mine pre") (by walk_at "mine pre") (by walk_at "mine pre") (by walk_at "mine pre") ?_; k_whole); intro t9 h9 tk9 hv9 F9 N9; (try dsimp only); (try k_fold))
  k_with "mine pre" => first | with_reducible assumption | omega | with_reducible exact dim_one (by decide) (by decide) | l_fact
  k_with "call ref" => (k_here; (with_reducible show wpAny _ _ (PySem.call (Value.ref 80) _) _ _ _); k_dflt (refine' c_mon (by k_asm) (by k_asm) (by k_asm) (by k_asm) (by k_asm) (by first | exact rfl | assumption) (by ktr_room) (by ktr_units) ?_; k_whole); intro t9 h9 tk9 F9 N9; (try dsimp only); (try k_fold))
  k_with "call ref" => (k_here; (with_reducible show wpAny _ _ (PySem.call (Value.ref 66) _) _ _ _); k_dflt (refine' c_o2y (by k_asm) (by k_asm) (by k_asm) (by k_asm) (by k_asm) (by first | exact rfl | assumption) (by ktr_room) (by ktr_units) ?_; k_whole); intro D9 yy9 mm9 dd9 t7 t8 t9 h9 tk9 hV9 hO9 F9 N9 l9; (try simp only [AllLt, and_true] at l9); (try dsimp only); (try k_fold))
  k_with "compareOp Lt int int" => (k_here; k_dflt (first | refine lt_yes (by omega) ?_ | refine lt_no (by omega) ?_))
  k_with "compareOp LtE int int" => (k_here; k_dflt (first | refine le_yes (by omega) ?_ | refine le_no (by omega) ?_))
  k_with "compareOp Gt int int" => (k_here; k_dflt (first | refine gt_yes (by omega) ?_ | refine gt_no (by omega) ?_))
  k_with "compareOp Eq int int" => (k_here; k_dflt (first | refine eq_yes (by omega) ?_ | refine eq_no (by omega) ?_))
  w_strict (
    revert kK
    k_fill
    intro kK
    rcases iso_cases b2 with hw | ⟨rfl, hw⟩ | ⟨rfl, hw, hw'⟩ <;> (
      refine wpAny_call ?_
      k_dflt cell_enter
      k_steps
      all_goals (exact ret _ _ _ _ _ _ _ _ _ (by with_reducible assumption) (num_eq (by with_reducible assumption)) (by k_asm) (by k_asm) (by with_reducible assumption))))
section
theorem c_num {w : World} {s₀ : Shared} {mg mb : Str → Option Value} {dp un : Nat} {gd : Option (List Code)} {cn : Str} {cs : Scope} {a : Addr} {ccd : Value} {cl : List (Str × Addr)} {A₀ : Around} {base h₀ : Heap} {L : Addr} {m : Str → Option Value} {news : List (Addr × Obj)} {s : Shared} {Q E : Value → Shared → Prop} {y : Int} {ty : Tok} {k : Int} {tk : Tok} {d : Int} {td : Tok}
    (kB : Below A₀ base [] h₀) (kF : Fr h₀ L s.heap m) (kK : (hd10.heap_39 w.params).In h₀) (kN : News h₀ L s.heap news) (kT : Top hd10.view_39 (looseW hd10.view_39 [Str.ofString "_DAYS_IN_MONTH", Str.ofString "_DAYS_BEFORE_MONTH", Str.ofString "_DI400Y", Str.ofString "_DI100Y", Str.ofString "_DI4Y"]) (ExcName.means s₀.heap) mg mb h₀) (kXB : (hd10.heap_39 w.params).In base) (kTB : Top hd10.view_39 (looseW hd10.view_39 [Str.ofString "_DAYS_IN_MONTH", Str.ofString "_DAYS_BEFORE_MONTH", Str.ofString "_DI400Y", Str.ofString "_DI100Y", Str.ofString "_DI4Y"]) (ExcName.means s₀.heap) mg mb base) (kk : cs.kind = .function) (kd : dp + 14 < recursionLimit) (ku : un + 112 < cLine) (a1 : 1 ≤ y) (a2 : y ≤ 9999) (b1 : 1 ≤ k) (b2 : k ≤ 53) (c1 : 1 ≤ d) (c2 : d ≤ 7)
    (ret : ∀ (v : Value) (h' : Heap) (tk' : Nat), NumV y k d v → Fr h₀ L h' m → News h₀ L h' news → Q v { s with heap := h', toks := tk' }) :
    wpAny (model Challenge.rw_dn0120_10.row.prog w) (ktrTop dp un gd cn cs L a ccd cl []) (call (.ref 87) [Value.int y ty, Value.int k tk, Value.int d td]) Q E s := by
  w_top off
  k_with_none
  k_with "mine pre" => first | with_reducible assumption | omega | l_fact
  k_with "mine twelve" => (intro k h1 h2; rcases m12 h1 h2 with h | h | h | h | h | h | h | h | h | h | h | h <;> (subst h; exact ⟨_, rfl⟩))
  k_with "mine lt" => first | with_reducible assumption | exact (by with_reducible assumption : _ ∧ AllLt _ _).2 | exact (by with_reducible assumption : _ ∧ _ ∧ AllLt _ _).2.2 | exact (by with_reducible assumption : _ ∧ _ ∧ _ ∧ AllLt _ _).2.2.2 | exact (by with_reducible assumption : _ ∧ _ ∧ _ ∧ _ ∧ AllLt _ _).2.2.2.2
  k_with "eval Call" => (k_here; (with_reducible show wpAny _ _ (eval (PySem.Expr.Call (PySem.Expr.Name (Str.ofString "_is_leap") _) _ [] _) _) _ _ _); k_dflt (refine Call_ ?_))
  k_with "eval Call" => (k_here; (with_reducible show wpAny _ _ (eval (PySem.Expr.Call (PySem.Expr.Name (Str.ofString "_days_before_year") _) _ [] _) _) _ _ _); k_dflt (refine Call_ ?_))
  k_with "eval Call" => (k_here; (with_reducible show wpAny _ _ (eval (PySem.Expr.Call (PySem.Expr.Name (Str.ofString "_days_in_month") _) _ [] _) _) _ _ _); k_dflt (refine Call_ ?_))
  k_with "eval Call" => (k_here; (with_reducible show wpAny _ _ (eval (PySem.Expr.Call (PySem.Expr.Name (Str.ofString "_days_before_month") _) _ [] _) _) _ _ _); k_dflt (refine Call_ ?_))
  k_with "eval Call" => (k_here; (with_reducible show wpAny _ _ (eval (PySem.Expr.Call (PySem.Expr.Name (Str.ofString "_ymd2ord") _) _ [] _) _) _ _ _); k_dflt (refine Call_ ?_))
  k_with "eval Call" => (k_here; (with_reducible show wpAny _ _ (eval (PySem.Expr.Call (PySem.Expr.Name (Str.ofString "_ord2ymd") _) _ [] _) _) _ _ _); k_dflt (refine Call_ ?_))
  k_with "eval Call" => (k_here; (with_reducible show wpAny _ _ (eval (PySem.Expr.Call (PySem.Expr.Name (Str.ofString "_isoweek_to_gregorian") _) _ [] _) _) _ _ _); k_dflt (refine Call_ ?_))
  k_with "eval Call" => (k_here; (with_reducible show wpAny _ _ (eval (PySem.Expr.Call (PySem.Expr.Name (Str.ofString "_isoweek1monday") _) _ [] _) _) _ _ _); k_dflt (refine Call_ ?_))
  k_with "eval Call" => (k_here; (with_reducible show wpAny _ _ (eval (PySem.Expr.Call (PySem.Expr.Name (Str.ofString "_law_number") _) _ [] _) _) _ _ _); k_dflt (refine Call_ ?_))
  k_with "eval Call" => (k_here; (with_reducible show wpAny _ _ (eval (PySem.Expr.Call (PySem.Expr.Name (Str.ofString "_law_weeks") _) _ [] _) _) _ _ _); k_dflt (refine Call_ ?_))
  k_with "subscriptTail Name Name ref int" => (k_here; (with_reducible show wpAny _ _ (subscriptTail _ _ (Value.ref 15) (Value.int _ _)) _ _ _); k_dflt (refine' tab_item dimT (by k_asm) (by k_asm) (by k_is) (by walk_at "mine pre") (by walk_at "mine pre") (by walk_at "mine twelve") (by with_unfolding_all rfl) ?_; k_whole); intro t9)
  k_with "subscriptTail Name Name ref int" => (k_here; (with_reducible show wpAny _ _ (subscriptTail _ _ (Value.ref 16) (Value.int _ _)) _ _ _); k_dflt (refine' tab_item dbmT (by k_asm) (by k_asm) (by k_is) (by walk_at "mine pre") (by walk_at "mine pre") (by walk_at "mine twelve") (by with_unfolding_all rfl) ?_; k_whole); intro t9)
  k_with "call ref" => (k_here; (with_reducible show wpAny _ _ (PySem.call (Value.ref 28) _) _ _ _); k_dflt (refine' c_leap (by k_asm) (by k_asm) (by k_asm) (by k_asm) (by k_asm) (by first | exact rfl | assumption) (by ktr_room) (by ktr_units) ?_; k_whole); intro t9 h9 tk9 F9 N9; (try dsimp only); (try k_fold))
  k_with "call ref" => (k_here; (with_reducible show wpAny _ _ (PySem.call (Value.ref 35) _) _ _ _); k_dflt (refine' c_dby (by k_asm) (by k_asm) (by k_asm) (by k_asm) (by k_asm) (by first | exact rfl | assumption) (by ktr_room) (by ktr_units) ?_; k_whole); intro t9 h9 tk9 F9 N9; (try dsimp only); (try k_fold))
  k_with "call ref" => (k_here; (with_reducible show wpAny _ _ (PySem.call (Value.ref 42) _) _ _ _); k_dflt (refine' c_dim (by k_asm) (by k_asm) (by k_asm) (by k_asm) (by k_asm) (by first | exact rfl | assumption) (by ktr_room) (by ktr_units) (by walk_at "mine pre") (by walk_at "mine pre") ?_; k_whole); intro t9 h9 tk9 F9 N9; (try dsimp only); (try k_fold))
  k_with "call ref" => (k_here; (with_reducible show wpAny _ _ (PySem.call (Value.ref 49) _) _ _ _); k_dflt (refine' c_dbm (by k_asm) (by k_asm) (by k_asm) (by k_asm) (by k_asm) (by first | exact rfl | assumption) (by ktr_room) (by ktr_units) (by walk_at "mine pre") (by walk_at "mine pre") ?_; k_whole); intro t9 h9 tk9 F9 N9; (try dsimp only); (try k_fold))
  k_with "call ref" => (k_here; (with_reducible show wpAny _ _ (PySem.call (Value.ref 56) _) _ _ _); k_dflt (refine' c_ord (by k_asm) (by k_asm) (by k_asm) (by k_asm) (by k_asm) (by first | exact rfl | assumption) (by ktr_room) (by ktr_units) (by walk_at "mine pre") (by walk_at "mine pre") (by walk_at "mine pre") (by walk_at "mine pre") ?_; k_whole); intro t9 h9 tk9 hv9 F9 N9; (try dsimp only); (try k_fold))
  k_with "mine pre" => first | with_reducible assumption | omega | with_reducible exact dim_one (by decide) (by decide) | l_fact
  k_with "call ref" => (k_here; (with_reducible show wpAny _ _ (PySem.call (Value.ref 80) _) _ _ _); k_dflt (refine' c_mon (by k_asm) (by k_asm) (by k_asm) (by k_asm) (by k_asm) (by first | exact rfl | assumption) (by ktr_room) (by ktr_units) ?_; k_whole); intro t9 h9 tk9 F9 N9; (try dsimp only); (try k_fold))
  k_with "call ref" => (k_here; (with_reducible show wpAny _ _ (PySem.call (Value.ref 66) _) _ _ _); k_dflt (refine' c_o2y (by k_asm) (by k_asm) (by k_asm) (by k_asm) (by k_asm) (by first | exact rfl | assumption) (by ktr_room) (by ktr_units) ?_; k_whole); intro D9 yy9 mm9 dd9 t7 t8 t9 h9 tk9 hV9 hO9 F9 N9 l9; (try simp only [AllLt, and_true] at l9); (try dsimp only); (try k_fold))
  k_with "compareOp Lt int int" => (k_here; k_dflt (first | refine lt_yes (by omega) ?_ | refine lt_no (by omega) ?_))
  k_with "compareOp LtE int int" => (k_here; k_dflt (first | refine le_yes (by omega) ?_ | refine le_no (by omega) ?_))
  k_with "compareOp Gt int int" => (k_here; k_dflt (first | refine gt_yes (by omega) ?_ | refine gt_no (by omega) ?_))
  k_with "compareOp Eq int int" => (k_here; k_dflt (first | refine eq_yes (by omega) ?_ | refine eq_no (by omega) ?_))
  k_with "call ref" => (k_here; (with_reducible show wpAny _ _ (PySem.call (Value.ref 73) _) _ _ _); k_dflt (refine' c_iso (by k_asm) (by k_asm) (by k_asm) (by k_asm) (by k_asm) (by first | exact rfl | assumption) (by ktr_room) (by ktr_units) (by walk_at "mine pre") (by walk_at "mine pre") (by walk_at "mine pre") (by walk_at "mine pre") (by walk_at "mine pre") (by walk_at "mine pre") ?_; k_whole); intro D9 yy9 mm9 dd9 t7 t8 t9 h9 tk9 hV9 hO9 F9 N9 l9; k_dflt (obtain ⟨hv1, hv2, hv3, hv4⟩ := id hV9); (try simp only [AllLt, and_true] at l9); (try dsimp only); (try k_fold))
  w_strict (
    revert kK
    k_fill
    intro kK
    by_cases hw : k ≤ weeks y
    · refine wpAny_call ?_
      k_dflt (refine' enterT ?k1 ?k2 ?k3 ?k4 ?k5 ?kA ?kK ?k6 ?k7 ?k8 ?k9 ?kB ?_ ?c2 ?c3 ?c4 ?c5; (case kA => exact rfl); (case kK => first | exact rfl | assumption); (case k1 => k_asm); (case k2 => k_asm); (case k3 => k_asm); (case k4 => k_asm); (case k5 => k_asm); (case k6 => k_is); (case k7 => k_is); (case k8 => ktr_room); (case k9 => exact BindsTo.of_eq rfl); (case c5 => decide); (case kB => exact locs rfl); (case c2 => exact rfl); (case c3 => exact rfl); (case c4 => exact rfl); k_whole; intro g' L' h' FG' F' N' B' X' T' D'; (try dsimp only); (try k_lift B'); (try k_fold))
      k_steps
      all_goals (exact ret _ _ _ (numV_int hw (by with_reducible assumption)) (by k_asm) (by first | k_asm | exact news_tail (by assumption)))
    · obtain ⟨rfl, hw1, hw2⟩ := iso_no b2 hw
      rcases hw2 with hw2 | hw2
      all_goals (
        refine wpAny_call ?_
        k_dflt (refine' enterT ?k1 ?k2 ?k3 ?k4 ?k5 ?kA ?kK ?k6 ?k7 ?k8 ?k9 ?kB ?_ ?c2 ?c3 ?c4 ?c5; (case kA => exact rfl); (case kK => first | exact rfl | assumption); (case k1 => k_asm); (case k2 => k_asm); (case k3 => k_asm); (case k4 => k_asm); (case k5 => k_asm); (case k6 => k_is); (case k7 => k_is); (case k8 => ktr_room); (case k9 => exact BindsTo.of_eq rfl); (case c5 => decide); (case kB => exact locs rfl); (case c2 => exact rfl); (case c3 => exact rfl); (case c4 => exact rfl); k_whole; intro g' L' h' FG' F' N' B' X' T' D'; (try dsimp only); (try k_lift B'); (try k_fold))
        k_steps
        all_goals (exact ret _ _ _ (numV_none hw) (by k_asm) (by first | k_asm | exact news_tail (by assumption)))))
end
section
local macro_rules | `(tactic| walk_at "call ref") => `(tactic| (k_here; (with_reducible show wpAny _ _ (PySem.call (Value.ref 87) _) _ _ _); k_dflt (refine wpAny_call ?_; (refine' code_defS ?k1 ?k2 ?k3 ?k4 ?k5 ?XB ?TB ?D ?T0 ?kA ?k6 ?k7 ?k8 ?k9 ?kB ?_ ?cK ?c2 ?c3 ?c4 ?c5; (case kA => exact rfl); (case k2 => k_asm); (case k1 => k_asm); (case XB => assumption); (case TB => assumption); (case D => assumption); (case T0 => first | assumption | exact KtsTurn.refl); (case k3 => k_asm); (case k4 => k_asm); (case k5 => k_asm); (case k6 => k_is); (case k7 => k_is); (case k8 => ktr_room); (case k9 => exact BindsTo.of_eq rfl); (case kB => exact locs rfl); (case cK => first | exact rfl | assumption); (case c2 => exact rfl); (case c3 => exact rfl); (case c4 => exact rfl); (case c5 => decide); k_whole; intro g' L' h' FG' F' N' B' X' T' D'; (try dsimp only); (try k_lift B'); (try k_fold)))))
local macro_rules | `(tactic| walk_at $s:str) => `(tactic| k_extra $s)
theorem c_weeks {w : World} {s₀ : Shared} {mg mb : Str → Option Value} {dp un : Nat} {gd : Option (List Code)} {cn : Str} {cs : Scope} {a : Addr} {ccd : Value} {cl : List (Str × Addr)} {A₀ : Around} {base h₀ : Heap} {L : Addr} {m : Str → Option Value} {news : List (Addr × Obj)} {s : Shared} {Q E : Value → Shared → Prop} {y : Int} {ty : Tok}
    (kB : Below A₀ base [] h₀) (kF : Fr h₀ L s.heap m) (kK : (hd10.heap_39 w.params).In h₀) (kN : News h₀ L s.heap news) (kT : Top hd10.view_39 (looseW hd10.view_39 [Str.ofString "_DAYS_IN_MONTH", Str.ofString "_DAYS_BEFORE_MONTH", Str.ofString "_DI400Y", Str.ofString "_DI100Y", Str.ofString "_DI4Y"]) (ExcName.means s₀.heap) mg mb h₀) (kXB : (hd10.heap_39 w.params).In base) (kTB : Top hd10.view_39 (looseW hd10.view_39 [Str.ofString "_DAYS_IN_MONTH", Str.ofString "_DAYS_BEFORE_MONTH", Str.ofString "_DI400Y", Str.ofString "_DI100Y", Str.ofString "_DI4Y"]) (ExcName.means s₀.heap) mg mb base) (kk : cs.kind = .function) (kd : dp + 16 < recursionLimit) (ku : un + 128 < cLine) (a1 : 1 ≤ y) (a2 : y ≤ 9999)
    (ret : ∀ (t : Tok) (h' : Heap) (tk' : Nat), Yr y → 52 ≤ weeks y → weeks y ≤ 53 → Fr h₀ L h' m → News h₀ L h' news → Q (.int (weeks y) t) { s with heap := h', toks := tk' }) :
    wpAny (model Challenge.rw_dn0120_10.row.prog w) (ktrTop dp un gd cn cs L a ccd cl []) (call (.ref 94) [Value.int y ty]) Q E s := by
  w_top off
  k_with_none
  k_with "mine pre" => first | with_reducible assumption | omega | l_fact
  k_with "mine twelve" => (intro k h1 h2; rcases m12 h1 h2 with h | h | h | h | h | h | h | h | h | h | h | h <;> (subst h; exact ⟨_, rfl⟩))
  k_with "mine lt" => first | with_reducible assumption | exact (by with_reducible assumption : _ ∧ AllLt _ _).2 | exact (by with_reducible assumption : _ ∧ _ ∧ AllLt _ _).2.2 | exact (by with_reducible assumption : _ ∧ _ ∧ _ ∧ AllLt _ _).2.2.2 | exact (by with_reducible assumption : _ ∧ _ ∧ _ ∧ _ ∧ AllLt _ _).2.2.2.2
  k_with "eval Call" => (k_here; (with_reducible show wpAny _ _ (eval (PySem.Expr.Call (PySem.Expr.Name (Str.ofString "_is_leap") _) _ [] _) _) _ _ _); k_dflt (refine Call_ ?_))
  k_with "eval Call" => (k_here; (with_reducible show wpAny _ _ (eval (PySem.Expr.Call (PySem.Expr.Name (Str.ofString "_days_before_year") _) _ [] _) _) _ _ _); k_dflt (refine Call_ ?_))
  k_with "eval Call" => (k_here; (with_reducible show wpAny _ _ (eval (PySem.Expr.Call (PySem.Expr.Name (Str.ofString "_days_in_month") _) _ [] _) _) _ _ _); k_dflt (refine Call_ ?_))
  k_with "eval Call" => (k_here; (with_reducible show wpAny _ _ (eval (PySem.Expr.Call (PySem.Expr.Name (Str.ofString "_days_before_month") _) _ [] _) _) _ _ _); k_dflt (refine Call_ ?_))
  k_with "eval Call" => (k_here; (with_reducible show wpAny _ _ (eval (PySem.Expr.Call (PySem.Expr.Name (Str.ofString "_ymd2ord") _) _ [] _) _) _ _ _); k_dflt (refine Call_ ?_))
  k_with "eval Call" => (k_here; (with_reducible show wpAny _ _ (eval (PySem.Expr.Call (PySem.Expr.Name (Str.ofString "_ord2ymd") _) _ [] _) _) _ _ _); k_dflt (refine Call_ ?_))
  k_with "eval Call" => (k_here; (with_reducible show wpAny _ _ (eval (PySem.Expr.Call (PySem.Expr.Name (Str.ofString "_isoweek_to_gregorian") _) _ [] _) _) _ _ _); k_dflt (refine Call_ ?_))
  k_with "eval Call" => (k_here; (with_reducible show wpAny _ _ (eval (PySem.Expr.Call (PySem.Expr.Name (Str.ofString "_isoweek1monday") _) _ [] _) _) _ _ _); k_dflt (refine Call_ ?_))
  k_with "eval Call" => (k_here; (with_reducible show wpAny _ _ (eval (PySem.Expr.Call (PySem.Expr.Name (Str.ofString "_law_number") _) _ [] _) _) _ _ _); k_dflt (refine Call_ ?_))
  k_with "eval Call" => (k_here; (with_reducible show wpAny _ _ (eval (PySem.Expr.Call (PySem.Expr.Name (Str.ofString "_law_weeks") _) _ [] _) _) _ _ _); k_dflt (refine Call_ ?_))
  k_with "subscriptTail Name Name ref int" => (k_here; (with_reducible show wpAny _ _ (subscriptTail _ _ (Value.ref 15) (Value.int _ _)) _ _ _); k_dflt (refine' tab_item dimT (by k_asm) (by k_asm) (by k_is) (by walk_at "mine pre") (by walk_at "mine pre") (by walk_at "mine twelve") (by with_unfolding_all rfl) ?_; k_whole); intro t9)
  k_with "subscriptTail Name Name ref int" => (k_here; (with_reducible show wpAny _ _ (subscriptTail _ _ (Value.ref 16) (Value.int _ _)) _ _ _); k_dflt (refine' tab_item dbmT (by k_asm) (by k_asm) (by k_is) (by walk_at "mine pre") (by walk_at "mine pre") (by walk_at "mine twelve") (by with_unfolding_all rfl) ?_; k_whole); intro t9)
  k_with "call ref" => (k_here; (with_reducible show wpAny _ _ (PySem.call (Value.ref 28) _) _ _ _); k_dflt (refine' c_leap (by k_asm) (by k_asm) (by k_asm) (by k_asm) (by k_asm) (by first | exact rfl | assumption) (by ktr_room) (by ktr_units) ?_; k_whole); intro t9 h9 tk9 F9 N9; (try dsimp only); (try k_fold))
  k_with "call ref" => (k_here; (with_reducible show wpAny _ _ (PySem.call (Value.ref 35) _) _ _ _); k_dflt (refine' c_dby (by k_asm) (by k_asm) (by k_asm) (by k_asm) (by k_asm) (by first | exact rfl | assumption) (by ktr_room) (by ktr_units) ?_; k_whole); intro t9 h9 tk9 F9 N9; (try dsimp only); (try k_fold))
  k_with "call ref" => (k_here; (with_reducible show wpAny _ _ (PySem.call (Value.ref 42) _) _ _ _); k_dflt (refine' c_dim (by k_asm) (by k_asm) (by k_asm) (by k_asm) (by k_asm) (by first | exact rfl | assumption) (by ktr_room) (by ktr_units) (by walk_at "mine pre") (by walk_at "mine pre") ?_; k_whole); intro t9 h9 tk9 F9 N9; (try dsimp only); (try k_fold))
  k_with "call ref" => (k_here; (with_reducible show wpAny _ _ (PySem.call (Value.ref 49) _) _ _ _); k_dflt (refine' c_dbm (by k_asm) (by k_asm) (by k_asm) (by k_asm) (by k_asm) (by first | exact rfl | assumption) (by ktr_room) (by ktr_units) (by walk_at "mine pre") (by walk_at "mine pre") ?_; k_whole); intro t9 h9 tk9 F9 N9; (try dsimp only); (try k_fold))
  k_with "call ref" => (k_here; (with_reducible show wpAny _ _ (PySem.call (Value.ref 56) _) _ _ _); k_dflt (refine' c_ord (by k_asm) (by k_asm) (by k_asm) (by k_asm) (by k_asm) (by first | exact rfl | assumption) (by ktr_room) (by ktr_units) (by walk_at "mine pre") (by walk_at "mine pre") (by walk_at "mine pre") (by walk_at "mine pre") ?_; k_whole); intro t9 h9 tk9 hv9 F9 N9; (try dsimp only); (try k_fold))
  k_with "mine pre" => first | with_reducible assumption | omega | with_reducible exact dim_one (by decide) (by decide) | l_fact
  k_with "call ref" => (k_here; (with_reducible show wpAny _ _ (PySem.call (Value.ref 80) _) _ _ _); k_dflt (refine' c_mon (by k_asm) (by k_asm) (by k_asm) (by k_asm) (by k_asm) (by first | exact rfl | assumption) (by ktr_room) (by ktr_units) ?_; k_whole); intro t9 h9 tk9 F9 N9; (try dsimp only); (try k_fold))
  k_with "call ref" => (k_here; (with_reducible show wpAny _ _ (PySem.call (Value.ref 66) _) _ _ _); k_dflt (refine' c_o2y (by k_asm) (by k_asm) (by k_asm) (by k_asm) (by k_asm) (by first | exact rfl | assumption) (by ktr_room) (by ktr_units) ?_; k_whole); intro D9 yy9 mm9 dd9 t7 t8 t9 h9 tk9 hV9 hO9 F9 N9 l9; (try simp only [AllLt, and_true] at l9); (try dsimp only); (try k_fold))
  k_with "compareOp Lt int int" => (k_here; k_dflt (first | refine lt_yes (by omega) ?_ | refine lt_no (by omega) ?_))
  k_with "compareOp LtE int int" => (k_here; k_dflt (first | refine le_yes (by omega) ?_ | refine le_no (by omega) ?_))
  k_with "compareOp Gt int int" => (k_here; k_dflt (first | refine gt_yes (by omega) ?_ | refine gt_no (by omega) ?_))
  k_with "compareOp Eq int int" => (k_here; k_dflt (first | refine eq_yes (by omega) ?_ | refine eq_no (by omega) ?_))
  k_with "call ref" => (k_here; (with_reducible show wpAny _ _ (PySem.call (Value.ref 73) _) _ _ _); k_dflt (refine' c_iso (by k_asm) (by k_asm) (by k_asm) (by k_asm) (by k_asm) (by first | exact rfl | assumption) (by ktr_room) (by ktr_units) (by walk_at "mine pre") (by walk_at "mine pre") (by walk_at "mine pre") (by walk_at "mine pre") (by walk_at "mine pre") (by walk_at "mine pre") ?_; k_whole); intro D9 yy9 mm9 dd9 t7 t8 t9 h9 tk9 hV9 hO9 F9 N9 l9; k_dflt (obtain ⟨hv1, hv2, hv3, hv4⟩ := id hV9); (try simp only [AllLt, and_true] at l9); (try dsimp only); (try k_fold))
  w_strict (
    revert kK
    k_fill
    intro kK
    replace ret := fun t h' tk' => ret t h' tk' Yr.mk (weeks_lo y) (weeks_hi y)
    rcases weeks_cases y with hw | hw
    · obtain ⟨_, hw1, hw2⟩ := iso_no (y := y) (k := 53) (by decide) (by omega)
      rcases hw2 with hw2 | hw2
      all_goals (
        refine wpAny_call ?_
        k_dflt (refine' enterT ?k1 ?k2 ?k3 ?k4 ?k5 ?kA ?kK ?k6 ?k7 ?k8 ?k9 ?kB ?_ ?c2 ?c3 ?c4 ?c5; (case kA => exact rfl); (case kK => first | exact rfl | assumption); (case k1 => k_asm); (case k2 => k_asm); (case k3 => k_asm); (case k4 => k_asm); (case k5 => k_asm); (case k6 => k_is); (case k7 => k_is); (case k8 => ktr_room); (case k9 => exact BindsTo.of_eq rfl); (case c5 => decide); (case kB => exact locs rfl); (case c2 => exact rfl); (case c3 => exact rfl); (case c4 => exact rfl); k_whole; intro g' L' h' FG' F' N' B' X' T' D'; (try dsimp only); (try k_lift B'); (try k_fold))
        k_steps
        k_with "tree" => omega
        all_goals (refine num_ret ret (by omega) (by k_asm) (by first | k_asm | exact news_tail (by assumption))))
    · refine wpAny_call ?_
      k_dflt (refine' enterT ?k1 ?k2 ?k3 ?k4 ?k5 ?kA ?kK ?k6 ?k7 ?k8 ?k9 ?kB ?_ ?c2 ?c3 ?c4 ?c5; (case kA => exact rfl); (case kK => first | exact rfl | assumption); (case k1 => k_asm); (case k2 => k_asm); (case k3 => k_asm); (case k4 => k_asm); (case k5 => k_asm); (case k6 => k_is); (case k7 => k_is); (case k8 => ktr_room); (case k9 => exact BindsTo.of_eq rfl); (case c5 => decide); (case kB => exact locs rfl); (case c2 => exact rfl); (case c3 => exact rfl); (case c4 => exact rfl); k_whole; intro g' L' h' FG' F' N' B' X' T' D'; (try dsimp only); (try k_lift B'); (try k_fold))
      k_steps
      all_goals (refine num_ret ret (by omega) (by k_asm) (by first | k_asm | exact news_tail (by assumption))))
end
local macro_rules | `(tactic| k_ne) => `(tactic| k_extra "mine ne")
set_option maxHeartbeats 0 in
theorem t10 : PySem.Challenge.rw_dn0120_10.Holds := by
  refine hd10 ?_
  w_top off
  k_with_none
  k_with "mine pre" => first | with_reducible assumption | omega | l_fact
  k_with "mine twelve" => (intro k h1 h2; rcases m12 h1 h2 with h | h | h | h | h | h | h | h | h | h | h | h <;> (subst h; exact ⟨_, rfl⟩))
  k_with "mine lt" => first | with_reducible assumption | exact (by with_reducible assumption : _ ∧ AllLt _ _).2 | exact (by with_reducible assumption : _ ∧ _ ∧ AllLt _ _).2.2 | exact (by with_reducible assumption : _ ∧ _ ∧ _ ∧ AllLt _ _).2.2.2 | exact (by with_reducible assumption : _ ∧ _ ∧ _ ∧ _ ∧ AllLt _ _).2.2.2.2
  k_with "eval Call" => (k_here; (with_reducible show wpAny _ _ (eval (PySem.Expr.Call (PySem.Expr.Name (Str.ofString "_is_leap") _) _ [] _) _) _ _ _); k_dflt (refine Call_ ?_))
  k_with "eval Call" => (k_here; (with_reducible show wpAny _ _ (eval (PySem.Expr.Call (PySem.Expr.Name (Str.ofString "_days_before_year") _) _ [] _) _) _ _ _); k_dflt (refine Call_ ?_))
  k_with "eval Call" => (k_here; (with_reducible show wpAny _ _ (eval (PySem.Expr.Call (PySem.Expr.Name (Str.ofString "_days_in_month") _) _ [] _) _) _ _ _); k_dflt (refine Call_ ?_))
  k_with "eval Call" => (k_here; (with_reducible show wpAny _ _ (eval (PySem.Expr.Call (PySem.Expr.Name (Str.ofString "_days_before_month") _) _ [] _) _) _ _ _); k_dflt (refine Call_ ?_))
  k_with "eval Call" => (k_here; (with_reducible show wpAny _ _ (eval (PySem.Expr.Call (PySem.Expr.Name (Str.ofString "_ymd2ord") _) _ [] _) _) _ _ _); k_dflt (refine Call_ ?_))
  k_with "eval Call" => (k_here; (with_reducible show wpAny _ _ (eval (PySem.Expr.Call (PySem.Expr.Name (Str.ofString "_ord2ymd") _) _ [] _) _) _ _ _); k_dflt (refine Call_ ?_))
  k_with "eval Call" => (k_here; (with_reducible show wpAny _ _ (eval (PySem.Expr.Call (PySem.Expr.Name (Str.ofString "_isoweek_to_gregorian") _) _ [] _) _) _ _ _); k_dflt (refine Call_ ?_))
  k_with "eval Call" => (k_here; (with_reducible show wpAny _ _ (eval (PySem.Expr.Call (PySem.Expr.Name (Str.ofString "_isoweek1monday") _) _ [] _) _) _ _ _); k_dflt (refine Call_ ?_))
  k_with "eval Call" => (k_here; (with_reducible show wpAny _ _ (eval (PySem.Expr.Call (PySem.Expr.Name (Str.ofString "_law_number") _) _ [] _) _) _ _ _); k_dflt (refine Call_ ?_))
  k_with "eval Call" => (k_here; (with_reducible show wpAny _ _ (eval (PySem.Expr.Call (PySem.Expr.Name (Str.ofString "_law_weeks") _) _ [] _) _) _ _ _); k_dflt (refine Call_ ?_))
  k_with "subscriptTail Name Name ref int" => (k_here; (with_reducible show wpAny _ _ (subscriptTail _ _ (Value.ref 15) (Value.int _ _)) _ _ _); k_dflt (refine' tab_item dimT (by k_asm) (by k_asm) (by k_is) (by walk_at "mine pre") (by walk_at "mine pre") (by walk_at "mine twelve") (by with_unfolding_all rfl) ?_; k_whole); intro t9)
  k_with "subscriptTail Name Name ref int" => (k_here; (with_reducible show wpAny _ _ (subscriptTail _ _ (Value.ref 16) (Value.int _ _)) _ _ _); k_dflt (refine' tab_item dbmT (by k_asm) (by k_asm) (by k_is) (by walk_at "mine pre") (by walk_at "mine pre") (by walk_at "mine twelve") (by with_unfolding_all rfl) ?_; k_whole); intro t9)
  k_with "call ref" => (k_here; (with_reducible show wpAny _ _ (PySem.call (Value.ref 28) _) _ _ _); k_dflt (refine' c_leap (by k_asm) (by k_asm) (by k_asm) (by k_asm) (by k_asm) (by first | exact rfl | assumption) (by ktr_room) (by ktr_units) ?_; k_whole); intro t9 h9 tk9 F9 N9; (try dsimp only); (try k_fold))
  k_with "call ref" => (k_here; (with_reducible show wpAny _ _ (PySem.call (Value.ref 35) _) _ _ _); k_dflt (refine' c_dby (by k_asm) (by k_asm) (by k_asm) (by k_asm) (by k_asm) (by first | exact rfl | assumption) (by ktr_room) (by ktr_units) ?_; k_whole); intro t9 h9 tk9 F9 N9; (try dsimp only); (try k_fold))
  k_with "call ref" => (k_here; (with_reducible show wpAny _ _ (PySem.call (Value.ref 42) _) _ _ _); k_dflt (refine' c_dim (by k_asm) (by k_asm) (by k_asm) (by k_asm) (by k_asm) (by first | exact rfl | assumption) (by ktr_room) (by ktr_units) (by walk_at "mine pre") (by walk_at "mine pre") ?_; k_whole); intro t9 h9 tk9 F9 N9; (try dsimp only); (try k_fold))
  k_with "call ref" => (k_here; (with_reducible show wpAny _ _ (PySem.call (Value.ref 49) _) _ _ _); k_dflt (refine' c_dbm (by k_asm) (by k_asm) (by k_asm) (by k_asm) (by k_asm) (by first | exact rfl | assumption) (by ktr_room) (by ktr_units) (by walk_at "mine pre") (by walk_at "mine pre") ?_; k_whole); intro t9 h9 tk9 F9 N9; (try dsimp only); (try k_fold))
  k_with "call ref" => (k_here; (with_reducible show wpAny _ _ (PySem.call (Value.ref 56) _) _ _ _); k_dflt (refine' c_ord (by k_asm) (by k_asm) (by k_asm) (by k_asm) (by k_asm) (by first | exact rfl | assumption) (by ktr_room) (by ktr_units) (by walk_at "mine pre") (by walk_at "mine pre") (by walk_at "mine pre") (by walk_at "mine pre") ?_; k_whole); intro t9 h9 tk9 hv9 F9 N9; (try dsimp only); (try k_fold))
  k_with "mine pre" => first | with_reducible assumption | omega | with_reducible exact dim_one (by decide) (by decide) | l_fact
  k_with "call ref" => (k_here; (with_reducible show wpAny _ _ (PySem.call (Value.ref 80) _) _ _ _); k_dflt (refine' c_mon (by k_asm) (by k_asm) (by k_asm) (by k_asm) (by k_asm) (by first | exact rfl | assumption) (by ktr_room) (by ktr_units) ?_; k_whole); intro t9 h9 tk9 F9 N9; (try dsimp only); (try k_fold))
  k_with "call ref" => (k_here; (with_reducible show wpAny _ _ (PySem.call (Value.ref 66) _) _ _ _); k_dflt (refine' c_o2y (by k_asm) (by k_asm) (by k_asm) (by k_asm) (by k_asm) (by first | exact rfl | assumption) (by ktr_room) (by ktr_units) ?_; k_whole); intro D9 yy9 mm9 dd9 t7 t8 t9 h9 tk9 hV9 hO9 F9 N9 l9; (try simp only [AllLt, and_true] at l9); (try dsimp only); (try k_fold))
  k_with "compareOp Lt int int" => (k_here; k_dflt (first | refine lt_yes (by omega) ?_ | refine lt_no (by omega) ?_))
  k_with "compareOp LtE int int" => (k_here; k_dflt (first | refine le_yes (by omega) ?_ | refine le_no (by omega) ?_))
  k_with "compareOp Gt int int" => (k_here; k_dflt (first | refine gt_yes (by omega) ?_ | refine gt_no (by omega) ?_))
  k_with "compareOp Eq int int" => (k_here; k_dflt (first | refine eq_yes (by omega) ?_ | refine eq_no (by omega) ?_))
  k_with "call ref" => (k_here; (with_reducible show wpAny _ _ (PySem.call (Value.ref 73) _) _ _ _); k_dflt (refine' c_iso (by k_asm) (by k_asm) (by k_asm) (by k_asm) (by k_asm) (by first | exact rfl | assumption) (by ktr_room) (by ktr_units) (by walk_at "mine pre") (by walk_at "mine pre") (by walk_at "mine pre") (by walk_at "mine pre") (by walk_at "mine pre") (by walk_at "mine pre") ?_; k_whole); intro D9 yy9 mm9 dd9 t7 t8 t9 h9 tk9 hV9 hO9 F9 N9 l9; k_dflt (obtain ⟨hv1, hv2, hv3, hv4⟩ := id hV9); (try simp only [AllLt, and_true] at l9); (try dsimp only); (try k_fold))
  k_with "call ref" => (k_here; (with_reducible show wpAny _ _ (PySem.call (Value.ref 87) _) _ _ _); k_dflt (refine' c_num (by k_asm) (by k_asm) (by k_asm) (by k_asm) (by k_asm) (by k_asm) (by k_asm) (by first | exact rfl | assumption) (by ktr_room) (by ktr_units) (by walk_at "mine pre") (by walk_at "mine pre") (by walk_at "mine pre") (by walk_at "mine pre") (by walk_at "mine pre") (by walk_at "mine pre") ?_; k_whole); intro v9 h9 tk9 hn9 F9 N9; k_dflt (rcases hn9 with ⟨hn7, t9, hq9⟩ | ⟨hn7, hq9⟩ <;> subst hq9); (try dsimp only); (try k_fold))
  k_with "call ref" => (k_here; (with_reducible show wpAny _ _ (PySem.call (Value.ref 94) _) _ _ _); k_dflt (refine' c_weeks (by k_asm) (by k_asm) (by k_asm) (by k_asm) (by k_asm) (by k_asm) (by k_asm) (by first | exact rfl | assumption) (by ktr_room) (by ktr_units) (by walk_at "mine pre") (by walk_at "mine pre") ?_; k_whole); intro t9 h9 tk9 hY9 hw8 hw9 F9 N9; (try dsimp only); (try k_fold))
  k_with "eval ListComp" => (k_here; (with_reducible show wpAny _ _ (eval (PySem.Expr.ListComp (PySem.Expr.Name _ _) [⟨PySem.Expr.Name _ _, _, [PySem.Expr.BoolOp BoolOp.Or _ _], _⟩] _ _) _) _ _ _); k_dflt (refine comp_no (F₀ := by k_asm) (by rfl) (by with_unfolding_all rfl) (by decide) (by rfl) (by decide) (by rfl) ?_ ?_))
  k_with "TestNo" => (unfold TestNo; intro n' t' I' oI' C' oC' D' oD' m' h' tk' E' s' nw' hC' hx' F' N'; (try k_fold))
  k_with "NoOk" => exact ⟨by first | rfl | decide, _, rfl⟩
  k_with "mine ints" => (refine all_ints ?_; (try dsimp only); repeat' (first | exact ints_nil | refine ints_cons ?_ | exact ints_are (by with_reducible assumption)))
  k_with "SrcNo" => (k_here; k_dflt (refine' SrcNo.intro (by k_asm) (by k_asm) (by k_mem) (by decide) (by first | exact Nat.le_of_ble_eq_true rfl | size_fits) (by walk_at "mine ints") ?_); intro D' h' tk' F' N' o1'; (try simp only [LCg.Off1, and_true] at o1'); (try dsimp only); (try k_sweep))
  k_with "subscriptTail List" => (k_here; (with_reducible show wpAny _ _ (subscriptTail _ (PySem.Expr.Slice _ none none _) (Value.ref _) (Value.ref _)) _ _ _); k_dflt (refine kba_turn (value' := PySem.Expr.Name (PySem.Str.ofString "_") ⟨0, 0, 0, 0⟩) (fun _ => rfl) ?_); k_dflt (refine' kmk_slice_ints (by k_asm) (by k_asm) (by kmk_list) (by kmk_part) (by kmk_part) (by l_ints) (by exact kmk_from (by l_ints) (by first | exact Int.natCast_nonneg _ | omega)) (by exact rfl) ?_ (by with_unfolding_all rfl) (by kmk_pure) (by exact Nat.le_of_ble_eq_true rfl)); intro D' ws' h' F' N' l1 hI' hC' hL'; clear hC' hL'; (try k_lt l1); (try k_sweep))
  k_with "mine bool end" => (kc_bool; (fail_if_success (with_reducible show GoodW _ _ _ _ _ (Except.ok (Flow.ret (Value.bool true))) _)); refine goodW_rw (by walk_at "mine end") ?_)
  k_with "mine proj" => (intro hq; (repeat (first | exact hq.1 | exact hq | replace hq := hq.2)); done)
  k_with "mine ne" => (refine neN ?_; (try dsimp only); first | exact Nat.ne_of_lt (by with_reducible assumption) | exact Nat.ne_of_gt (by with_reducible assumption) | (refine conj_lt (by with_reducible assumption) ?_; walk_at "mine proj") | (refine conj_gt (by with_reducible assumption) ?_; walk_at "mine proj") | (refine conj_ne1 (by with_reducible assumption) ?_; walk_at "mine proj") | (refine conj_ne2 (by with_reducible assumption) ?_; walk_at "mine proj") | exact Nat.ne_of_lt (Nat.lt_succ_self _) | exact Nat.ne_of_gt (Nat.lt_succ_self _) | omega)
  k_with "execs nil" => (k_here; (try dsimp only); with_reducible k_gentoks)
  k_with "execs cons" => (k_here; (try dsimp only); with_reducible k_gentoks)
  k_with "call builtin:isinstance" => (k_here; (with_reducible show wpAny _ _ (PySem.call (Value.builtin "isinstance") [Value.ref _, Value.type "tuple"]) _ _ _); k_dflt (refine PySem.IsiPair.tuple_tuple (News.get (by k_asm) (by k_mem)) rfl ?_))
  k_with "subscriptTail Name Constant ref int" => (k_here; (with_reducible show wpAny _ _ (subscriptTail (PySem.Expr.Name (Str.ofString "row") _) _ (Value.ref _) (Value.int _ _)) _ _ _); k_dflt (refine' script_item (by is_list) (by l_ints) (by decide) (by decide) (by exact pad6_len rfl (by decide)) (by with_unfolding_all rfl) ?_; k_whole); intro x9 t9)
  k_with "binaryOp Mod int int" => (k_here; (with_reducible show wpAny _ _ (binaryOp _ (Value.int _ _) (Value.int 9999 _)) _ _ _); refine mod_pos (by decide) ?_; intro r9 t9 hr2 hr3)
  k_with "binaryOp Mod int int" => (k_here; (with_reducible show wpAny _ _ (binaryOp _ (Value.int _ _) (Value.int 401 _)) _ _ _); refine mod_pos (by decide) ?_; intro r9 t9 hr2 hr3)
  k_with "binaryOp Mod int int" => (k_here; (with_reducible show wpAny _ _ (binaryOp _ (Value.int _ _) (Value.int 53 _)) _ _ _); refine mod_pos (by decide) ?_; intro r9 t9 hr2 hr3)
  k_with "binaryOp Mod int int" => (k_here; (with_reducible show wpAny _ _ (binaryOp _ (Value.int _ _) (Value.int 7 _)) _ _ _); refine mod_pos (by decide) ?_; intro r9 t9 hr2 hr3; (obtain hD9 := dy_of r9))
  k_with "call builtin:min" => (k_here; (with_reducible show wpAny _ _ (PySem.call (Value.builtin "min") [Value.int _ _, Value.int _ _]) _ _ _); k_dflt (refine' min2 (by rfl) (by k_asm) (by k_asm) ?_; k_whole); intro h' tk' t' F' N'; (try k_sweep))
  k_with "exec Assign cons ListComp" => (k_here; k_dflt (refine assign_tup (by k_asm) (by rfl) (by rfl) (by with_unfolding_all rfl) (by with_unfolding_all rfl) (by decide) (by rfl) (by decide) (by rfl) (by rfl) (by rfl) ?_))
  k_with "eval ListComp" => (k_here; (with_reducible show wpAny _ _ (eval (PySem.Expr.ListComp (PySem.Expr.Call _ _ _ _) [⟨PySem.Expr.Name _ _, PySem.Expr.Tuple _ _ _, [], _⟩] _ _) _) _ _ _); k_dflt (refine comp_tup (by k_asm) (by rfl) (by with_unfolding_all rfl) (by decide) (by rfl) (by decide) (by rfl) ?_))
  k_with "eval ListComp" => (k_here; (with_reducible show wpAny _ _ (eval (PySem.Expr.ListComp (PySem.Expr.Compare _ _ _ _) [⟨PySem.Expr.Name _ _, PySem.Expr.Name _ _, [], _⟩] _ _) _) _ _ _); k_dflt (refine LCg.ListComp_U (F₀ := by k_asm) (by with_unfolding_all rfl) (by decide) (by rfl) (by decide) (by rfl) ?_))
  k_with "eval ListComp" => (k_here; (with_reducible show wpAny _ _ (eval (PySem.Expr.ListComp (PySem.Expr.Call _ _ _ _) [⟨PySem.Expr.Name _ _, PySem.Expr.Call _ _ _ _, [], _⟩] _ _) _) _ _ _); k_dflt (refine LCg.ListComp_U (F₀ := by k_asm) (by with_unfolding_all rfl) (by decide) (by rfl) (by decide) (by rfl) ?_))
  k_with "SrcTup" => (k_here; k_dflt (refine' src_num (by with_reducible assumption) (by with_reducible assumption) (by k_asm) (by k_asm) (by k_mem) (by omega) (by omega) (by omega) (by omega) ?_ ?_))
  k_with "CompSrc" => (k_here; k_dflt (refine' src_weeks (by rfl) (by k_asm) (by k_asm) (by assumption) (by omega) (by omega) (by omega) ?_ ?_))
  k_with "CompSrc" => (k_here; k_dflt (refine' src_none (by with_reducible assumption) (by rfl) (by k_asm) (by k_asm) (by k_mem) ?_ ?_))
  k_with "EltIs" => (unfold EltIs; intro n' t' I' oI' C' oC' D' oD' m' h' tk' E' s' hn' hC' hx' F' N'; (try (obtain ⟨hn1, hn2⟩ := hn')); (try k_fold))
  k_with "EltV" => (unfold EltV; intro v' b' I' oI' C' oC' D' oD' m' h' tk' E' s' hn' hC' hx' F' N'; rcases hn' with ⟨n', t', hq1, hq2⟩ | ⟨hq1, hq2⟩ <;> (subst hq1; subst hq2; (try k_fold)))
  k_with "EltOk" => exact EltOk.intro (by k_asm) (by first | k_asm | exact news_tail (by assumption) | (refine cb_drop ?_ ?_; (· assumption); (· kcj_all))) (by first | exact ⟨_, rfl⟩ | rfl | exact Or.inl ⟨by with_reducible assumption, _, rfl⟩ | exact Or.inr ⟨by with_reducible assumption, rfl⟩)
  k_with "compareOp NotEq ref ref" => (k_here; k_dflt (refine' ne_bools (by k_asm) (by k_mem) (by k_mem) (by first | ke_room | ktr_units) (by first | rfl | assumption | (congr 1); omega) ?_; k_whole))
  k_with "mine end" => fail "no end"
  k_with "mine pre" => first | with_reducible assumption | omega | with_reducible exact Int.le_trans (by decide) (weeks_lo _) | exact Int.le_refl _ | with_reducible exact dim_one (by decide) (by decide) | l_fact
  k_with "CompSrc" => (k_here; k_dflt (refine' src_dates (by with_reducible assumption) (by rfl) (by k_asm) (by k_asm) (by assumption) ?_ ?_); rotate_left; (intro g' ys' ex' h7' hD'; (try simp only [List.cons_append, List.nil_append])); rotate_left)
  k_with "EltD" => (unfold EltD; intro n' t' ex' I' oI' C' oC' D' oD' m' h' tk' E' s' hn1 hn2 hC' hx' F' N'; (try simp only [List.cons_append, List.nil_append] at N' ⊢); (try k_fold))
  k_with "EltDOk" => exact EltDOk.intro (by with_reducible assumption) (by with_reducible assumption) (by k_asm) (by k_asm) (by with_reducible assumption)
  k_with "compareOp NotIn ref ref" => (k_here; k_dflt (refine' not_in_dates (by with_reducible assumption) (by with_reducible assumption) (by k_asm) (by k_mem) (by k_mem) (by (intro p hp; repeat (first | exact hp | apply List.mem_cons_of_mem))) (by first | ke_room | ktr_units | decide) ?_; k_whole))
  k_with "compareOp Eq ref ref" => (k_here; (with_reducible show wpAny _ _ (compareOp CmpOp.Eq (Value.ref _) (Value.ref _)) _ _ _); k_dflt (refine' tup_eq (by exact News.get (by k_asm) (by k_mem)) (by exact News.get (by k_asm) (by k_mem)) (by first | ke_room | ktr_units) (by with_reducible exact l10_eq (by assumption) (by assumption)) ?_; k_whole))
  k_with "compareOp NotEq int int" => (k_here; (with_reducible show wpAny _ _ (compareOp CmpOp.NotEq (Value.int (_ - _) _) (Value.int (_ - _) _)) _ _ _); k_dflt (refine ne_known (l10_end (by omega)) ?_))
  w_strict (k_go0; (all_goals try k_fold); (repeat' (first | (k_unfold; (try dsimp only)) | (walk_at "mine bool end") | (k_end; kc_close) | walk1 | (dsimp only; walk1) | (leave1; (try dsimp only)) | fail "no step")))
end
end Mine
theorem PySem.Challenge.cw_dn0120_10_holds : PySem.Challenge.rw_dn0120_10.Holds := by
  exact Mine.t10
