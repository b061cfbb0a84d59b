import PyProof.Rows.All
import Wide.All
import OpenK.AllK
import Wide.FinOn
import Lean
import PySem.Challenge.RW_dn0120_04
open PySem PySem.W PyProof.Rows
set_option Elab.async false
set_option maxRecDepth 100000
set_option maxHeartbeats 8000000
set_option linter.unusedVariables false
namespace Mine
section
def leap (y : Int) : Bool := decide (y % 4 = 0) && (!decide (y % 100 = 0) || decide (y % 400 = 0))
def dby (y : Int) : Int := (y - 1) * 365 + (y - 1) / 4 - (y - 1) / 100 + (y - 1) / 400
def dimT (m : Int) : Int := if m = 2 then 28 else if m = 4 ∨ m = 6 ∨ m = 9 ∨ m = 11 then 30 else 31
def dbmT (m : Int) : Int := if m = 1 then 0 else if m = 2 then 31 else if m = 3 then 59 else if m = 4 then 90 else if m = 5 then 120 else if m = 6 then 151 else if m = 7 then 181 else if m = 8 then 212 else if m = 9 then 243 else if m = 10 then 273 else if m = 11 then 304 else 334
/-- a leap year's day more -/
def lpd (y : Int) : Int := if leap y = true then 1 else 0
def dim (y m : Int) : Int := dimT m + if m = 2 then lpd y else 0
def dbm (y m : Int) : Int := dbmT m + if 2 < m then lpd y else 0
def Valid (y m d : Int) : Prop := 1 ≤ m ∧ m ≤ 12 ∧ 1 ≤ d ∧ d ≤ dim y m
def ord (y m d : Int) : Int := dby y + dbm y m + d
theorem m12 {m : Int} (h1 : 1 ≤ m) (h2 : m ≤ 12) : m = 1 ∨ m = 2 ∨ m = 3 ∨ m = 4 ∨ m = 5 ∨ m = 6 ∨ m = 7 ∨ m = 8 ∨ m = 9 ∨ m = 10 ∨ m = 11 ∨ m = 12 := by omega
theorem lpd_01 (y : Int) : 0 ≤ lpd y ∧ lpd y ≤ 1 := by unfold lpd; split <;> decide
theorem leap_iff (y : Int) : leap y = true ↔ (y % 4 = 0 ∧ (y % 100 ≠ 0 ∨ y % 400 = 0)) := by
  simp only [leap, Bool.and_eq_true, Bool.or_eq_true, decide_eq_true_eq, Bool.not_eq_true', decide_eq_false_iff_not, ne_eq]
theorem lpd_iff (y : Int) : lpd y = 1 ↔ (y % 4 = 0 ∧ (y % 100 ≠ 0 ∨ y % 400 = 0)) := by
  rw [← leap_iff]; unfold lpd; split <;> simp_all
theorem dby_succ (y : Int) : dby (y + 1) = dby y + 365 + lpd y := by
  have h := lpd_iff y
  have h2 := lpd_01 y
  unfold dby
  omega
theorem dim_pos {y m : Int} (h1 : 1 ≤ m) (h2 : m ≤ 12) : 28 ≤ dim y m ∧ dim y m ≤ 31 := by
  have h := lpd_01 y
  rcases m12 h1 h2 with h | h | h | h | h | h | h | h | h | h | h | h <;> subst h <;> simp [dim, dimT] <;> omega
theorem dbm_1 (y : Int) : dbm y 1 = 0 := by simp [dbm, dbmT]
theorem dbm_step {y m : Int} (h1 : 1 ≤ m) (h2 : m ≤ 11) : dbm y (m + 1) = dbm y m + dim y m := by
  rcases m12 h1 (by omega) with h | h | h | h | h | h | h | h | h | h | h | h <;> subst h <;> simp [dim, dimT, dbm, dbmT] <;> omega
theorem dbm_12 (y : Int) : dbm y 12 + dim y 12 = 365 + lpd y := by simp [dim, dimT, dbm, dbmT]; omega
theorem dbm_bds {y m : Int} (h1 : 1 ≤ m) (h2 : m ≤ 12) : 0 ≤ dbm y m ∧ dbm y m + dim y m ≤ 365 + lpd y := by
  have h := lpd_01 y
  rcases m12 h1 h2 with h | h | h | h | h | h | h | h | h | h | h | h <;> subst h <;> simp [dim, dimT, dbm, dbmT] <;> omega
theorem dbm_lt {y m m' : Int} (h1 : 1 ≤ m) (h : m < m') (h2 : m' ≤ 12) : dbm y m + dim y m ≤ dbm y m' := by
  have hl := lpd_01 y
  rcases m12 h1 (by omega) with e | e | e | e | e | e | e | e | e | e | e | e <;> rcases m12 (m := m') (by omega) h2 with e' | e' | e' | e' | e' | e' | e' | e' | e' | e' | e' | e' <;> subst e <;> subst e' <;> first | (exfalso; omega) | (simp [dim, dimT, dbm, dbmT]; try omega)
theorem dby_mono {y y' : Int} (h : y < y') : dby (y + 1) ≤ dby y' := by unfold dby; omega
theorem ord_in {y m d : Int} (h : Valid y m d) : dby y < ord y m d ∧ ord y m d ≤ dby (y + 1) := by
  obtain ⟨h1, h2, h3, h4⟩ := h
  have := dbm_bds (y := y) h1 h2
  rw [dby_succ]; unfold ord; omega
theorem ord_lt {y m d y' m' d' : Int} (h : Valid y m d) (h' : Valid y' m' d') (hl : y < y' ∨ (y = y' ∧ (m < m' ∨ (m = m' ∧ d < d')))) : ord y m d < ord y' m' d' := by
  rcases hl with hl | ⟨rfl, hl | ⟨rfl, hl⟩⟩
  · have a := ord_in h; have b := ord_in h'; have c := dby_mono hl; omega
  · have a := dbm_lt (y := y) h.1 hl h'.2.1
    have b := h.2.2.2; have c := h'.2.2.1; unfold ord; omega
  · unfold ord; omega
theorem ord_lt_iff {y m d y' m' d' : Int} (h : Valid y m d) (h' : Valid y' m' d') : ord y m d < ord y' m' d' ↔ (y < y' ∨ (y = y' ∧ (m < m' ∨ (m = m' ∧ d < d')))) := by
  refine ⟨fun hl => ?_, ord_lt h h'⟩
  by_cases c : (y < y' ∨ (y = y' ∧ (m < m' ∨ (m = m' ∧ d < d'))))
  · exact c
  · exfalso
    by_cases e : y = y' ∧ m = m' ∧ d = d'
    · obtain ⟨rfl, rfl, rfl⟩ := e; omega
    · have := ord_lt h' h (by omega); omega
theorem ord_inj {y m d y' m' d' : Int} (h : Valid y m d) (h' : Valid y' m' d') (e : ord y m d = ord y' m' d') : y = y' ∧ m = m' ∧ d = d' := by
  by_cases c : y = y' ∧ m = m' ∧ d = d'
  · exact c
  · exfalso
    by_cases l : (y < y' ∨ (y = y' ∧ (m < m' ∨ (m = m' ∧ d < d'))))
    · have := ord_lt h h' l; omega
    · have := ord_lt h' h (by omega); omega
theorem dby_dec {a b c d : Int} (b0 : 0 ≤ b) (b1 : b ≤ 3) (c0 : 0 ≤ c) (c1 : c ≤ 24) (d0 : 0 ≤ d) (d1 : d ≤ 3) : dby (a * 400 + 1 + (b * 100 + c * 4 + d)) = 146097 * a + 36524 * b + 1461 * c + 365 * d := by
  have e : a * 400 + 1 + (b * 100 + c * 4 + d) - 1 = a * 400 + b * 100 + c * 4 + d := by omega
  have q1 : (a * 400 + b * 100 + c * 4 + d) / 4 = 100 * a + 25 * b + c := by omega
  have q2 : (a * 400 + b * 100 + c * 4 + d) / 100 = 4 * a + b := by omega
  have q3 : (a * 400 + b * 100 + c * 4 + d) / 400 = a := by omega
  unfold dby
  rw [e, q1, q2, q3]
  omega
theorem leap_dec {a b c d : Int} (b0 : 0 ≤ b) (b1 : b ≤ 3) (c0 : 0 ≤ c) (c1 : c ≤ 24) (d0 : 0 ≤ d) (d1 : d ≤ 3) : leap (a * 400 + 1 + (b * 100 + c * 4 + d)) = true ↔ (d = 3 ∧ (c ≠ 24 ∨ b = 3)) := by
  rw [leap_iff]; omega
/-- what _ord2ymd's four divmods tell -/
structure Dec (n a b c d r1 r2 r3 r4 : Int) : Prop where
  e0 : n - 1 = 146097 * a + r1
  e1 : r1 = 36524 * b + r2
  e2 : r2 = 1461 * c + r3
  e3 : r3 = 365 * d + r4
  l1 : 0 ≤ r1
  u1 : r1 < 146097
  l2 : 0 ≤ r2
  u2 : r2 < 36524
  l3 : 0 ≤ r3
  u3 : r3 < 1461
  l4 : 0 ≤ r4
  u4 : r4 < 365
theorem Dec.last {n a b c d r1 r2 r3 r4 : Int} (D : Dec n a b c d r1 r2 r3 r4) (h : d = 4 ∨ b = 4) : r4 = 0 ∧ Valid (a * 400 + 1 + (b * 100 + c * 4 + d) - 1) 12 31 ∧ ord (a * 400 + 1 + (b * 100 + c * 4 + d) - 1) 12 31 = n := by
  obtain ⟨e0, e1, e2, e3, l1, u1, l2, u2, l3, u3, l4, u4⟩ := D
  refine ⟨by omega, ?_, ?_⟩
  · simp [Valid, dim, dimT]
  · have key : dby (a * 400 + 1 + (b * 100 + c * 4 + d)) = n := by
      rcases h with h | h
      · subst h
        have := dby_dec (a := a) (b := b) (c := c + 1) (d := 0) (by omega) (by omega) (by omega) (by omega) (by omega) (by omega)
        rw [show a * 400 + 1 + (b * 100 + c * 4 + 4) = a * 400 + 1 + (b * 100 + (c + 1) * 4 + 0) by omega, this]
        omega
      · subst h
        have := dby_dec (a := a + 1) (b := 0) (c := c) (d := d) (by omega) (by omega) (by omega) (by omega) (by omega) (by omega)
        rw [show a * 400 + 1 + (4 * 100 + c * 4 + d) = (a + 1) * 400 + 1 + (0 * 100 + c * 4 + d) by omega, this]
        omega
    have h2 := dby_succ (a * 400 + 1 + (b * 100 + c * 4 + d) - 1)
    rw [show a * 400 + 1 + (b * 100 + c * 4 + d) - 1 + 1 = a * 400 + 1 + (b * 100 + c * 4 + d) by omega, key] at h2
    simp only [ord, dbm, dbmT]
    simp
    omega
theorem Dec.year {n a b c d r1 r2 r3 r4 : Int} (D : Dec n a b c d r1 r2 r3 r4) (hd : d ≠ 4) (hb : b ≠ 4) : (leap (a * 400 + 1 + (b * 100 + c * 4 + d)) = true ↔ (d = 3 ∧ (c ≠ 24 ∨ b = 3))) ∧ n - 1 = dby (a * 400 + 1 + (b * 100 + c * 4 + d)) + r4 ∧ 0 ≤ r4 ∧ r4 < 365 + lpd (a * 400 + 1 + (b * 100 + c * 4 + d)) := by
  obtain ⟨e0, e1, e2, e3, l1, u1, l2, u2, l3, u3, l4, u4⟩ := D
  have := lpd_01 (a * 400 + 1 + (b * 100 + c * 4 + d))
  refine ⟨leap_dec (by omega) (by omega) (by omega) (by omega) (by omega) (by omega), ?_, l4, by omega⟩
  rw [dby_dec (by omega) (by omega) (by omega) (by omega) (by omega) (by omega)]
  omega
theorem month_hi {y r m : Int} (h0 : 0 ≤ r) (h1 : r < 365) (l : 32 * m ≤ r + 50) (u : r + 50 < 32 * m + 32) : 1 ≤ m ∧ m ≤ 12 ∧ (r < dbm y m → 2 ≤ m ∧ dbm y (m - 1) ≤ r) ∧ (dbm y m ≤ r → r < dbm y m + dim y m) := by
  have hl := lpd_01 y
  have a1 : 1 ≤ m := by omega
  have a2 : m ≤ 12 := by omega
  refine ⟨a1, a2, ?_, ?_⟩
  · rcases m12 a1 a2 with e | e | e | e | e | e | e | e | e | e | e | e <;> subst e <;> simp [dbm, dbmT] <;> omega
  · rcases m12 a1 a2 with e | e | e | e | e | e | e | e | e | e | e | e <;> subst e <;> simp [dbm, dbmT, dim, dimT] <;> omega
end
section
theorem len_oddB {mo : Int} (h1 : 1 ≤ mo) (h2 : mo ≤ 12) (h : mo ≠ 2) (y : Int) : 30 + (mo + mo / 8) % 2 = dim y mo := by
  rcases m12 h1 h2 with e | e | e | e | e | e | e | e | e | e | e | e <;> subst e <;> first | (exfalso; omega) | simp [dim, dimT]
theorem v_len4 {y mo : Int} (hm : mo ≠ 2) (h1 : 1 ≤ mo) (h2 : mo ≤ 12) : 30 + (mo + mo.fdiv 8).fmod 2 = dim y mo := by
  rw [Int.fmod_eq_emod_of_nonneg _ (by decide), Int.fdiv_eq_ediv_of_nonneg _ (by decide)]
  exact len_oddB h1 h2 hm y
theorem v_lenB {y mo : Int} (hm : mo = 2) (b : Bool) (h : leap y = b) : (if b = true then 29 else 28 : Int) = dim y mo := by
  subst hm; subst h
  unfold dim dimT lpd
  by_cases c : leap y = true <;> simp [c]
theorem v_len1 {y mo : Int} (hm : mo = 2) (h1 : y.fmod 100 = 0) (h : y.fmod 400 = 0) : (29 : Int) = dim y mo := by
  rw [Int.fmod_eq_emod_of_nonneg _ (by decide)] at h1 h
  exact v_lenB hm true ((leap_iff y).mpr (by omega))
theorem v_len2 {y mo : Int} (hm : mo = 2) (h1 : y.fmod 100 = 0) (h : y.fmod 400 ≠ 0) : (28 : Int) = dim y mo := by
  rw [Int.fmod_eq_emod_of_nonneg _ (by decide)] at h1 h
  exact v_lenB hm false (by rw [Bool.eq_false_iff]; intro c; have := (leap_iff y).mp c; omega)
theorem v_len3 {y mo : Int} (hm : mo = 2) (h1 : y.fmod 100 ≠ 0) (h : y.fmod 4 = 0) : (29 : Int) = dim y mo := by
  rw [Int.fmod_eq_emod_of_nonneg _ (by decide)] at h1 h
  exact v_lenB hm true ((leap_iff y).mpr (by omega))
theorem v_len5 {y mo : Int} (hm : mo = 2) (h1 : y.fmod 100 ≠ 0) (h : y.fmod 4 ≠ 0) : (28 : Int) = dim y mo := by
  rw [Int.fmod_eq_emod_of_nonneg _ (by decide)] at h1 h
  exact v_lenB hm false (by rw [Bool.eq_false_iff]; intro c; have := (leap_iff y).mp c; omega)
end
section
section
variable {prog : Program} {w : World} {A : Around} {E : Value → Shared → Prop} {s : Shared} {h₀ : Heap} {L : Addr} {m : Str → Option Value} {news : List (Addr × Obj)}
/-- an item of a written list of the top's, at a place from 1 to 12 -/
theorem tab_item {l : Addr} {K : Frag} {value slice : PySem.Expr} {k : Int} {u : Tok} {Q : Value → Shared → Prop}
    {its : Array Value} {n : Nat} {d : Option Addr} {sl : Array (Option Value)} (f : Int → Int) (F : Fr h₀ L s.heap m) (X : K.In h₀) (ho : K.lookup l = some { cls := .type "list", dict := d, data := .seq its n, slots := sl }) (h1 : 1 ≤ k) (h2 : k ≤ 12)
    (hx : ∀ k : Int, 1 ≤ k → k ≤ 12 → ∃ t, its[k.toNat]? = some (Value.int (f k) t))
    (hs : subscripted slice false (.ref l) (.int k u) = operate [.ref l, .int k u] (getItem (.ref l) (.int k u)))
    (h : ∀ t, Q (.int (f k) t) s) : wpAny (model prog w) A (subscriptTail value slice (.ref l) (.int k u)) Q E s := by
  have hl := kun_topL F X ho
  obtain ⟨t, ht⟩ := hx k h1 h2
  exact tail_any hl.typeIs slot_list_getitem.lookup (wpAny_getItem_list hl (by omega) (by omega) ht (h t)) hs
/-- divmod by a positive number: two letters and what is known of them -/
theorem divmod_gen {a b : Int} {t u : Tok} {Q : Value → Shared → Prop} (F : Fr h₀ L s.heap m) (N : News h₀ L s.heap news) (hb : 0 < b) (hb2 : b < 1073741824)
    (h : ∀ q r D h' t1 t2 tk, a = b * q + r → 0 ≤ r → r < b → Fr h₀ L h' m → News h₀ L h' ((D, { cls := .type "tuple", data := .seq #[.int q t1, .int r t2] }) :: news) → AllLt D news → Q (.ref D) { s with heap := h', toks := tk }) :
    wpAny (model prog w) A (call (.builtin "divmod") [.int a t, .int b u]) Q E s := by
  refine divmod_N F N (by omega) (fun h' F' N' => ?_) (Or.inl (PyProof.noPylong_small (by omega)))
  refine h (a.fdiv b) (a.fmod b) _ h' _ _ _ ?_ ?_ ?_ F' N' (allLt_of fun p hp => Heap.lt_size (N p hp).1)
  · have := Int.mul_fdiv_add_fmod a b; omega
  · exact Int.fmod_nonneg_of_pos a hb
  · exact Int.fmod_lt_of_pos a hb
theorem rshift5_gen {a : Int} {t u : Tok} {Q : Value → Shared → Prop} (h : ∀ q t', 32 * q ≤ a → a < 32 * q + 32 → Q (.int q t') { s with toks := s.toks + 1 }) :
    wpAny (model prog w) A (binaryOp .RShift (.int a t) (.int 5 u)) Q E s := by
  refine rshift_int (by decide) ?_
  have e : a.fdiv (2 ^ Int.toNat 5) = a / 32 := by
    show a.fdiv 32 = _
    exact Int.fdiv_eq_ediv_of_nonneg _ (by decide)
  rw [e]
  exact h _ _ (by omega) (by omega)
theorem cmp_bool_tt {b c : Bool} {Q : Value → Shared → Prop} (e : b = c) (h : Q (.bool true) s) : wpAny (model prog w) A (compareOp .Eq (.bool b) (.bool c)) Q E s := by
  subst e
  refine eq_bool ?_
  rw [show (b == b) = true by cases b <;> rfl]
  exact h
end
/-- a cut: what is walked gives back one bool, and nothing is changed -/
def CutB (h₀ : Heap) (L : Addr) (m : Str → Option Value) (news : List (Addr × Obj)) (s : Shared) (b : Bool) (v : Value) (s' : Shared) : Prop :=
  ∃ (tk : Nat) (h' : Heap), v = .bool b ∧ s' = { s with heap := h', toks := tk } ∧ Fr h₀ L h' m ∧ News h₀ L h' news
theorem CutB.intro {h₀ : Heap} {L : Addr} {m : Str → Option Value} {news : List (Addr × Obj)} {s : Shared} {b c : Bool} {tk : Nat} {h' : Heap} (F : Fr h₀ L h' m) (N : News h₀ L h' news) (e : c = b) : CutB h₀ L m news s b (.bool c) { s with heap := h', toks := tk } := ⟨tk, h', by rw [e], rfl, F, N⟩
theorem cut_bool {M : Model} {A : Around} {E Q : Value → Shared → Prop} {s : Shared} {h₀ : Heap} {L : Addr} {m : Str → Option Value} {news : List (Addr × Obj)} {cm : Sem Value} (b : Bool) (_F : Fr h₀ L s.heap m) (_N : News h₀ L s.heap news)
    (h1 : wpAny M A cm (fun v s' => CutB h₀ L m news s b v s') E s) (h2 : ∀ tk h', Fr h₀ L h' m → News h₀ L h' news → Q (.bool b) { s with heap := h', toks := tk }) : wpAny M A cm Q E s := by
  refine wpAny_mono h1 (fun v s₂ hq => ?_) fun _ _ h => h
  obtain ⟨tk, h', rfl, rfl, F, N⟩ := hq
  exact h2 tk h' F N
theorem cut_iff {M : Model} {A : Around} {E Q : Value → Shared → Prop} {s : Shared} {h₀ : Heap} {L : Addr} {m : Str → Option Value} {news : List (Addr × Obj)} {cm : Sem Value} {b : Bool} {P : Prop} (_hb : b = true ↔ P) (_F : Fr h₀ L s.heap m) (_N : News h₀ L s.heap news)
    (h1 : wpAny M A cm (fun v s' => CutB h₀ L m news s b v s') E s) (h2 : ∀ tk h', Fr h₀ L h' m → News h₀ L h' news → Q (.bool b) { s with heap := h', toks := tk }) : wpAny M A cm Q E s := cut_bool b _F _N h1 h2
theorem w_y1 {b c d : Int} (h1 : d = 3) (h2 : c ≠ 24) : (c != 24) = true ↔ (d = 3 ∧ (c ≠ 24 ∨ b = 3)) := by simp [h1, h2]
theorem w_y2 {b c d : Int} (h1 : d = 3) (h2 : c = 24) : (b == 3) = true ↔ (d = 3 ∧ (c ≠ 24 ∨ b = 3)) := by simp [h1, h2]
theorem w_y3 {b c d : Int} (h1 : d ≠ 3) : (d == 3) = true ↔ (d = 3 ∧ (c ≠ 24 ∨ b = 3)) := by simp [h1]
theorem w_gt {q : Int} {z : Bool} (h : 2 < q) : z = true ↔ (2 < q ∧ z = true) := by simp [h]
theorem w_ngt {q : Int} {z : Bool} (h : ¬ 2 < q) : decide (2 < q) = true ↔ (2 < q ∧ z = true) := by simp [h]
theorem w_eq {q : Int} {z : Bool} (h : q = 2) : z = true ↔ (q = 2 ∧ z = true) := by simp [h]
theorem w_neq {q : Int} {z : Bool} (h : q ≠ 2) : (q == 2) = true ↔ (q = 2 ∧ z = true) := by simp [h]
theorem iff_bool {b c : Bool} (h : b = true ↔ c = true) : b = c := by cases b <;> cases c <;> simp_all
theorem o2y_year {n a b c d r1 r2 r3 r4 : Int} (D : Dec n a b c d r1 r2 r3 r4) (hd : d ≠ 4) (hb : b ≠ 4) : ∃ (z : Bool) (Y : Int), Y = a * 400 + 1 + (b * 100 + c * 4 + d) ∧ z = leap (a * 400 + 1 + (b * 100 + c * 4 + d)) ∧ z = leap Y ∧ (z = true ↔ (d = 3 ∧ (c ≠ 24 ∨ b = 3))) ∧ n - 1 = dby Y + r4 := by
  obtain ⟨h1, h2, h3, h4⟩ := D.year hd hb
  exact ⟨_, _, rfl, rfl, rfl, h1, h2⟩
theorem o2y_month {n Y r q : Int} (_hn : n - 1 = dby Y + r) (h0 : 0 ≤ r) (h1 : r < 365) (l : 32 * q ≤ r + 50) (u : r + 50 < 32 * q + 32) : 1 ≤ q ∧ q ≤ 12 ∧ (r < dbm Y q → 2 ≤ q ∧ dbm Y (q - 1) ≤ r) ∧ (dbm Y q ≤ r → r < dbm Y q + dim Y q) := month_hi h0 h1 l u
theorem o2y_gt2 {z : Bool} {Y q : Int} (hz : z = leap Y) : ∃ b : Bool, (b = true ↔ (2 < q ∧ z = true)) ∧ dbmT q + (if b = true then 1 else 0) = dbm Y q := by
  refine ⟨decide (2 < q ∧ z = true), by simp, ?_⟩
  subst hz
  unfold dbm lpd
  by_cases h : 2 < q <;> by_cases h' : leap Y = true <;> simp [h, h']
theorem o2y_eq2 {z : Bool} {Y q : Int} (hz : z = leap Y) : ∃ b : Bool, (b = true ↔ (q = 2 ∧ z = true)) ∧ dimT q + (if b = true then 1 else 0) = dim Y q := by
  refine ⟨decide (q = 2 ∧ z = true), by simp, ?_⟩
  subst hz
  unfold dim lpd
  by_cases h : q = 2 <;> by_cases h' : leap Y = true <;> simp [h, h']
theorem o2y_endA {n Y Y' r q P S : Int} (hn : n - 1 = dby Y + r) (hlt : r < P) (h7 : P = dbm Y q) (h6 : S = dim Y (q - 1)) (m2 : q ≤ 12) (m3 : r < dbm Y q → 2 ≤ q ∧ dbm Y (q - 1) ≤ r) (hy : Y = Y') :
    0 ≤ r - (P - S) ∧ r - (P - S) < dim Y' (q - 1) ∧ Valid Y' (q - 1) (r - (P - S) + 1) ∧ ord Y' (q - 1) (r - (P - S) + 1) = n := by
  subst hy
  obtain ⟨a, b⟩ := m3 (by omega)
  have e := dbm_step (y := Y) (m := q - 1) (by omega) (by omega)
  rw [show q - 1 + 1 = q by omega] at e
  refine ⟨by omega, by omega, ⟨by omega, by omega, by omega, by omega⟩, ?_⟩
  unfold ord
  omega
theorem o2y_endB {n Y Y' r q P : Int} (hn : n - 1 = dby Y + r) (hlt : ¬ r < P) (h7 : P = dbm Y q) (m1 : 1 ≤ q) (m2 : q ≤ 12) (m4 : dbm Y q ≤ r → r < dbm Y q + dim Y q) (hy : Y = Y') :
    0 ≤ r - P ∧ r - P < dim Y' q ∧ Valid Y' q (r - P + 1) ∧ ord Y' q (r - P + 1) = n := by
  subst hy
  have a := m4 (by omega)
  refine ⟨by omega, by omega, ⟨by omega, by omega, by omega, by omega⟩, ?_⟩
  unfold ord
  omega
theorem news_keep4 {h₀ h : Heap} {L : Addr} {x a b c d : Addr × Obj} {news : List (Addr × Obj)} (N : News h₀ L h (x :: a :: b :: c :: d :: news)) : News h₀ L h (x :: news) := fun p hp => N p (by
  rcases List.mem_cons.mp hp with rfl | hp
  · exact List.mem_cons_self
  · simp [hp])
end
section
theorem ints_two {ws : List Value} {ms : List Int} (h : IntsAre ws ms) (e : ms.length = 2) : ∃ a b ta tb, ws = [Value.int a ta, Value.int b tb] := by
  match ms, e with
  | [x, y], _ =>
    obtain ⟨t1, w1, rfl, h1⟩ := h.cons_inv
    obtain ⟨t2, w2, rfl, h2⟩ := h1.cons_inv
    exact ⟨x, y, t1, t2, by rw [h2.nil_inv]⟩
theorem pad_len {ns zs : List Int} {k : Nat} (hz : zs.length = k) : (List.take k ns ++ List.drop (ns.length : Int).toNat zs).length = k := by
  rw [List.length_append, List.length_take, List.length_drop, Int.toNat_natCast, hz]; omega
theorem pad2 {ws : List Value} {ns : List Int} {x y : Int} (h : IntsAre ws (List.take 2 ns ++ List.drop (ns.length : Int).toNat [x, y])) : ∃ a b ta tb, ws = [Value.int a ta, Value.int b tb] := ints_two h (pad_len rfl)
theorem ints_four {ws : List Value} {ms : List Int} (h : IntsAre ws ms) (e : ms.length = 4) : ∃ a b c d ta tb tc td, ws = [Value.int a ta, Value.int b tb, Value.int c tc, Value.int d td] := by
  match ms, e with
  | [x, y, z, u], _ =>
    obtain ⟨t1, w1, rfl, h1⟩ := h.cons_inv
    obtain ⟨t2, w2, rfl, h2⟩ := h1.cons_inv
    obtain ⟨t3, w3, rfl, h3⟩ := h2.cons_inv
    obtain ⟨t4, w4, rfl, h4⟩ := h3.cons_inv
    exact ⟨x, y, z, u, t1, t2, t3, t4, by rw [h4.nil_inv]⟩
theorem pad4 {ws : List Value} {ns : List Int} {x y z u : Int} (h : IntsAre ws (List.take 4 ns ++ List.drop (ns.length : Int).toNat [x, y, z, u])) : ∃ a b c d ta tb tc td, ws = [Value.int a ta, Value.int b tb, Value.int c tc, Value.int d td] := ints_four h (pad_len rfl)
/-- the test of a comprehension says no, and nothing is changed -/
def NoOk (s : Shared) (h : Heap) (ok : Bool) (s' : Shared) : Prop := ok = false ∧ ∃ tk, s' = { s with heap := h, toks := tk }
section
open LCg LCt
variable {prog : Program} {w : World} {A : Around} {E : Value → Shared → Prop} {s : Shared} {h₀ : Heap} {L : Addr} {m : Str → Option Value} {env : Env}
def TestNo (prog : Program) (w : World) (A : Around) (h₀ : Heap) (L : Addr) (m : Str → Option Value) (env : Env) (ct : Expr) (x : Str) (scope : Scope) (cl : List (Str × Addr)) : Prop :=
  ∀ (n : Int) (t : Tok) (I : Addr) (oI : Obj) (C : Addr) (oC : Obj) (D : Addr) (oD : Obj) (m₂ : Str → Option Value) (h : Heap) (tk : Nat) (E' : Value → Shared → Prop) (s₂ : Shared) (news : List (Addr × Obj)), NsObj oC m₂ → m₂ x = some (Value.int n t) → Fr h₀ L h m → News h₀ L h ((I, oI) :: (C, oC) :: (D, oD) :: news) →
    wpAny (model prog w) A (isTrue ct (compEnvC scope cl C env) (eval ct (compEnvC scope cl C env))) (fun ok s' => NoOk s₂ h ok s') E' { s₂ with heap := h, toks := tk }
theorem no_rest {ct elt : Expr} {x : Str} {scope : Scope} {cl : List (Str × Addr)} {S : List (Addr × Obj) → Prop} {P : Nat → Value → Prop} {Fin : List Value → List (Addr × Obj) → Prop} {news : List (Addr × Obj)} (T : TestNo prog w A h₀ L m env ct x scope cl)
    (hP : ∀ i v, P i v → ∃ n t, v = Value.int n t) (hS : S news) (hF : Fin [] news) : ∀ k i, CompRestT prog w A h₀ L m env ct elt x scope cl s S P Fin k i [] news
  | 0, _ => hF
  | k + 1, i => by
    refine CompRestT.succ fun v I oI C oC D m₂ h tk E' hv hC hx F N off ne => ?_
    obtain ⟨n, t, rfl⟩ := hP _ _ hv
    refine wpAny_mono (T n t I oI C oC D _ m₂ h tk E' s news hC hx F N) (fun ok s' hq => ?_) fun _ _ e => e
    obtain ⟨rfl, tk', rfl⟩ := hq
    simp only [Bool.false_eq_true, if_false]
    exact CompEnd.intro F N news (fun p hp => hp) off hS (no_rest T hP hS hF k (i + 1))
def SrcNo (h₀ : Heap) (L : Addr) (m : Str → Option Value) (Q : Value → Shared → Prop) (xv : Value) (s₁ : Shared) : Prop :=
  ∃ ax its news, xv = Value.ref ax ∧ Fr h₀ L s₁.heap m ∧ News h₀ L s₁.heap news ∧ (∃ o, (ax, o) ∈ news ∧ (o.cls = .type "tuple" ∨ o.cls = .type "list") ∧ ∃ n, o.data = .seq its n) ∧ its.size ≤ sizeLine ∧ (∀ (i : Nat) v, its[i]? = some v → ∃ n t, v = Value.int n t) ∧ ∀ g, FinE h₀ L m { s₁ with heap := g } Q [] news
theorem SrcNo.intro {Q : Value → Shared → Prop} {s₁ : Shared} {ax : Addr} {T : String} {its : Array Value} {n : Nat} {news : List (Addr × Obj)} (F : Fr h₀ L s₁.heap m) (N : News h₀ L s₁.heap news) (hm : (ax, ({ cls := .type T, data := .seq its n } : Obj)) ∈ news) (hT : T = "tuple" ∨ T = "list") (hz : its.size ≤ sizeLine)
    (hi : ∀ (i : Nat) v, its[i]? = some v → ∃ n t, v = Value.int n t) (h : ∀ D h' tk, Fr h₀ L h' m → News h₀ L h' ((D, lst []) :: news) → Off1 D news → Q (.ref D) { s₁ with heap := h', toks := tk }) : SrcNo h₀ L m Q (.ref ax) s₁ :=
  ⟨ax, its, news, rfl, F, N, ⟨_, hm, hT.elim (fun e => .inl (by rw [e])) (fun e => .inr (by rw [e])), _, rfl⟩, hz, hi, fun _ D h' tk F' N' O => h D h' tk F' N' O⟩
theorem all_ints {its : Array Value} (h : ∀ v ∈ its.toList, ∃ n t, v = Value.int n t) : ∀ (i : Nat) v, its[i]? = some v → ∃ n t, v = Value.int n t := fun i v hv => h v (by
  have := Array.mem_of_getElem? hv
  simpa using this)
theorem ints_nil : ∀ v ∈ ([] : List Value), ∃ n t, v = Value.int n t := fun _ h => nomatch h
theorem ints_cons {n : Int} {t : Tok} {r : List Value} (h : ∀ v ∈ r, ∃ n t, v = Value.int n t) : ∀ v ∈ Value.int n t :: r, ∃ n t, v = Value.int n t := fun v hv => by
  rcases List.mem_cons.mp hv with rfl | hv
  · exact ⟨_, _, rfl⟩
  · exact h v hv
theorem ints_are {vs : List Value} {ns : List Int} (h : IntsAre vs ns) : ∀ v ∈ vs, ∃ n t, v = Value.int n t := by
  induction h with
  | nil => exact ints_nil
  | cons => exact ints_cons (by assumption)
theorem comp_no {ct elt iter : Expr} {x : Str} {px : Pos} {scope : Scope} {cl : List (Str × Addr)} {pos : Pos} {Q : Value → Shared → Prop} (F₀ : Fr h₀ L s.heap m) (hh : A.handled = none)
    (hclos : closureFor scope env = pure cl) (hcell : ∀ y ∈ scope.names, y.2 ≠ .cell) (hkind : scope.kind = .function)
    (hnames : ∀ y ∈ scope.names, y.2 = .local → scope.names.lookup y.1 = some .local) (hx : scope.names.lookup x = some .local)
    (T : TestNo prog w A h₀ L m env ct x scope cl)
    (h : wpAny (model prog w) A (eval iter env) (fun xv s₁ => SrcNo h₀ L m Q xv s₁) E s)
    (hs : ∀ x, foldedSetIterable iter env x = pure x := by intro _; rfl) :
    wpAny (model prog w) A (eval (.ListComp elt [⟨.Name x px, iter, [ct], 0⟩] scope pos) env) Q E s := by
  rw [eval_ListComp]
  refine wpAny_comprehension_free (use := none) rfl hs hclos hkind hnames (wpAny_mono h (fun xv s₁ h₁ => ?_) fun _ _ e => e)
  obtain ⟨ax, its, news, rfl, F, N, ⟨o, hm, hc, n, hd⟩, hsz, hi, fin⟩ := h₁
  have hget : s₁.heap.get? ax = some o := (N _ hm).1
  have hlt : ax < s₁.heap.objs.size := Heap.lt_size hget
  rcases hc with hc | hc
  · have hl : s₁.heap.IsTuple ax its := ⟨o, hget, hc, n, hd⟩
    refine wpAny_pyIter_tuple hl ?_
    have up : ∀ b o, s₁.heap.get? b = some o → (s₁.heap.push { cls := .type "tuple_iterator", data := .fields #[.ref ax, .int 0 0] }).get? b = some o := fun b o e => Heap.get?_push_of_some _ e
    refine block_T (Walks.tuple hh s₁.heap.objs.size ax (Nat.ne_of_lt hlt) its) hsz (fun i h st => by obtain ⟨o, e, _⟩ := st.1; exact ⟨o, e⟩) (S := fun nw => (ax, o) ∈ nw) (fun i h h' o' nw st e e' k N' S => ⟨by obtain ⟨o'', q, r⟩ := st.1; rw [e] at q; cases q; exact ⟨o', e', r⟩, ⟨o, (N' _ S).1, hc, n, hd⟩⟩) hcell hkind hx ⟨⟨_, Heap.get?_push_size _ rfl, rfl, rfl⟩, hl.push _⟩ (fun b hb => ?_)
      (F.keeps up) (N.grown up) (Nat.ne_of_lt F.ns.lt) (next_is_new F) (fun p hp => Nat.ne_of_lt (Heap.lt_size (N p hp).1)) hm (no_rest T hi hm (fin s₁.heap) _ _) ?_
    · show b < (s₁.heap.push _).objs.size
      rw [Heap.size_push]
      rcases List.mem_cons.mp hb with rfl | hb
      · exact Nat.lt_succ_self _
      · rw [List.mem_singleton.mp hb]; exact Nat.lt_succ_of_lt hlt
    · intro D C h tk m' ys news' F' N' o1 hn hC₀ hD₀ hCL hDL hCD offC fin
      refine ⟨m', hn, fun h'' hs'' => fin D h'' tk (F'.change hs'' hCL hC₀) (fun p hp => ?_) o1⟩
      refine ⟨hs''.extBut _ _ ?_ (N' p hp).1, (N' p hp).2⟩
      rcases List.mem_cons.mp hp with rfl | hp
      · exact Ne.symm hCD
      · exact offC p hp
  · have hl : s₁.heap.IsList ax its := ⟨o, hget, hc, n, hd⟩
    refine wpAny_pyIter_list hl ?_
    have up : ∀ b o, s₁.heap.get? b = some o → (s₁.heap.push { cls := .type "list_iterator", data := .fields #[.ref ax, .int 0 0] }).get? b = some o := fun b o e => Heap.get?_push_of_some _ e
    refine block_T (Walks.list hh s₁.heap.objs.size ax (Nat.ne_of_lt hlt) its) hsz (fun i h st => by obtain ⟨o, e, _⟩ := st.1; exact ⟨o, e⟩) (S := fun nw => (ax, o) ∈ nw) (fun i h h' o' nw st e e' k N' S => ⟨by obtain ⟨o'', q, r⟩ := st.1; rw [e] at q; cases q; exact ⟨o', e', r⟩, ⟨o, (N' _ S).1, hc, n, hd⟩⟩) hcell hkind hx ⟨⟨_, Heap.get?_push_size _ rfl, rfl, rfl⟩, hl.push _⟩ (fun b hb => ?_)
      (F.keeps up) (N.grown up) (Nat.ne_of_lt F.ns.lt) (next_is_new F) (fun p hp => Nat.ne_of_lt (Heap.lt_size (N p hp).1)) hm (no_rest T hi hm (fin s₁.heap) _ _) ?_
    · show b < (s₁.heap.push _).objs.size
      rw [Heap.size_push]
      rcases List.mem_cons.mp hb with rfl | hb
      · exact Nat.lt_succ_self _
      · rw [List.mem_singleton.mp hb]; exact Nat.lt_succ_of_lt hlt
    · intro D C h tk m' ys news' F' N' o1 hn hC₀ hD₀ hCL hDL hCD offC fin
      refine ⟨m', hn, fun h'' hs'' => fin D h'' tk (F'.change hs'' hCL hC₀) (fun p hp => ?_) o1⟩
      refine ⟨hs''.extBut _ _ ?_ (N' p hp).1, (N' p hp).2⟩
      rcases List.mem_cons.mp hp with rfl | hp
      · exact Ne.symm hCD
      · exact offC p hp
end
end
section
section
variable {prog : Program} {w : World} {A : Around} {E : Value → Shared → Prop} {s : Shared}
theorem floordiv_gen {a b : Int} {t u : Tok} {Q : Value → Shared → Prop} (hb : 0 < b) (hb2 : b < 1073741824) (h : ∀ q t', b * q ≤ a → a < b * q + b → Q (.int q t') { s with toks := s.toks + 1 }) :
    wpAny (model prog w) A (binaryOp .FloorDiv (.int a t) (.int b u)) Q E s := by
  refine floordiv_int (by omega) ?_ (Or.inl (PyProof.noPylong_small (by omega)))
  have h1 := Int.mul_fdiv_add_fmod a b
  have h2 := Int.fmod_nonneg_of_pos a hb
  have h3 := Int.fmod_lt_of_pos a hb
  exact h _ _ (by omega) (by omega)
theorem mod_gen {a b : Int} {t u : Tok} {Q : Value → Shared → Prop} (hb : 0 < b) (h : ∀ q r t', a = b * q + r → 0 ≤ r → r < b → Q (.int r t') { s with toks := s.toks + 1 }) :
    wpAny (model prog w) A (binaryOp .Mod (.int a t) (.int b u)) Q E s := by
  refine mod_int' (by omega) ?_
  have h1 := Int.mul_fdiv_add_fmod a b
  have h2 := Int.fmod_nonneg_of_pos a hb
  have h3 := Int.fmod_lt_of_pos a hb
  exact h (a.fdiv b) _ _ (by omega) h2 h3
end
section
variable {prog : Program} {w : World} {A : Around} {E : Value → Shared → Prop} {s : Shared}
/-- a remainder by a positive number -/
theorem mod_pos {a b : Int} {t u : Tok} {Q : Value → Shared → Prop} (hb : 0 < b) (h : ∀ r t', 0 ≤ r → r < b → Q (.int r t') { s with toks := s.toks + 1 }) :
    wpAny (model prog w) A (binaryOp .Mod (.int a t) (.int b u)) Q E s :=
  mod_gen hb fun _ r t' _ h2 h3 => h r t' h2 h3
/-- a remainder whose quotient is known -/
theorem mod_known {a b q : Int} {t u : Tok} {Q : Value → Shared → Prop} (h1 : b * q ≤ a) (h2 : a < b * q + b) (h : ∀ r t', r = a - b * q → 0 ≤ r → r < b → Q (.int r t') { s with toks := s.toks + 1 }) :
    wpAny (model prog w) A (binaryOp .Mod (.int a t) (.int b u)) Q E s := by
  refine mod_gen (by omega) fun q' r t' e l u' => h r t' ?_ l u'
  have hbp : 0 < b := by omega
  have e1 : q' = q := by
    have a1 : b * q' < b * (q + 1) := by rw [Int.mul_add, Int.mul_one]; omega
    have a2 : b * q < b * (q' + 1) := by rw [Int.mul_add, Int.mul_one]; omega
    have b1 := Int.lt_of_mul_lt_mul_left a1 (Int.le_of_lt hbp)
    have b2 := Int.lt_of_mul_lt_mul_left a2 (Int.le_of_lt hbp)
    omega
  subst e1
  omega
end
/-- a cut: what is walked gives back one int, and nothing is changed -/
def CutI (h₀ : Heap) (L : Addr) (m : Str → Option Value) (news : List (Addr × Obj)) (s : Shared) (x : Int) (v : Value) (s' : Shared) : Prop :=
  ∃ (t : Tok) (tk : Nat) (h' : Heap), v = .int x t ∧ s' = { s with heap := h', toks := tk } ∧ Fr h₀ L h' m ∧ News h₀ L h' news
theorem CutI.intro {h₀ : Heap} {L : Addr} {m : Str → Option Value} {news : List (Addr × Obj)} {s : Shared} {x y : Int} {t : Tok} {tk : Nat} {h' : Heap} (F : Fr h₀ L h' m) (N : News h₀ L h' news) (e : y = x) : CutI h₀ L m news s x (.int y t) { s with heap := h', toks := tk } := ⟨t, tk, h', by rw [e], rfl, F, N⟩
theorem cut_int {M : Model} {A : Around} {E Q : Value → Shared → Prop} {s : Shared} {h₀ : Heap} {L : Addr} {m : Str → Option Value} {news : List (Addr × Obj)} {cm : Sem Value} (x : Int) (_F : Fr h₀ L s.heap m) (_N : News h₀ L s.heap news)
    (h1 : wpAny M A cm (fun v s' => CutI h₀ L m news s x v s') E s) (h2 : ∀ t tk h', Fr h₀ L h' m → News h₀ L h' news → Q (.int x t) { s with heap := h', toks := tk }) : wpAny M A cm Q E s := by
  refine wpAny_mono h1 (fun v s₂ hq => ?_) fun _ _ h => h
  obtain ⟨t, tk, h', rfl, rfl, F, N⟩ := hq
  exact h2 t tk h' F N
theorem goodW_rw {c : ClaimW} {cl : Str → Option Addr} {mean : ExcName → Option Value} {args : List WData} {s₁ s' : Shared} {X : Bool} (h : X = true) (g : GoodW c cl mean args s₁ (.ok (.ret (.bool true))) s') : GoodW c cl mean args s₁ (.ok (.ret (.bool X))) s' := by rw [h]; exact g
end
section
/-- a cut: what is walked gives back an int of which P holds, and nothing is changed -/
def CutP (h₀ : Heap) (L : Addr) (m : Str → Option Value) (news : List (Addr × Obj)) (s : Shared) (P : Int → Prop) (v : Value) (s' : Shared) : Prop :=
  ∃ (x : Int) (t : Tok) (tk : Nat) (h' : Heap), v = .int x t ∧ P x ∧ s' = { s with heap := h', toks := tk } ∧ Fr h₀ L h' m ∧ News h₀ L h' news
theorem CutP.intro {h₀ : Heap} {L : Addr} {m : Str → Option Value} {news : List (Addr × Obj)} {s : Shared} {P : Int → Prop} {y : Int} {t : Tok} {tk : Nat} {h' : Heap} (F : Fr h₀ L h' m) (N : News h₀ L h' news) (e : P y) : CutP h₀ L m news s P (.int y t) { s with heap := h', toks := tk } := ⟨y, t, tk, h', rfl, e, rfl, F, N⟩
theorem cut_pred {M : Model} {A : Around} {E Q : Value → Shared → Prop} {s : Shared} {h₀ : Heap} {L : Addr} {m : Str → Option Value} {news : List (Addr × Obj)} {cm : Sem Value} (P : Int → Prop) (_F : Fr h₀ L s.heap m) (_N : News h₀ L s.heap news)
    (h1 : wpAny M A cm (fun v s' => CutP h₀ L m news s P v s') E s) (h2 : ∀ x t tk h', P x → Fr h₀ L h' m → News h₀ L h' news → Q (.int x t) { s with heap := h', toks := tk }) : wpAny M A cm Q E s := by
  refine wpAny_mono h1 (fun v s₂ hq => ?_) fun _ _ h => h
  obtain ⟨x, t, tk, h', rfl, hp, rfl, F, N⟩ := hq
  exact h2 x t tk h' hp F N
end
section
section
variable {prog : Program} {w : World} {A : Around} {E : Value → Shared → Prop} {s : Shared} {h₀ : Heap} {L l : Addr} {m : Str → Option Value} {news : List (Addr × Obj)} {vs : List Value} {ns : List Int}
theorem ints_at : ∀ {vs : List Value} {ns : List Int}, IntsAre vs ns → ∀ {k : Nat} (h : k < ns.length), ∃ t, vs[k]? = some (Value.int ns[k] t)
  | _, _, .nil, _, h => absurd h (by simp)
  | _, _, .cons _ t _, 0, _ => ⟨t, rfl⟩
  | _, _, .cons _ _ r, k + 1, h => by simpa using ints_at r (k := k) (by simpa using h)
/-- an item of a list of ints at a place that lies in it -/
theorem list_item {value slice : PySem.Expr} {k : Int} {u : Tok} {Q : Value → Shared → Prop} (hl : s.heap.IsList l vs.toArray) (hi : IntsAre vs ns) (h0 : 0 ≤ k) (hz : k < 2 ^ 63) (hk : k.toNat < ns.length)
    (hs : subscripted slice false (.ref l) (.int k u) = operate [.ref l, .int k u] (getItem (.ref l) (.int k u)))
    (h : ∀ t, Q (.int ns[k.toNat] t) s) : wpAny (model prog w) A (subscriptTail value slice (.ref l) (.int k u)) Q E s := by
  obtain ⟨t, ht⟩ := ints_at hi hk
  exact tail_any hl.typeIs slot_list_getitem.lookup (wpAny_getItem_list hl h0 hz (by simpa using ht) (h t)) hs
theorem script_item {value slice : PySem.Expr} {k : Int} {u : Tok} {Q : Value → Shared → Prop} (hl : s.heap.IsList l vs.toArray) (hi : IntsAre vs ns) (h0 : 0 ≤ k) (hz : k < 2 ^ 63) (hk : k < (ns.length : Int))
    (hs : subscripted slice false (.ref l) (.int k u) = operate [.ref l, .int k u] (getItem (.ref l) (.int k u)))
    (h : ∀ x t, Q (.int x t) s) : wpAny (model prog w) A (subscriptTail value slice (.ref l) (.int k u)) Q E s :=
  list_item hl hi h0 hz (by omega) hs (h _)
theorem map_item {f : Int → Int} {n : Nat} {value slice : PySem.Expr} {k : Int} {u : Tok} {Q : Value → Shared → Prop} (hl : s.heap.IsList l vs.toArray) (hi : IntsAre vs (List.map f (rangeKs 0 n))) (h0 : 0 ≤ k) (hz : k < 2 ^ 63) (hk : k < (n : Int))
    (hs : subscripted slice false (.ref l) (.int k u) = operate [.ref l, .int k u] (getItem (.ref l) (.int k u)))
    (h : ∀ t, Q (.int (f k) t) s) : wpAny (model prog w) A (subscriptTail value slice (.ref l) (.int k u)) Q E s := by
  have hk' : k.toNat < (List.map f (rangeKs 0 n)).length := by simp [rangeKs]; omega
  refine list_item hl hi h0 hz hk' hs fun t => ?_
  have e : (List.map f (rangeKs 0 n))[k.toNat] = f k := by
    simp [rangeKs]
    congr 1
    omega
  rw [e]
  exact h t
theorem sum_to {X : Int} {Q : Value → Shared → Prop} (F : Fr h₀ L s.heap m) (N : News h₀ L s.heap news) (hh : A.handled = none) (hl : s.heap.IsList l vs.toArray) (hi : IntsAre vs ns) (e : ns.sum = X)
    (h : ∀ h' tk t', Fr h₀ L h' m → News h₀ L h' news → Q (.int X t') { s with heap := h', toks := tk }) : wpAny (model prog w) A (call (.builtin "sum") [.ref l]) Q E s := by
  subst e
  exact LSm.sum_ints F N hh hl hi h
end
theorem rks_succ (n : Nat) : rangeKs 0 (n + 1) = rangeKs 0 n ++ [(n : Int)] := by simp [rangeKs, List.range_succ]
/-- the k-th month's length, from January of the year 1 on -/
def mlen (k : Int) : Int := dim (k.fdiv 12 + 1) (k.fmod 12 + 1)
theorem msum (n : Nat) : (List.map mlen (rangeKs 0 n)).sum = dby ((n : Int) / 12 + 1) + dbm ((n : Int) / 12 + 1) ((n : Int) % 12 + 1) := by
  induction n with
  | zero => decide
  | succ n ih =>
    rw [rks_succ, List.map_append, List.sum_append, ih]
    simp only [List.map_cons, List.map_nil, List.sum_cons, List.sum_nil, mlen]
    rw [Int.fmod_eq_emod_of_nonneg _ (by decide), Int.fdiv_eq_ediv_of_nonneg _ (by decide)]
    have hl : 0 ≤ (n : Int) % 12 := by omega
    have hu : (n : Int) % 12 < 12 := by omega
    by_cases c : (n : Int) % 12 = 11
    · rw [show ((n + 1 : Nat) : Int) / 12 = (n : Int) / 12 + 1 by omega, show ((n + 1 : Nat) : Int) % 12 = 0 by omega, c]
      have h1 := dby_succ ((n : Int) / 12 + 1)
      have h2 := dbm_12 ((n : Int) / 12 + 1)
      have h3 := dbm_1 ((n : Int) / 12 + 1 + 1)
      simp only [show (11 : Int) + 1 = 12 by rfl, show (0 : Int) + 1 = 1 by rfl]
      omega
    · rw [show ((n + 1 : Nat) : Int) / 12 = (n : Int) / 12 by omega, show ((n + 1 : Nat) : Int) % 12 = (n : Int) % 12 + 1 by omega]
      have h2 := dbm_step (y := (n : Int) / 12 + 1) (m := (n : Int) % 12 + 1) (by omega) (by omega)
      omega
theorem take_rks {f : Int → Int} {k n : Nat} (h : k ≤ n) : List.take k (List.map f (rangeKs 0 n)) = List.map f (rangeKs 0 k) := by
  simp only [rangeKs, ← List.map_take, List.take_range, Nat.min_eq_left h]
theorem sumA {r : Int} (h : 0 ≤ r) : (List.take (r - r.fmod 12).toNat (List.map mlen (rangeKs 0 (r + 1 - 0).toNat))).sum = dby (r.fdiv 12 + 1) := by
  rw [Int.fmod_eq_emod_of_nonneg _ (by decide), Int.fdiv_eq_ediv_of_nonneg _ (by decide), take_rks (by omega), msum]
  rw [show (((r - r % 12).toNat : Nat) : Int) / 12 = r / 12 by omega, show (((r - r % 12).toNat : Nat) : Int) % 12 = 0 by omega]
  have := dbm_1 (r / 12 + 1)
  simp only [show (0 : Int) + 1 = 1 by rfl]
  omega
theorem sum_cut {l : List Int} {a b : Nat} (h : a ≤ b) : ((l.drop a).take (b - a)).sum = (l.take b).sum - (l.take a).sum := by
  have : l.take b = l.take a ++ (l.drop a).take (b - a) := by
    rw [← List.take_append_drop a (l.take b)]
    congr 1
    · rw [List.take_take, Nat.min_eq_left h]
    · rw [List.drop_take]
  rw [this, List.sum_append]
  omega
theorem sumB {r : Int} (h : 0 ≤ r) : (List.take (min r.toNat (List.map mlen (rangeKs 0 (r + 1 - 0).toNat)).length - (r - r.fmod 12).toNat) (List.drop (r - r.fmod 12).toNat (List.map mlen (rangeKs 0 (r + 1 - 0).toNat)))).sum = dbm (r.fdiv 12 + 1) (r.fmod 12 + 1) := by
  have hm : min r.toNat (List.map mlen (rangeKs 0 (r + 1 - 0).toNat)).length = r.toNat := by simp [rangeKs]; omega
  have e0 : r.fmod 12 = r % 12 := Int.fmod_eq_emod_of_nonneg _ (by decide)
  rw [hm, sum_cut (by omega), sumA h, take_rks (by omega), msum, e0, Int.fdiv_eq_ediv_of_nonneg _ (by decide)]
  rw [show ((r.toNat : Nat) : Int) = r by omega]
  omega
theorem l04_facts {x q r : Int} (e : x = 4800 * q + r) (l : 0 ≤ r) (u : r < 4800) :
    dby (x.fdiv 12 + 1) = 146097 * q + dby (r.fdiv 12 + 1) ∧ dbm (x.fdiv 12 + 1) (x.fmod 12 + 1) = dbm (r.fdiv 12 + 1) (r.fmod 12 + 1) ∧ dim (x.fdiv 12 + 1) (x.fmod 12 + 1) = dim (r.fdiv 12 + 1) (r.fmod 12 + 1) ∧
    1 ≤ x.fmod 12 + 1 ∧ x.fmod 12 + 1 ≤ 12 ∧ 28 ≤ mlen r ∧ mlen r = dim (r.fdiv 12 + 1) (r.fmod 12 + 1) := by
  have e1 : ∀ z : Int, z.fmod 12 = z % 12 := fun z => Int.fmod_eq_emod_of_nonneg _ (by decide)
  have e2 : ∀ z : Int, z.fdiv 12 = z / 12 := fun z => Int.fdiv_eq_ediv_of_nonneg _ (by decide)
  have hl : lpd (x / 12 + 1) = lpd (r / 12 + 1) := by
    unfold lpd
    have : leap (x / 12 + 1) = leap (r / 12 + 1) := by
      rw [Bool.eq_iff_iff, leap_iff, leap_iff]
      rw [show x / 12 + 1 = 400 * q + (r / 12 + 1) by omega]
      omega
    rw [this]
  have hm : x % 12 = r % 12 := by omega
  simp only [mlen, e1, e2]
  refine ⟨?_, ?_, ?_, by omega, by omega, (dim_pos (by omega) (by omega)).1, trivial⟩
  · rw [show x / 12 + 1 = 400 * q + (r / 12 + 1) by omega]
    unfold dby
    omega
  · rw [hm]; unfold dbm; rw [hl]
  · rw [hm]; unfold dim; rw [hl]
theorem l04_told {yy mm dd q m d N : Int} (hV : Valid yy mm dd) (hO : ord yy mm dd = N) (hv : Valid q m d) (e : N = dby q + dbm q m + d) : yy = q ∧ mm = m ∧ dd = d :=
  ord_inj hV hv (by rw [hO, e]; rfl)
theorem ne_nil_len {ns : List Int} (h : decide (ns = []) = false) : (0 : Int) < (ns.length : Int) := by
  cases ns with
  | nil => simp at h
  | cons => simp only [List.length_cons]; omega
end
section
open_top hd04 for PySem.Challenge.rw_dn0120_04
end
section
local macro_rules | `(tactic| walk_at "mine pre") => `(tactic| first | with_reducible assumption | omega | l_fact)
local macro_rules | `(tactic| walk_at "mine twelve") => `(tactic| (intro k h1 h2; rcases m12 h1 h2 with h | h | h | h | h | h | h | h | h | h | h | h <;> (subst h; exact ⟨_, rfl⟩)))
local macro_rules | `(tactic| walk_at "mine lt") => `(tactic| first | with_reducible assumption | exact (by with_reducible assumption : _ ∧ AllLt _ _).2 | exact (by with_reducible assumption : _ ∧ _ ∧ AllLt _ _).2.2 | exact (by with_reducible assumption : _ ∧ _ ∧ _ ∧ AllLt _ _).2.2.2 | exact (by with_reducible assumption : _ ∧ _ ∧ _ ∧ _ ∧ AllLt _ _).2.2.2.2)
local macro_rules | `(tactic| walk_at "eval Call") => `(tactic| (k_here; (with_reducible show wpAny _ _ (eval (PySem.Expr.Call (PySem.Expr.Name (Str.ofString "_is_leap") _) _ [] _) _) _ _ _); k_dflt (refine Call_ ?_)))
local macro_rules | `(tactic| walk_at "eval Call") => `(tactic| (k_here; (with_reducible show wpAny _ _ (eval (PySem.Expr.Call (PySem.Expr.Name (Str.ofString "_days_before_year") _) _ [] _) _) _ _ _); k_dflt (refine Call_ ?_)))
local macro_rules | `(tactic| walk_at "eval Call") => `(tactic| (k_here; (with_reducible show wpAny _ _ (eval (PySem.Expr.Call (PySem.Expr.Name (Str.ofString "_days_in_month") _) _ [] _) _) _ _ _); k_dflt (refine Call_ ?_)))
local macro_rules | `(tactic| walk_at "eval Call") => `(tactic| (k_here; (with_reducible show wpAny _ _ (eval (PySem.Expr.Call (PySem.Expr.Name (Str.ofString "_days_before_month") _) _ [] _) _) _ _ _); k_dflt (refine Call_ ?_)))
local macro_rules | `(tactic| walk_at "eval Call") => `(tactic| (k_here; (with_reducible show wpAny _ _ (eval (PySem.Expr.Call (PySem.Expr.Name (Str.ofString "_ymd2ord") _) _ [] _) _) _ _ _); k_dflt (refine Call_ ?_)))
local macro_rules | `(tactic| walk_at "eval Call") => `(tactic| (k_here; (with_reducible show wpAny _ _ (eval (PySem.Expr.Call (PySem.Expr.Name (Str.ofString "_ord2ymd") _) _ [] _) _) _ _ _); k_dflt (refine Call_ ?_)))
local macro_rules | `(tactic| walk_at "eval Call") => `(tactic| (k_here; (with_reducible show wpAny _ _ (eval (PySem.Expr.Call (PySem.Expr.Name (Str.ofString "_law_length") _) _ [] _) _) _ _ _); k_dflt (refine Call_ ?_)))
local macro_rules | `(tactic| walk_at "subscriptTail Name Name ref int") => `(tactic| (k_here; (with_reducible show wpAny _ _ (subscriptTail _ _ (Value.ref 15) (Value.int _ _)) _ _ _); k_dflt (refine' tab_item dimT ?F ?X ?o ?h1 ?h2 ?x ?s ?_; (case F => k_asm); (case X => k_asm); (case o => k_is); (case h1 => walk_at "mine pre"); (case h2 => walk_at "mine pre"); (case x => walk_at "mine twelve"); (case s => with_unfolding_all rfl); k_whole); intro t9))
local macro_rules | `(tactic| walk_at "subscriptTail Name Name ref int") => `(tactic| (k_here; (with_reducible show wpAny _ _ (subscriptTail _ _ (Value.ref 16) (Value.int _ _)) _ _ _); k_dflt (refine' tab_item dbmT ?F ?X ?o ?h1 ?h2 ?x ?s ?_; (case F => k_asm); (case X => k_asm); (case o => k_is); (case h1 => walk_at "mine pre"); (case h2 => walk_at "mine pre"); (case x => walk_at "mine twelve"); (case s => with_unfolding_all rfl); k_whole); intro t9))
theorem c_leap {w : World} {s₀ : Shared} {mg mb : Str → Option Value} {dp un : Nat} {gd : Option (List Code)} {cn : Str} {cs : Scope} {a : Addr} {ccd : Value} {cl : List (Str × Addr)} {outer : List Env} {A₀ : Around} {base h₀ : Heap} {L : Addr} {m : Str → Option Value} {news : List (Addr × Obj)} {s : Shared} {Q E : Value → Shared → Prop} {y : Int} {ty : Tok}
    (kB : Below A₀ base outer h₀) (kF : Fr h₀ L s.heap m) (kK : (hd04.heap_39 w.params).In h₀) (kN : News h₀ L s.heap news) (kT : Top hd04.view_39 (looseW hd04.view_39 [Str.ofString "_DAYS_IN_MONTH", Str.ofString "_DAYS_BEFORE_MONTH", Str.ofString "_DI400Y", Str.ofString "_DI100Y", Str.ofString "_DI4Y"]) (ExcName.means s₀.heap) mg mb h₀) (kk : cs.kind = .function) (kd : dp + 1 < recursionLimit) (ku : un + 8 < cLine) 
    (ret : ∀ (t : Tok) (h' : Heap) (tk' : Nat), Fr h₀ L h' m → News h₀ L h' news → Q (.bool (leap y)) { s with heap := h', toks := tk' }) :
    wpAny (model Challenge.rw_dn0120_04.row.prog w) (ktrTop dp un gd cn cs L a ccd cl outer) (call (.ref 28) [Value.int y ty]) Q E s := by
  w_strict (
    revert kK
    k_fill
    intro kK
    refine wpAny_call ?_
    k_dflt cell_enter
    k_steps
    k_with "tree" => (simp only [leap])
    all_goals cb_end ret)
local macro_rules | `(tactic| walk_at "call ref") => `(tactic| (k_here; (with_reducible show wpAny _ _ (PySem.call (Value.ref 28) _) _ _ _); k_dflt (refine' c_leap ?k1 ?k2 ?k3 ?k4 ?k5 ?kK ?kd ?ku ?_; (case k1 => k_asm); (case k2 => k_asm); (case k3 => k_asm); (case k4 => k_asm); (case k5 => k_asm); (case kK => first | exact rfl | assumption); (case kd => ktr_room); (case ku => ktr_units); k_whole); intro t9 h9 tk9 F9 N9; (try dsimp only); (try k_fold)))
theorem c_dby {w : World} {s₀ : Shared} {mg mb : Str → Option Value} {dp un : Nat} {gd : Option (List Code)} {cn : Str} {cs : Scope} {a : Addr} {ccd : Value} {cl : List (Str × Addr)} {outer : List Env} {A₀ : Around} {base h₀ : Heap} {L : Addr} {m : Str → Option Value} {news : List (Addr × Obj)} {s : Shared} {Q E : Value → Shared → Prop} {y : Int} {ty : Tok}
    (kB : Below A₀ base outer h₀) (kF : Fr h₀ L s.heap m) (kK : (hd04.heap_39 w.params).In h₀) (kN : News h₀ L s.heap news) (kT : Top hd04.view_39 (looseW hd04.view_39 [Str.ofString "_DAYS_IN_MONTH", Str.ofString "_DAYS_BEFORE_MONTH", Str.ofString "_DI400Y", Str.ofString "_DI100Y", Str.ofString "_DI4Y"]) (ExcName.means s₀.heap) mg mb h₀) (kk : cs.kind = .function) (kd : dp + 1 < recursionLimit) (ku : un + 8 < cLine) 
    (ret : ∀ (t : Tok) (h' : Heap) (tk' : Nat), Fr h₀ L h' m → News h₀ L h' news → Q (.int (dby y) t) { s with heap := h', toks := tk' }) :
    wpAny (model Challenge.rw_dn0120_04.row.prog w) (ktrTop dp un gd cn cs L a ccd cl outer) (call (.ref 35) [Value.int y ty]) Q E s := by
  w_strict (
    revert kK
    k_fill
    intro kK
    refine wpAny_call ?_
    k_dflt cell_enter
    k_steps
    k_with "tree" => (simp only [dby, Int.fdiv_eq_ediv_of_nonneg _ (show (0 : Int) ≤ 4 by decide), Int.fdiv_eq_ediv_of_nonneg _ (show (0 : Int) ≤ 100 by decide), Int.fdiv_eq_ediv_of_nonneg _ (show (0 : Int) ≤ 400 by decide)])
    all_goals cb_end ret)
local macro_rules | `(tactic| walk_at "call ref") => `(tactic| (k_here; (with_reducible show wpAny _ _ (PySem.call (Value.ref 35) _) _ _ _); k_dflt (refine' c_dby ?k1 ?k2 ?k3 ?k4 ?k5 ?kK ?kd ?ku ?_; (case k1 => k_asm); (case k2 => k_asm); (case k3 => k_asm); (case k4 => k_asm); (case k5 => k_asm); (case kK => first | exact rfl | assumption); (case kd => ktr_room); (case ku => ktr_units); k_whole); intro t9 h9 tk9 F9 N9; (try dsimp only); (try k_fold)))
theorem c_dim {w : World} {s₀ : Shared} {mg mb : Str → Option Value} {dp un : Nat} {gd : Option (List Code)} {cn : Str} {cs : Scope} {a : Addr} {ccd : Value} {cl : List (Str × Addr)} {outer : List Env} {A₀ : Around} {base h₀ : Heap} {L : Addr} {m : Str → Option Value} {news : List (Addr × Obj)} {s : Shared} {Q E : Value → Shared → Prop} {y : Int} {ty : Tok} {mo : Int} {tmo : Tok}
    (kB : Below A₀ base outer h₀) (kF : Fr h₀ L s.heap m) (kK : (hd04.heap_39 w.params).In h₀) (kN : News h₀ L s.heap news) (kT : Top hd04.view_39 (looseW hd04.view_39 [Str.ofString "_DAYS_IN_MONTH", Str.ofString "_DAYS_BEFORE_MONTH", Str.ofString "_DI400Y", Str.ofString "_DI100Y", Str.ofString "_DI4Y"]) (ExcName.means s₀.heap) mg mb h₀) (kk : cs.kind = .function) (kd : dp + 3 < recursionLimit) (ku : un + 24 < cLine) (h1 : 1 ≤ mo) (h2 : mo ≤ 12)
    (ret : ∀ (t : Tok) (h' : Heap) (tk' : Nat), Fr h₀ L h' m → News h₀ L h' news → Q (.int (dim y mo) t) { s with heap := h', toks := tk' }) :
    wpAny (model Challenge.rw_dn0120_04.row.prog w) (ktrTop dp un gd cn cs L a ccd cl outer) (call (.ref 42) [Value.int y ty, Value.int mo tmo]) Q E s := by
  w_strict (
    revert kK
    k_fill
    intro kK
    refine wpAny_call ?_
    k_dflt cell_enter
    k_steps
    k_with "tree" => (simp only [dim, dimT, lpd])
    all_goals cb_end ret)
local macro_rules | `(tactic| walk_at "call ref") => `(tactic| (k_here; (with_reducible show wpAny _ _ (PySem.call (Value.ref 42) _) _ _ _); k_dflt (refine' c_dim ?k1 ?k2 ?k3 ?k4 ?k5 ?kK ?kd ?ku ?kp0 ?kp1 ?_; (case k1 => k_asm); (case k2 => k_asm); (case k3 => k_asm); (case k4 => k_asm); (case k5 => k_asm); (case kK => first | exact rfl | assumption); (case kd => ktr_room); (case ku => ktr_units); (case kp0 => walk_at "mine pre"); (case kp1 => walk_at "mine pre"); k_whole); intro t9 h9 tk9 F9 N9; (try dsimp only); (try k_fold)))
theorem c_dbm {w : World} {s₀ : Shared} {mg mb : Str → Option Value} {dp un : Nat} {gd : Option (List Code)} {cn : Str} {cs : Scope} {a : Addr} {ccd : Value} {cl : List (Str × Addr)} {outer : List Env} {A₀ : Around} {base h₀ : Heap} {L : Addr} {m : Str → Option Value} {news : List (Addr × Obj)} {s : Shared} {Q E : Value → Shared → Prop} {y : Int} {ty : Tok} {mo : Int} {tmo : Tok}
    (kB : Below A₀ base outer h₀) (kF : Fr h₀ L s.heap m) (kK : (hd04.heap_39 w.params).In h₀) (kN : News h₀ L s.heap news) (kT : Top hd04.view_39 (looseW hd04.view_39 [Str.ofString "_DAYS_IN_MONTH", Str.ofString "_DAYS_BEFORE_MONTH", Str.ofString "_DI400Y", Str.ofString "_DI100Y", Str.ofString "_DI4Y"]) (ExcName.means s₀.heap) mg mb h₀) (kk : cs.kind = .function) (kd : dp + 3 < recursionLimit) (ku : un + 24 < cLine) (h1 : 1 ≤ mo) (h2 : mo ≤ 12)
    (ret : ∀ (t : Tok) (h' : Heap) (tk' : Nat), Fr h₀ L h' m → News h₀ L h' news → Q (.int (dbm y mo) t) { s with heap := h', toks := tk' }) :
    wpAny (model Challenge.rw_dn0120_04.row.prog w) (ktrTop dp un gd cn cs L a ccd cl outer) (call (.ref 49) [Value.int y ty, Value.int mo tmo]) Q E s := by
  w_strict (
    revert kK
    k_fill
    intro kK
    refine wpAny_call ?_
    k_dflt cell_enter
    k_steps
    k_with "tree" => (simp only [dbm, lpd])
    all_goals cb_end ret)
local macro_rules | `(tactic| walk_at "call ref") => `(tactic| (k_here; (with_reducible show wpAny _ _ (PySem.call (Value.ref 49) _) _ _ _); k_dflt (refine' c_dbm ?k1 ?k2 ?k3 ?k4 ?k5 ?kK ?kd ?ku ?kp0 ?kp1 ?_; (case k1 => k_asm); (case k2 => k_asm); (case k3 => k_asm); (case k4 => k_asm); (case k5 => k_asm); (case kK => first | exact rfl | assumption); (case kd => ktr_room); (case ku => ktr_units); (case kp0 => walk_at "mine pre"); (case kp1 => walk_at "mine pre"); k_whole); intro t9 h9 tk9 F9 N9; (try dsimp only); (try k_fold)))
theorem c_ord {w : World} {s₀ : Shared} {mg mb : Str → Option Value} {dp un : Nat} {gd : Option (List Code)} {cn : Str} {cs : Scope} {a : Addr} {ccd : Value} {cl : List (Str × Addr)} {outer : List Env} {A₀ : Around} {base h₀ : Heap} {L : Addr} {m : Str → Option Value} {news : List (Addr × Obj)} {s : Shared} {Q E : Value → Shared → Prop} {y : Int} {ty : Tok} {mo : Int} {tmo : Tok} {d : Int} {td : Tok}
    (kB : Below A₀ base outer h₀) (kF : Fr h₀ L s.heap m) (kK : (hd04.heap_39 w.params).In h₀) (kN : News h₀ L s.heap news) (kT : Top hd04.view_39 (looseW hd04.view_39 [Str.ofString "_DAYS_IN_MONTH", Str.ofString "_DAYS_BEFORE_MONTH", Str.ofString "_DI400Y", Str.ofString "_DI100Y", Str.ofString "_DI4Y"]) (ExcName.means s₀.heap) mg mb h₀) (kk : cs.kind = .function) (kd : dp + 5 < recursionLimit) (ku : un + 40 < cLine) (h1 : 1 ≤ mo) (h2 : mo ≤ 12) (h3 : 1 ≤ d) (h4 : d ≤ dim y mo)
    (ret : ∀ (t : Tok) (h' : Heap) (tk' : Nat), Valid y mo d → Fr h₀ L h' m → News h₀ L h' news → Q (.int (dby y + dbm y mo + d) t) { s with heap := h', toks := tk' }) :
    wpAny (model Challenge.rw_dn0120_04.row.prog w) (ktrTop dp un gd cn cs L a ccd cl outer) (call (.ref 56) [Value.int y ty, Value.int mo tmo, Value.int d td]) Q E s := by
  w_strict (
    revert kK
    k_fill
    intro kK
    replace ret := fun t h' tk' => ret t h' tk' ⟨h1, h2, h3, h4⟩
    refine wpAny_call ?_
    k_dflt cell_enter
    k_steps
    all_goals cb_end ret)
local macro_rules | `(tactic| walk_at "call ref") => `(tactic| (k_here; (with_reducible show wpAny _ _ (PySem.call (Value.ref 56) _) _ _ _); k_dflt (refine' c_ord ?k1 ?k2 ?k3 ?k4 ?k5 ?kK ?kd ?ku ?kp0 ?kp1 ?kp2 ?kp3 ?_; (case k1 => k_asm); (case k2 => k_asm); (case k3 => k_asm); (case k4 => k_asm); (case k5 => k_asm); (case kK => first | exact rfl | assumption); (case kd => ktr_room); (case ku => ktr_units); (case kp0 => walk_at "mine pre"); (case kp1 => walk_at "mine pre"); (case kp2 => walk_at "mine pre"); (case kp3 => walk_at "mine pre"); k_whole); intro t9 h9 tk9 hv9 F9 N9; (try dsimp only); (try k_fold)))
end
section
local macro_rules | `(tactic| walk_at "mine pre") => `(tactic| first | with_reducible assumption | omega | l_fact)
local macro_rules | `(tactic| walk_at "mine twelve") => `(tactic| (intro k h1 h2; rcases m12 h1 h2 with h | h | h | h | h | h | h | h | h | h | h | h <;> (subst h; exact ⟨_, rfl⟩)))
local macro_rules | `(tactic| walk_at "mine lt") => `(tactic| first | with_reducible assumption | exact (by with_reducible assumption : _ ∧ AllLt _ _).2 | exact (by with_reducible assumption : _ ∧ _ ∧ AllLt _ _).2.2 | exact (by with_reducible assumption : _ ∧ _ ∧ _ ∧ AllLt _ _).2.2.2 | exact (by with_reducible assumption : _ ∧ _ ∧ _ ∧ _ ∧ AllLt _ _).2.2.2.2)
local macro_rules | `(tactic| walk_at "eval Call") => `(tactic| (k_here; (with_reducible show wpAny _ _ (eval (PySem.Expr.Call (PySem.Expr.Name (Str.ofString "_is_leap") _) _ [] _) _) _ _ _); k_dflt (refine Call_ ?_)))
local macro_rules | `(tactic| walk_at "eval Call") => `(tactic| (k_here; (with_reducible show wpAny _ _ (eval (PySem.Expr.Call (PySem.Expr.Name (Str.ofString "_days_before_year") _) _ [] _) _) _ _ _); k_dflt (refine Call_ ?_)))
local macro_rules | `(tactic| walk_at "eval Call") => `(tactic| (k_here; (with_reducible show wpAny _ _ (eval (PySem.Expr.Call (PySem.Expr.Name (Str.ofString "_days_in_month") _) _ [] _) _) _ _ _); k_dflt (refine Call_ ?_)))
local macro_rules | `(tactic| walk_at "eval Call") => `(tactic| (k_here; (with_reducible show wpAny _ _ (eval (PySem.Expr.Call (PySem.Expr.Name (Str.ofString "_days_before_month") _) _ [] _) _) _ _ _); k_dflt (refine Call_ ?_)))
local macro_rules | `(tactic| walk_at "eval Call") => `(tactic| (k_here; (with_reducible show wpAny _ _ (eval (PySem.Expr.Call (PySem.Expr.Name (Str.ofString "_ymd2ord") _) _ [] _) _) _ _ _); k_dflt (refine Call_ ?_)))
local macro_rules | `(tactic| walk_at "eval Call") => `(tactic| (k_here; (with_reducible show wpAny _ _ (eval (PySem.Expr.Call (PySem.Expr.Name (Str.ofString "_ord2ymd") _) _ [] _) _) _ _ _); k_dflt (refine Call_ ?_)))
local macro_rules | `(tactic| walk_at "eval Call") => `(tactic| (k_here; (with_reducible show wpAny _ _ (eval (PySem.Expr.Call (PySem.Expr.Name (Str.ofString "_law_length") _) _ [] _) _) _ _ _); k_dflt (refine Call_ ?_)))
local macro_rules | `(tactic| walk_at "subscriptTail Name Name ref int") => `(tactic| (k_here; (with_reducible show wpAny _ _ (subscriptTail _ _ (Value.ref 15) (Value.int _ _)) _ _ _); k_dflt (refine' tab_item dimT ?F ?X ?o ?h1 ?h2 ?x ?s ?_; (case F => k_asm); (case X => k_asm); (case o => k_is); (case h1 => walk_at "mine pre"); (case h2 => walk_at "mine pre"); (case x => walk_at "mine twelve"); (case s => with_unfolding_all rfl); k_whole); intro t9))
local macro_rules | `(tactic| walk_at "subscriptTail Name Name ref int") => `(tactic| (k_here; (with_reducible show wpAny _ _ (subscriptTail _ _ (Value.ref 16) (Value.int _ _)) _ _ _); k_dflt (refine' tab_item dbmT ?F ?X ?o ?h1 ?h2 ?x ?s ?_; (case F => k_asm); (case X => k_asm); (case o => k_is); (case h1 => walk_at "mine pre"); (case h2 => walk_at "mine pre"); (case x => walk_at "mine twelve"); (case s => with_unfolding_all rfl); k_whole); intro t9))
local macro_rules | `(tactic| walk_at "call ref") => `(tactic| (k_here; (with_reducible show wpAny _ _ (PySem.call (Value.ref 28) _) _ _ _); k_dflt (refine' c_leap ?k1 ?k2 ?k3 ?k4 ?k5 ?kK ?kd ?ku ?_; (case k1 => k_asm); (case k2 => k_asm); (case k3 => k_asm); (case k4 => k_asm); (case k5 => k_asm); (case kK => first | exact rfl | assumption); (case kd => ktr_room); (case ku => ktr_units); k_whole); intro t9 h9 tk9 F9 N9; (try dsimp only); (try k_fold)))
local macro_rules | `(tactic| walk_at "call ref") => `(tactic| (k_here; (with_reducible show wpAny _ _ (PySem.call (Value.ref 35) _) _ _ _); k_dflt (refine' c_dby ?k1 ?k2 ?k3 ?k4 ?k5 ?kK ?kd ?ku ?_; (case k1 => k_asm); (case k2 => k_asm); (case k3 => k_asm); (case k4 => k_asm); (case k5 => k_asm); (case kK => first | exact rfl | assumption); (case kd => ktr_room); (case ku => ktr_units); k_whole); intro t9 h9 tk9 F9 N9; (try dsimp only); (try k_fold)))
local macro_rules | `(tactic| walk_at "call ref") => `(tactic| (k_here; (with_reducible show wpAny _ _ (PySem.call (Value.ref 42) _) _ _ _); k_dflt (refine' c_dim ?k1 ?k2 ?k3 ?k4 ?k5 ?kK ?kd ?ku ?kp0 ?kp1 ?_; (case k1 => k_asm); (case k2 => k_asm); (case k3 => k_asm); (case k4 => k_asm); (case k5 => k_asm); (case kK => first | exact rfl | assumption); (case kd => ktr_room); (case ku => ktr_units); (case kp0 => walk_at "mine pre"); (case kp1 => walk_at "mine pre"); k_whole); intro t9 h9 tk9 F9 N9; (try dsimp only); (try k_fold)))
local macro_rules | `(tactic| walk_at "call ref") => `(tactic| (k_here; (with_reducible show wpAny _ _ (PySem.call (Value.ref 49) _) _ _ _); k_dflt (refine' c_dbm ?k1 ?k2 ?k3 ?k4 ?k5 ?kK ?kd ?ku ?kp0 ?kp1 ?_; (case k1 => k_asm); (case k2 => k_asm); (case k3 => k_asm); (case k4 => k_asm); (case k5 => k_asm); (case kK => first | exact rfl | assumption); (case kd => ktr_room); (case ku => ktr_units); (case kp0 => walk_at "mine pre"); (case kp1 => walk_at "mine pre"); k_whole); intro t9 h9 tk9 F9 N9; (try dsimp only); (try k_fold)))
local macro_rules | `(tactic| walk_at "call ref") => `(tactic| (k_here; (with_reducible show wpAny _ _ (PySem.call (Value.ref 56) _) _ _ _); k_dflt (refine' c_ord ?k1 ?k2 ?k3 ?k4 ?k5 ?kK ?kd ?ku ?kp0 ?kp1 ?kp2 ?kp3 ?_; (case k1 => k_asm); (case k2 => k_asm); (case k3 => k_asm); (case k4 => k_asm); (case k5 => k_asm); (case kK => first | exact rfl | assumption); (case kd => ktr_room); (case ku => ktr_units); (case kp0 => walk_at "mine pre"); (case kp1 => walk_at "mine pre"); (case kp2 => walk_at "mine pre"); (case kp3 => walk_at "mine pre"); k_whole); intro t9 h9 tk9 hv9 F9 N9; (try dsimp only); (try k_fold)))
local macro_rules | `(tactic| walk_at "call builtin:divmod") => `(tactic| (k_here; (with_reducible show wpAny _ _ (PySem.call _ [Value.int _ _, Value.int _ _]) _ _ _); k_dflt (refine' divmod_gen ?F ?N ?b ?c ?_; (case F => k_asm); (case N => k_asm); (case b => decide); (case c => decide); k_whole); intro q' r' D' h' t1' t2' tk' dvE dvL dvU F' N' l1; (try simp only [AllLt] at l1); (try k_sweep)))
local macro_rules | `(tactic| walk_at "mine dec") => `(tactic| exact Dec.mk (by with_reducible assumption) (by with_reducible assumption) (by with_reducible assumption) (by with_reducible assumption) (by with_reducible assumption) (by with_reducible assumption) (by with_reducible assumption) (by with_reducible assumption) (by with_reducible assumption) (by with_reducible assumption) (by with_reducible assumption) (by with_reducible assumption))
local macro_rules | `(tactic| walk_at "eval BoolOp And") => `(tactic| (k_here; (with_reducible show wpAny _ _ (eval (PySem.Expr.BoolOp BoolOp.And [PySem.Expr.Compare (PySem.Expr.Name (Str.ofString "n1") _) _ _ _, _] _) _) _ _ _); (fail_if_success (with_reducible show wpAny _ _ _ (fun v s' => CutB _ _ _ _ _ _ v s') _ _)); obtain ⟨z9, y9, hy8, hz8, hz9, hz7, hy7⟩ := o2y_year (by walk_at "mine dec") (by with_reducible assumption) (by with_reducible assumption); refine' cut_bool z9 ?F ?N ?_ ?_; (case F => k_asm); (case N => k_asm); rotate_left; (intro tk' h' F' N'; (try dsimp only); (try k_sweep)); rotate_left))
local macro_rules | `(tactic| walk_at "eval BoolOp And") => `(tactic| (k_here; (with_reducible show wpAny _ _ (eval (PySem.Expr.BoolOp BoolOp.And [PySem.Expr.Compare (PySem.Expr.Name (Str.ofString "month") _) [CmpOp.Gt] _ _, PySem.Expr.Name (Str.ofString "leapyear") _] _) _) _ _ _); (fail_if_success (with_reducible show wpAny _ _ _ (fun v s' => CutB _ _ _ _ _ _ v s') _ _)); refine' cut_iff (P := ((2 : Int) < _ ∧ _ = true)) (by with_reducible assumption) ?F ?N ?_ ?_; (case F => k_asm); (case N => k_asm); rotate_left; (intro tk' h' F' N'; (try dsimp only); (try k_sweep)); rotate_left))
local macro_rules | `(tactic| walk_at "eval BoolOp And") => `(tactic| (k_here; (with_reducible show wpAny _ _ (eval (PySem.Expr.BoolOp BoolOp.And [PySem.Expr.Compare (PySem.Expr.Name (Str.ofString "month") _) [CmpOp.Eq] _ _, PySem.Expr.Name (Str.ofString "leapyear") _] _) _) _ _ _); (fail_if_success (with_reducible show wpAny _ _ _ (fun v s' => CutB _ _ _ _ _ _ v s') _ _)); refine' cut_iff (P := (_ = (2 : Int) ∧ _ = true)) (by with_reducible assumption) ?F ?N ?_ ?_; (case F => k_asm); (case N => k_asm); rotate_left; (intro tk' h' F' N'; (try dsimp only); (try k_sweep)); rotate_left))
local macro_rules | `(tactic| walk_at "CutB") => `(tactic| (refine CutB.intro (by k_asm) (by k_asm) ?_; refine iff_bool ?_; refine Iff.trans ?_ (Iff.symm (by with_reducible assumption)); first | exact w_y1 (by with_reducible assumption) (by with_reducible assumption) | exact w_y2 (by with_reducible assumption) (by with_reducible assumption) | exact w_y3 (by with_reducible assumption) | exact w_gt (by with_reducible assumption) | exact w_ngt (by with_reducible assumption) | exact w_eq (by with_reducible assumption) | exact w_neq (by with_reducible assumption)))
local macro_rules | `(tactic| walk_at "compareOp Eq bool bool") => `(tactic| (k_here; refine cmp_bool_tt (by with_reducible assumption) ?_))
local macro_rules | `(tactic| walk_at "binaryOp RShift int int") => `(tactic| (k_here; refine rshift5_gen ?_; intro q9 t9 hq8 hq9; obtain ⟨hm1, hm2, hm3, hm4⟩ := o2y_month (by with_reducible assumption) (by with_reducible assumption) (by with_reducible assumption) hq8 hq9; obtain ⟨b8, hb8, hb7⟩ := o2y_gt2 (q := q9) (by with_reducible assumption); obtain ⟨b9, hb9, hb6⟩ := o2y_eq2 (q := q9 - 1) (by with_reducible assumption)))
local macro_rules | `(tactic| walk_at "mine endA") => `(tactic| exact o2y_endA (by with_reducible assumption) (by with_reducible assumption) (by with_reducible assumption) (by with_reducible assumption) (by with_reducible assumption) (by with_reducible assumption) (by with_reducible assumption))
local macro_rules | `(tactic| walk_at "mine endB") => `(tactic| exact o2y_endB (by with_reducible assumption) (by with_reducible assumption) (by with_reducible assumption) (by with_reducible assumption) (by with_reducible assumption) (by with_reducible assumption) (by with_reducible assumption))
local macro_rules | `(tactic| walk_at "mine o2y no") => `(tactic| (exfalso; first | with_reducible exact absurd (Dec.last (by walk_at "mine dec") (Or.inl (by with_reducible assumption))).1 (by with_reducible assumption) | with_reducible exact absurd (Dec.last (by walk_at "mine dec") (Or.inr (by with_reducible assumption))).1 (by with_reducible assumption) | with_reducible exact absurd (And.left (by walk_at "mine endA")) (by with_reducible assumption) | with_reducible exact absurd (And.left (And.right (by walk_at "mine endA"))) (by with_reducible assumption) | with_reducible exact absurd (And.left (by walk_at "mine endB")) (by with_reducible assumption) | with_reducible exact absurd (And.left (And.right (by walk_at "mine endB"))) (by with_reducible assumption)))
theorem c_o2y {w : World} {s₀ : Shared} {mg mb : Str → Option Value} {dp un : Nat} {gd : Option (List Code)} {cn : Str} {cs : Scope} {a : Addr} {ccd : Value} {cl : List (Str × Addr)} {outer : List Env} {A₀ : Around} {base h₀ : Heap} {L : Addr} {m : Str → Option Value} {news : List (Addr × Obj)} {s : Shared} {Q E : Value → Shared → Prop} {n : Int} {tn : Tok}
    (kB : Below A₀ base outer h₀) (kF : Fr h₀ L s.heap m) (kK : (hd04.heap_39 w.params).In h₀) (kN : News h₀ L s.heap news) (kT : Top hd04.view_39 (looseW hd04.view_39 [Str.ofString "_DAYS_IN_MONTH", Str.ofString "_DAYS_BEFORE_MONTH", Str.ofString "_DI400Y", Str.ofString "_DI100Y", Str.ofString "_DI4Y"]) (ExcName.means s₀.heap) mg mb h₀) (kk : cs.kind = .function) (kd : dp + 5 < recursionLimit) (ku : un + 40 < cLine) 
    (ret : ∀ (D : Addr) (yy mm dd : Int) (t1 t2 t3 : Tok) (h' : Heap) (tk' : Nat), Valid yy mm dd → ord yy mm dd = n → Fr h₀ L h' m → News h₀ L h' ((D, ({ cls := .type "tuple", data := .seq #[.int yy t1, .int mm t2, .int dd t3] } : Obj)) :: news) → AllLt D news → Q (.ref D) { s with heap := h', toks := tk' }) :
    wpAny (model Challenge.rw_dn0120_04.row.prog w) (ktrTop dp un gd cn cs L a ccd cl outer) (call (.ref 66) [Value.int n tn]) Q E s := by
  w_strict (
    revert kK
    k_fill
    intro kK
    refine wpAny_call ?_
    k_dflt cell_enter
    k_steps
    all_goals (first | (refine' ret _ _ _ _ _ _ _ _ _ ?v ?o ?f (news_keep4 ?n) ?l; (case f => k_asm); (case n => k_asm); (case l => walk_at "mine lt"); (case v => first | with_reducible exact (Dec.last (by walk_at "mine dec") (Or.inl (by with_reducible assumption))).2.1 | with_reducible exact (Dec.last (by walk_at "mine dec") (Or.inr (by with_reducible assumption))).2.1 | with_reducible exact And.left (And.right (And.right (by walk_at "mine endA"))) | with_reducible exact And.left (And.right (And.right (by walk_at "mine endB")))); (case o => first | with_reducible exact (Dec.last (by walk_at "mine dec") (Or.inl (by with_reducible assumption))).2.2 | with_reducible exact (Dec.last (by walk_at "mine dec") (Or.inr (by with_reducible assumption))).2.2 | with_reducible exact And.right (And.right (And.right (by walk_at "mine endA"))) | with_reducible exact And.right (And.right (And.right (by walk_at "mine endB"))))) | walk_at "mine o2y no"))
end
section
local macro_rules | `(tactic| walk_at "mine pre") => `(tactic| first | with_reducible assumption | omega | l_fact)
local macro_rules | `(tactic| walk_at "mine twelve") => `(tactic| (intro k h1 h2; rcases m12 h1 h2 with h | h | h | h | h | h | h | h | h | h | h | h <;> (subst h; exact ⟨_, rfl⟩)))
local macro_rules | `(tactic| walk_at "mine lt") => `(tactic| first | with_reducible assumption | exact (by with_reducible assumption : _ ∧ AllLt _ _).2 | exact (by with_reducible assumption : _ ∧ _ ∧ AllLt _ _).2.2 | exact (by with_reducible assumption : _ ∧ _ ∧ _ ∧ AllLt _ _).2.2.2 | exact (by with_reducible assumption : _ ∧ _ ∧ _ ∧ _ ∧ AllLt _ _).2.2.2.2)
local macro_rules | `(tactic| walk_at "eval Call") => `(tactic| (k_here; (with_reducible show wpAny _ _ (eval (PySem.Expr.Call (PySem.Expr.Name (Str.ofString "_is_leap") _) _ [] _) _) _ _ _); k_dflt (refine Call_ ?_)))
local macro_rules | `(tactic| walk_at "eval Call") => `(tactic| (k_here; (with_reducible show wpAny _ _ (eval (PySem.Expr.Call (PySem.Expr.Name (Str.ofString "_days_before_year") _) _ [] _) _) _ _ _); k_dflt (refine Call_ ?_)))
local macro_rules | `(tactic| walk_at "eval Call") => `(tactic| (k_here; (with_reducible show wpAny _ _ (eval (PySem.Expr.Call (PySem.Expr.Name (Str.ofString "_days_in_month") _) _ [] _) _) _ _ _); k_dflt (refine Call_ ?_)))
local macro_rules | `(tactic| walk_at "eval Call") => `(tactic| (k_here; (with_reducible show wpAny _ _ (eval (PySem.Expr.Call (PySem.Expr.Name (Str.ofString "_days_before_month") _) _ [] _) _) _ _ _); k_dflt (refine Call_ ?_)))
local macro_rules | `(tactic| walk_at "eval Call") => `(tactic| (k_here; (with_reducible show wpAny _ _ (eval (PySem.Expr.Call (PySem.Expr.Name (Str.ofString "_ymd2ord") _) _ [] _) _) _ _ _); k_dflt (refine Call_ ?_)))
local macro_rules | `(tactic| walk_at "eval Call") => `(tactic| (k_here; (with_reducible show wpAny _ _ (eval (PySem.Expr.Call (PySem.Expr.Name (Str.ofString "_ord2ymd") _) _ [] _) _) _ _ _); k_dflt (refine Call_ ?_)))
local macro_rules | `(tactic| walk_at "eval Call") => `(tactic| (k_here; (with_reducible show wpAny _ _ (eval (PySem.Expr.Call (PySem.Expr.Name (Str.ofString "_law_length") _) _ [] _) _) _ _ _); k_dflt (refine Call_ ?_)))
local macro_rules | `(tactic| walk_at "subscriptTail Name Name ref int") => `(tactic| (k_here; (with_reducible show wpAny _ _ (subscriptTail _ _ (Value.ref 15) (Value.int _ _)) _ _ _); k_dflt (refine' tab_item dimT ?F ?X ?o ?h1 ?h2 ?x ?s ?_; (case F => k_asm); (case X => k_asm); (case o => k_is); (case h1 => walk_at "mine pre"); (case h2 => walk_at "mine pre"); (case x => walk_at "mine twelve"); (case s => with_unfolding_all rfl); k_whole); intro t9))
local macro_rules | `(tactic| walk_at "subscriptTail Name Name ref int") => `(tactic| (k_here; (with_reducible show wpAny _ _ (subscriptTail _ _ (Value.ref 16) (Value.int _ _)) _ _ _); k_dflt (refine' tab_item dbmT ?F ?X ?o ?h1 ?h2 ?x ?s ?_; (case F => k_asm); (case X => k_asm); (case o => k_is); (case h1 => walk_at "mine pre"); (case h2 => walk_at "mine pre"); (case x => walk_at "mine twelve"); (case s => with_unfolding_all rfl); k_whole); intro t9))
local macro_rules | `(tactic| walk_at "call ref") => `(tactic| (k_here; (with_reducible show wpAny _ _ (PySem.call (Value.ref 28) _) _ _ _); k_dflt (refine' c_leap ?k1 ?k2 ?k3 ?k4 ?k5 ?kK ?kd ?ku ?_; (case k1 => k_asm); (case k2 => k_asm); (case k3 => k_asm); (case k4 => k_asm); (case k5 => k_asm); (case kK => first | exact rfl | assumption); (case kd => ktr_room); (case ku => ktr_units); k_whole); intro t9 h9 tk9 F9 N9; (try dsimp only); (try k_fold)))
local macro_rules | `(tactic| walk_at "call ref") => `(tactic| (k_here; (with_reducible show wpAny _ _ (PySem.call (Value.ref 35) _) _ _ _); k_dflt (refine' c_dby ?k1 ?k2 ?k3 ?k4 ?k5 ?kK ?kd ?ku ?_; (case k1 => k_asm); (case k2 => k_asm); (case k3 => k_asm); (case k4 => k_asm); (case k5 => k_asm); (case kK => first | exact rfl | assumption); (case kd => ktr_room); (case ku => ktr_units); k_whole); intro t9 h9 tk9 F9 N9; (try dsimp only); (try k_fold)))
local macro_rules | `(tactic| walk_at "call ref") => `(tactic| (k_here; (with_reducible show wpAny _ _ (PySem.call (Value.ref 42) _) _ _ _); k_dflt (refine' c_dim ?k1 ?k2 ?k3 ?k4 ?k5 ?kK ?kd ?ku ?kp0 ?kp1 ?_; (case k1 => k_asm); (case k2 => k_asm); (case k3 => k_asm); (case k4 => k_asm); (case k5 => k_asm); (case kK => first | exact rfl | assumption); (case kd => ktr_room); (case ku => ktr_units); (case kp0 => walk_at "mine pre"); (case kp1 => walk_at "mine pre"); k_whole); intro t9 h9 tk9 F9 N9; (try dsimp only); (try k_fold)))
local macro_rules | `(tactic| walk_at "call ref") => `(tactic| (k_here; (with_reducible show wpAny _ _ (PySem.call (Value.ref 49) _) _ _ _); k_dflt (refine' c_dbm ?k1 ?k2 ?k3 ?k4 ?k5 ?kK ?kd ?ku ?kp0 ?kp1 ?_; (case k1 => k_asm); (case k2 => k_asm); (case k3 => k_asm); (case k4 => k_asm); (case k5 => k_asm); (case kK => first | exact rfl | assumption); (case kd => ktr_room); (case ku => ktr_units); (case kp0 => walk_at "mine pre"); (case kp1 => walk_at "mine pre"); k_whole); intro t9 h9 tk9 F9 N9; (try dsimp only); (try k_fold)))
local macro_rules | `(tactic| walk_at "call ref") => `(tactic| (k_here; (with_reducible show wpAny _ _ (PySem.call (Value.ref 56) _) _ _ _); k_dflt (refine' c_ord ?k1 ?k2 ?k3 ?k4 ?k5 ?kK ?kd ?ku ?kp0 ?kp1 ?kp2 ?kp3 ?_; (case k1 => k_asm); (case k2 => k_asm); (case k3 => k_asm); (case k4 => k_asm); (case k5 => k_asm); (case kK => first | exact rfl | assumption); (case kd => ktr_room); (case ku => ktr_units); (case kp0 => walk_at "mine pre"); (case kp1 => walk_at "mine pre"); (case kp2 => walk_at "mine pre"); (case kp3 => walk_at "mine pre"); k_whole); intro t9 h9 tk9 hv9 F9 N9; (try dsimp only); (try k_fold)))
theorem c_len {w : World} {s₀ : Shared} {mg mb : Str → Option Value} {dp un : Nat} {gd : Option (List Code)} {cn : Str} {cs : Scope} {a : Addr} {ccd : Value} {cl : List (Str × Addr)} {outer : List Env} {A₀ : Around} {base h₀ : Heap} {L : Addr} {m : Str → Option Value} {news : List (Addr × Obj)} {s : Shared} {Q E : Value → Shared → Prop} {y : Int} {ty : Tok} {mo : Int} {tmo : Tok}
    (kB : Below A₀ base outer h₀) (kF : Fr h₀ L s.heap m) (kK : (hd04.heap_39 w.params).In h₀) (kN : News h₀ L s.heap news) (kT : Top hd04.view_39 (looseW hd04.view_39 [Str.ofString "_DAYS_IN_MONTH", Str.ofString "_DAYS_BEFORE_MONTH", Str.ofString "_DI400Y", Str.ofString "_DI100Y", Str.ofString "_DI4Y"]) (ExcName.means s₀.heap) mg mb h₀) (kk : cs.kind = .function) (kd : dp + 1 < recursionLimit) (ku : un + 8 < cLine) (h1 : 1 ≤ mo) (h2 : mo ≤ 12)
    (ret : ∀ (t : Tok) (h' : Heap) (tk' : Nat), Fr h₀ L h' m → News h₀ L h' news → Q (.int (dim y mo) t) { s with heap := h', toks := tk' }) :
    wpAny (model Challenge.rw_dn0120_04.row.prog w) (ktrTop dp un gd cn cs L a ccd cl outer) (call (.ref 73) [Value.int y ty, Value.int mo tmo]) Q E s := by
  w_strict (
    revert kK
    k_fill
    intro kK
    refine wpAny_call ?_
    k_dflt cell_enter
    k_steps
    k_with "tree" => (with_reducible first | exact v_len1 (by assumption) (by assumption) (by assumption) | exact v_len2 (by assumption) (by assumption) (by assumption) | exact v_len3 (by assumption) (by assumption) (by assumption) | exact v_len5 (by assumption) (by assumption) (by assumption) | exact v_len4 (by assumption) (by assumption) (by assumption))
    all_goals cb_end ret)
local macro_rules | `(tactic| walk_at "call ref") => `(tactic| (k_here; (with_reducible show wpAny _ _ (PySem.call (Value.ref 73) _) _ _ _); k_dflt (refine' c_len ?k1 ?k2 ?k3 ?k4 ?k5 ?kK ?kd ?ku ?kp0 ?kp1 ?_; (case k1 => k_asm); (case k2 => k_asm); (case k3 => k_asm); (case k4 => k_asm); (case k5 => k_asm); (case kK => first | exact rfl | assumption); (case kd => ktr_room); (case ku => ktr_units); (case kp0 => walk_at "mine pre"); (case kp1 => walk_at "mine pre"); k_whole); intro t9 h9 tk9 F9 N9; (try dsimp only); (try k_fold)))
end
section
theorem cut04 {M : Model} {A : Around} {E Q : Value → Shared → Prop} {s : Shared} {h₀ : Heap} {L : Addr} {m : Str → Option Value} {news : List (Addr × Obj)} {cm : Sem Value} {x q r : Int} (_h : x = 4800 * q + r) (_F : Fr h₀ L s.heap m) (_N : News h₀ L s.heap news)
    (h1 : wpAny M A cm (fun v s' => CutP h₀ L m news s (fun d => 1 ≤ d ∧ d ≤ mlen r) v s') E s) (h2 : ∀ x t tk h', (1 ≤ x ∧ x ≤ mlen r) → Fr h₀ L h' m → News h₀ L h' news → Q (.int x t) { s with heap := h', toks := tk }) : wpAny M A cm Q E s := cut_pred (fun d => 1 ≤ d ∧ d ≤ mlen r) _F _N h1 h2
local macro_rules | `(tactic| walk_at "mine pre") => `(tactic| first | with_reducible assumption | omega | l_fact)
local macro_rules | `(tactic| walk_at "mine twelve") => `(tactic| (intro k h1 h2; rcases m12 h1 h2 with h | h | h | h | h | h | h | h | h | h | h | h <;> (subst h; exact ⟨_, rfl⟩)))
local macro_rules | `(tactic| walk_at "mine lt") => `(tactic| first | with_reducible assumption | exact (by with_reducible assumption : _ ∧ AllLt _ _).2 | exact (by with_reducible assumption : _ ∧ _ ∧ AllLt _ _).2.2 | exact (by with_reducible assumption : _ ∧ _ ∧ _ ∧ AllLt _ _).2.2.2 | exact (by with_reducible assumption : _ ∧ _ ∧ _ ∧ _ ∧ AllLt _ _).2.2.2.2)
local macro_rules | `(tactic| walk_at "eval Call") => `(tactic| (k_here; (with_reducible show wpAny _ _ (eval (PySem.Expr.Call (PySem.Expr.Name (Str.ofString "_is_leap") _) _ [] _) _) _ _ _); k_dflt (refine Call_ ?_)))
local macro_rules | `(tactic| walk_at "eval Call") => `(tactic| (k_here; (with_reducible show wpAny _ _ (eval (PySem.Expr.Call (PySem.Expr.Name (Str.ofString "_days_before_year") _) _ [] _) _) _ _ _); k_dflt (refine Call_ ?_)))
local macro_rules | `(tactic| walk_at "eval Call") => `(tactic| (k_here; (with_reducible show wpAny _ _ (eval (PySem.Expr.Call (PySem.Expr.Name (Str.ofString "_days_in_month") _) _ [] _) _) _ _ _); k_dflt (refine Call_ ?_)))
local macro_rules | `(tactic| walk_at "eval Call") => `(tactic| (k_here; (with_reducible show wpAny _ _ (eval (PySem.Expr.Call (PySem.Expr.Name (Str.ofString "_days_before_month") _) _ [] _) _) _ _ _); k_dflt (refine Call_ ?_)))
local macro_rules | `(tactic| walk_at "eval Call") => `(tactic| (k_here; (with_reducible show wpAny _ _ (eval (PySem.Expr.Call (PySem.Expr.Name (Str.ofString "_ymd2ord") _) _ [] _) _) _ _ _); k_dflt (refine Call_ ?_)))
local macro_rules | `(tactic| walk_at "eval Call") => `(tactic| (k_here; (with_reducible show wpAny _ _ (eval (PySem.Expr.Call (PySem.Expr.Name (Str.ofString "_ord2ymd") _) _ [] _) _) _ _ _); k_dflt (refine Call_ ?_)))
local macro_rules | `(tactic| walk_at "eval Call") => `(tactic| (k_here; (with_reducible show wpAny _ _ (eval (PySem.Expr.Call (PySem.Expr.Name (Str.ofString "_law_length") _) _ [] _) _) _ _ _); k_dflt (refine Call_ ?_)))
local macro_rules | `(tactic| walk_at "subscriptTail Name Name ref int") => `(tactic| (k_here; (with_reducible show wpAny _ _ (subscriptTail _ _ (Value.ref 15) (Value.int _ _)) _ _ _); k_dflt (refine' tab_item dimT ?F ?X ?o ?h1 ?h2 ?x ?s ?_; (case F => k_asm); (case X => k_asm); (case o => k_is); (case h1 => walk_at "mine pre"); (case h2 => walk_at "mine pre"); (case x => walk_at "mine twelve"); (case s => with_unfolding_all rfl); k_whole); intro t9))
local macro_rules | `(tactic| walk_at "subscriptTail Name Name ref int") => `(tactic| (k_here; (with_reducible show wpAny _ _ (subscriptTail _ _ (Value.ref 16) (Value.int _ _)) _ _ _); k_dflt (refine' tab_item dbmT ?F ?X ?o ?h1 ?h2 ?x ?s ?_; (case F => k_asm); (case X => k_asm); (case o => k_is); (case h1 => walk_at "mine pre"); (case h2 => walk_at "mine pre"); (case x => walk_at "mine twelve"); (case s => with_unfolding_all rfl); k_whole); intro t9))
local macro_rules | `(tactic| walk_at "call ref") => `(tactic| (k_here; (with_reducible show wpAny _ _ (PySem.call (Value.ref 28) _) _ _ _); k_dflt (refine' c_leap ?k1 ?k2 ?k3 ?k4 ?k5 ?kK ?kd ?ku ?_; (case k1 => k_asm); (case k2 => k_asm); (case k3 => k_asm); (case k4 => k_asm); (case k5 => k_asm); (case kK => first | exact rfl | assumption); (case kd => ktr_room); (case ku => ktr_units); k_whole); intro t9 h9 tk9 F9 N9; (try dsimp only); (try k_fold)))
local macro_rules | `(tactic| walk_at "call ref") => `(tactic| (k_here; (with_reducible show wpAny _ _ (PySem.call (Value.ref 35) _) _ _ _); k_dflt (refine' c_dby ?k1 ?k2 ?k3 ?k4 ?k5 ?kK ?kd ?ku ?_; (case k1 => k_asm); (case k2 => k_asm); (case k3 => k_asm); (case k4 => k_asm); (case k5 => k_asm); (case kK => first | exact rfl | assumption); (case kd => ktr_room); (case ku => ktr_units); k_whole); intro t9 h9 tk9 F9 N9; (try dsimp only); (try k_fold)))
local macro_rules | `(tactic| walk_at "call ref") => `(tactic| (k_here; (with_reducible show wpAny _ _ (PySem.call (Value.ref 42) _) _ _ _); k_dflt (refine' c_dim ?k1 ?k2 ?k3 ?k4 ?k5 ?kK ?kd ?ku ?kp0 ?kp1 ?_; (case k1 => k_asm); (case k2 => k_asm); (case k3 => k_asm); (case k4 => k_asm); (case k5 => k_asm); (case kK => first | exact rfl | assumption); (case kd => ktr_room); (case ku => ktr_units); (case kp0 => walk_at "mine pre"); (case kp1 => walk_at "mine pre"); k_whole); intro t9 h9 tk9 F9 N9; (try dsimp only); (try k_fold)))
local macro_rules | `(tactic| walk_at "call ref") => `(tactic| (k_here; (with_reducible show wpAny _ _ (PySem.call (Value.ref 49) _) _ _ _); k_dflt (refine' c_dbm ?k1 ?k2 ?k3 ?k4 ?k5 ?kK ?kd ?ku ?kp0 ?kp1 ?_; (case k1 => k_asm); (case k2 => k_asm); (case k3 => k_asm); (case k4 => k_asm); (case k5 => k_asm); (case kK => first | exact rfl | assumption); (case kd => ktr_room); (case ku => ktr_units); (case kp0 => walk_at "mine pre"); (case kp1 => walk_at "mine pre"); k_whole); intro t9 h9 tk9 F9 N9; (try dsimp only); (try k_fold)))
local macro_rules | `(tactic| walk_at "call ref") => `(tactic| (k_here; (with_reducible show wpAny _ _ (PySem.call (Value.ref 56) _) _ _ _); k_dflt (refine' c_ord ?k1 ?k2 ?k3 ?k4 ?k5 ?kK ?kd ?ku ?kp0 ?kp1 ?kp2 ?kp3 ?_; (case k1 => k_asm); (case k2 => k_asm); (case k3 => k_asm); (case k4 => k_asm); (case k5 => k_asm); (case kK => first | exact rfl | assumption); (case kd => ktr_room); (case ku => ktr_units); (case kp0 => walk_at "mine pre"); (case kp1 => walk_at "mine pre"); (case kp2 => walk_at "mine pre"); (case kp3 => walk_at "mine pre"); k_whole); intro t9 h9 tk9 hv9 F9 N9; (try dsimp only); (try k_fold)))
local macro_rules | `(tactic| walk_at "call ref") => `(tactic| (k_here; (with_reducible show wpAny _ _ (PySem.call (Value.ref 73) _) _ _ _); k_dflt (refine' c_len ?k1 ?k2 ?k3 ?k4 ?k5 ?kK ?kd ?ku ?kp0 ?kp1 ?_; (case k1 => k_asm); (case k2 => k_asm); (case k3 => k_asm); (case k4 => k_asm); (case k5 => k_asm); (case kK => first | exact rfl | assumption); (case kd => ktr_room); (case ku => ktr_units); (case kp0 => walk_at "mine pre"); (case kp1 => walk_at "mine pre"); k_whole); intro t9 h9 tk9 F9 N9; (try dsimp only); (try k_fold)))
local macro_rules | `(tactic| walk_at "eval ListComp") => `(tactic| (k_here; (with_reducible show wpAny _ _ (eval (PySem.Expr.ListComp (PySem.Expr.Name _ _) [⟨PySem.Expr.Name _ _, _, [PySem.Expr.BoolOp BoolOp.Or _ _], _⟩] _ _) _) _ _ _); k_dflt (refine comp_no (F₀ := by k_asm) (by rfl) (by with_unfolding_all rfl) (by decide) (by rfl) (by decide) (by rfl) ?_ ?_)))
local macro_rules | `(tactic| walk_at "TestNo") => `(tactic| (unfold TestNo; intro n' t' I' oI' C' oC' D' oD' m' h' tk' E' s' nw' hC' hx' F' N'; (try k_fold)))
local macro_rules | `(tactic| walk_at "NoOk") => `(tactic| exact ⟨by first | rfl | decide, _, rfl⟩)
local macro_rules | `(tactic| walk_at "mine ints") => `(tactic| (refine all_ints ?_; (try dsimp only); repeat' (first | exact ints_nil | refine ints_cons ?_ | exact ints_are (by with_reducible assumption))))
local macro_rules | `(tactic| walk_at "SrcNo") => `(tactic| (k_here; k_dflt (refine' SrcNo.intro ?F ?N ?m ?t ?z ?i ?_; (case F => k_asm); (case N => k_asm); (case m => k_mem); (case t => decide); (case z => first | exact Nat.le_of_ble_eq_true rfl | size_fits); (case i => walk_at "mine ints")); intro D' h' tk' F' N' o1'; (try simp only [LCg.Off1, and_true] at o1'); (try dsimp only); (try k_sweep)))
local macro_rules | `(tactic| walk_at "subscriptTail List") => `(tactic| (k_here; (with_reducible show wpAny _ _ (subscriptTail _ (PySem.Expr.Slice _ none none _) (Value.ref _) (Value.ref _)) _ _ _); k_dflt (refine kba_turn (value' := PySem.Expr.Name (PySem.Str.ofString "_") ⟨0, 0, 0, 0⟩) (fun _ => rfl) ?_); k_dflt (refine' kmk_slice_ints ?F ?N ?l ?p ?q ?i ?m ?c ?_ ?s ?t ?z; (case F => k_asm); (case N => k_asm); (case l => kmk_list); (case p => kmk_part); (case q => kmk_part); (case i => l_ints); (case m => exact kmk_from (by l_ints) (by first | exact Int.natCast_nonneg _ | omega)); (case c => exact rfl); (case s => with_unfolding_all rfl); (case t => kmk_pure); (case z => exact Nat.le_of_ble_eq_true rfl)); intro D' ws' h' F' N' l1 hI' hC' hL'; clear hC' hL'; (try k_lt l1); (try k_sweep)))
local macro_rules | `(tactic| walk_at "assign Tuple cons ref") => `(tactic| (k_here; (with_reducible rename IntsAre _ (List.take 2 _ ++ _) => hI9); obtain ⟨a9, b9, u9, v9, hw9⟩ := pad2 hI9; clear hI9; subst hw9))
local macro_rules | `(tactic| walk_at "assign Tuple cons ref") => `(tactic| (k_here; (with_reducible rename IntsAre _ (List.take 4 _ ++ _) => hI9); obtain ⟨a9, b9, c9, d9, u9, v9, x9, y9, hw9⟩ := pad4 hI9; clear hI9; subst hw9))
local macro_rules | `(tactic| walk_at "mine bool end") => `(tactic| (kc_bool; (fail_if_success (with_reducible show GoodW _ _ _ _ _ (Except.ok (Flow.ret (Value.bool true))) _)); refine goodW_rw ?mb ?_; (case mb => walk_at "mine end")))
local macro_rules | `(tactic| walk_at "call builtin:divmod") => `(tactic| (k_here; (with_reducible show wpAny _ _ (PySem.call _ [Value.int _ _, Value.int 4800 _]) _ _ _); k_dflt (refine' divmod_gen ?F ?N ?b ?c ?_; (case F => k_asm); (case N => k_asm); (case b => decide); (case c => decide); k_whole); intro q' r' D' h' t1' t2' tk' dvE dvL dvU F' N' l1; (try simp only [AllLt] at l1); (try k_sweep); obtain ⟨hf1, hf2, hf3, hf4, hf5, hf6, hf7⟩ := l04_facts dvE dvL dvU))
local macro_rules | `(tactic| walk_at "eval IfExp") => `(tactic| (k_here; (with_reducible show wpAny _ _ (eval (PySem.Expr.IfExp (PySem.Expr.Compare (PySem.Expr.Name (Str.ofString "script") _) _ _ _) _ _ _) _) _ _ _); (fail_if_success (with_reducible show wpAny _ _ _ (fun v s' => CutP _ _ _ _ _ _ v s') _ _)); refine' cut_pred (fun _ => True) ?F ?N ?_ ?_; (case F => k_asm); (case N => k_asm); rotate_left; (intro x9 t9 tk' h' hp' F' N'; (try dsimp only at hp'); (try dsimp only); (try k_sweep)); rotate_left))
local macro_rules | `(tactic| walk_at "eval IfExp") => `(tactic| (k_here; (with_reducible show wpAny _ _ (eval (PySem.Expr.IfExp (PySem.Expr.Compare (PySem.Expr.Call _ _ _ _) _ _ _) _ _ _) _) _ _ _); (fail_if_success (with_reducible show wpAny _ _ _ (fun v s' => CutP _ _ _ _ _ _ v s') _ _)); refine' cut04 (by with_reducible assumption) ?F ?N ?_ ?_; (case F => k_asm); (case N => k_asm); rotate_left; (intro x9 t9 tk' h' hp' F' N'; (try dsimp only at hp'); (try dsimp only); (try k_sweep)); rotate_left))
local macro_rules | `(tactic| walk_at "mine news") => `(tactic| first | k_asm | exact (fun p hp => nomatch hp) | (refine cb_drop ?_ ?_; (· assumption); (· kcj_all)))
local macro_rules | `(tactic| walk_at "CutP") => `(tactic| (refine CutP.intro (by k_asm) (by walk_at "mine news") ?_; first | exact trivial | ((try dsimp only); constructor <;> omega)))
local macro_rules | `(tactic| walk_at "mine idx") => `(tactic| first | omega | exact ne_nil_len (by with_reducible assumption))
local macro_rules | `(tactic| walk_at "subscriptTail Name Constant ref int") => `(tactic| (k_here; (with_reducible show wpAny _ _ (subscriptTail (PySem.Expr.Name (Str.ofString "script") _) _ (Value.ref _) (Value.int _ _)) _ _ _); k_dflt (refine' script_item ?l ?i ?a ?z ?k ?s ?_; (case l => is_list); (case i => l_ints); (case a => decide); (case z => decide); (case k => walk_at "mine idx"); (case s => with_unfolding_all rfl); k_whole); intro x9 t9))
local macro_rules | `(tactic| walk_at "subscriptTail Name Name ref int") => `(tactic| (k_here; (with_reducible show wpAny _ _ (subscriptTail (PySem.Expr.Name (Str.ofString "lengths") _) _ (Value.ref _) (Value.int _ _)) _ _ _); k_dflt (refine' map_item (f := mlen) ?l ?i ?a ?z ?k ?s ?_; (case l => is_list); (case i => assumption); (case a => omega); (case z => omega); (case k => omega); (case s => with_unfolding_all rfl); k_whole); intro t9))
local macro_rules | `(tactic| walk_at "binaryOp Mod int int") => `(tactic| (k_here; (with_reducible show wpAny _ _ (binaryOp _ (Value.int _ _) (Value.int (mlen _) _)) _ _ _); refine mod_pos (by omega) ?_; intro r9 t9 hr2 hr3))
local macro_rules | `(tactic| walk_at "call builtin:sum") => `(tactic| (k_here; (with_reducible show wpAny _ _ (PySem.call (Value.builtin "sum") [Value.ref _]) _ _ _); k_dflt (refine' sum_to ?F ?N ?h ?l ?i ?e ?_; (case F => k_asm); (case N => k_asm); (case h => rfl); (case l => is_list); (case i => l_ints); (case e => first | exact sumA (by assumption) | exact sumB (by assumption)); k_whole); intro h' tk' t' F' N'; (try k_sweep)))
local macro_rules | `(tactic| walk_at "mine end") => `(tactic| fail "no end")
local macro_rules | `(tactic| walk_at "call ref") => `(tactic| (k_here; (with_reducible show wpAny _ _ (PySem.call (Value.ref 66) _) _ _ _); k_dflt (refine' c_o2y ?k1 ?k2 ?k3 ?k4 ?k5 ?kK ?kd ?ku ?_; (case k1 => k_asm); (case k2 => k_asm); (case k3 => k_asm); (case k4 => k_asm); (case k5 => k_asm); (case kK => first | exact rfl | assumption); (case kd => ktr_room); (case ku => ktr_units); k_whole); (with_reducible rename Valid _ _ _ => hv8); intro D9 yy9 mm9 dd9 t7 t8 t9 h9 tk9 hV9 hO9 F9 N9 l9; k_dflt (obtain ⟨e7, e8, e9⟩ := l04_told hV9 hO9 hv8 (by omega); subst e7; subst e8; subst e9); (try simp only [AllLt, and_true] at l9); (try dsimp only); (try k_fold)))
theorem t04 : PySem.Challenge.rw_dn0120_04.Holds := hd04 (by w_strict (k_go0; (all_goals try k_fold); (repeat' (first | (k_unfold; (try dsimp only)) | (walk_at "mine bool end") | (k_end; kc_close) | walk1 | (dsimp only; walk1) | (leave1; (try dsimp only)) | fail "no step"))))
end
end Mine
theorem PySem.Challenge.cw_dn0120_04_holds : PySem.Challenge.rw_dn0120_04.Holds := by
  exact Mine.t04
