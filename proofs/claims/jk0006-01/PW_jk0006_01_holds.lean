import PyProof.Rows.All
import PyProof.LongRange
import Wide.All
import OpenK.AllK
import Wide.FinOn
import PySem.Challenge.RW_jk0006_01
open PySem PySem.W PyProof.Rows
set_option Elab.async false
set_option maxRecDepth 100000
set_option linter.all false
namespace Mine

def truncL (a b : Int) : Int := if a < 0 then -((-a) / b) else a / b
def leapB (y : Int) : Bool := decide (y % 4 = 0) && (decide (y % 100 ≠ 0) || decide (y % 400 = 0))
def li (y : Int) : Int := if leapB y then 1 else 0
def firstN (y : Int) : Int := 1721426 + 365 * (y - 1) + (y - 1) / 4 - (y - 1) / 100 + (y - 1) / 400
def lawFirst (y : Int) : Int := 2451545 + 146097 * ((y - 2000) / 400) + 365 * ((y - 2000) % 400) + ((y - 2000) % 400 + 3) / 4 - (max 0 ((y - 2000) % 400 - 1)) / 100
def dim (y m : Int) : Int := if m = 2 then 28 + li y else if m = 4 ∨ m = 6 ∨ m = 9 ∨ m = 11 then 30 else 31
def cum (y m : Int) : Int := (367 * m - 362) / 12 + (if m ≤ 2 then 0 else li y - 2)
def num (y m d : Int) : Int := firstN y + cum y m + d - 1

def yr (n : Int) : Int :=
  (n - 1721426) / 146097 * 400 + (n - 1721426) % 146097 / 36524 * 100 + (n - 1721426) % 146097 % 36524 / 1461 * 4 + (n - 1721426) % 146097 % 36524 % 1461 / 365
    + (if (n - 1721426) % 146097 / 36524 = 4 ∨ (n - 1721426) % 146097 % 36524 % 1461 / 365 = 4 then 0 else 1)
def yd (n : Int) : Int := n - num (yr n) 1 1
def mo (n : Int) : Int := ((yd n + (if yd n < 58 + li (yr n) then 0 else if leapB (yr n) then 1 else 2)) * 12 + 373) / 367
def dy (n : Int) : Int := n - num (yr n) (mo n) 1 + 1

theorem li_cases (y : Int) : (li y = 1 ∧ leapB y = true ∧ y % 4 = 0 ∧ (y % 100 ≠ 0 ∨ y % 400 = 0)) ∨ (li y = 0 ∧ leapB y = false ∧ (y % 4 ≠ 0 ∨ (y % 100 = 0 ∧ y % 400 ≠ 0))) := by
  unfold li leapB
  by_cases h1 : y % 4 = 0 <;> by_cases h2 : y % 100 = 0 <;> by_cases h3 : y % 400 = 0 <;> simp [h1, h2, h3]
theorem li_01 (y : Int) : 0 ≤ li y ∧ li y ≤ 1 := by rcases li_cases y with h | h <;> (first | lia | omega)
theorem first_succ (y : Int) : firstN (y + 1) = firstN y + 365 + li y := by
  unfold firstN
  rcases li_cases y with h | h <;> (first | lia | omega)
theorem lawFirst_eq (y : Int) : lawFirst y = firstN y := by
  unfold lawFirst firstN
  obtain ⟨q, r, hy, h0, h1⟩ : ∃ q r : Int, y = 400 * q + r + 2000 ∧ 0 ≤ r ∧ r < 400 := ⟨(y - 2000) / 400, (y - 2000) % 400, by (first | lia | omega), by (first | lia | omega), by (first | lia | omega)⟩
  have e1 : (y - 2000) / 400 = q := by (first | lia | omega)
  have e2 : (y - 2000) % 400 = r := by (first | lia | omega)
  rw [e1, e2]
  subst hy
  clear e1 e2
  by_cases hr : r = 0
  · subst hr; (first | lia | omega)
  · rw [show max 0 (r - 1) = r - 1 by (first | lia | omega)]
    (first | lia | omega)
theorem first_mono {a b : Int} (h : a ≤ b) : firstN a + 365 * (b - a) ≤ firstN b := by
  unfold firstN; (first | lia | omega)
theorem first_lt {a b : Int} (h : firstN a < firstN b) : a < b := by
  by_cases q : a < b
  · exact q
  · have := first_mono (a := b) (b := a) (by (first | lia | omega)); (first | lia | omega)
theorem yr_spec (n : Int) : firstN (yr n) ≤ n ∧ n < firstN (yr n + 1) := by
  unfold yr
  obtain ⟨q, r, e1, e2, hn, h0, h1⟩ : ∃ q r : Int, (n - 1721426) / 146097 = q ∧ (n - 1721426) % 146097 = r ∧ n = 146097 * q + r + 1721426 ∧ 0 ≤ r ∧ r < 146097 := ⟨_, _, rfl, rfl, by (first | lia | omega), by (first | lia | omega), by (first | lia | omega)⟩
  rw [e1, e2]
  clear e1 e2
  obtain ⟨c, r2, e1, e2, hr, h2, h3, h4, h5⟩ : ∃ c r2 : Int, r / 36524 = c ∧ r % 36524 = r2 ∧ r = 36524 * c + r2 ∧ 0 ≤ r2 ∧ r2 < 36524 ∧ 0 ≤ c ∧ c ≤ 4 := ⟨_, _, rfl, rfl, by (first | lia | omega), by (first | lia | omega), by (first | lia | omega), by (first | lia | omega), by (first | lia | omega)⟩
  rw [e1, e2]
  clear e1 e2
  obtain ⟨d, r3, e1, e2, hr2, h6, h7, h8, h9⟩ : ∃ d r3 : Int, r2 / 1461 = d ∧ r2 % 1461 = r3 ∧ r2 = 1461 * d + r3 ∧ 0 ≤ r3 ∧ r3 < 1461 ∧ 0 ≤ d ∧ d ≤ 24 := ⟨_, _, rfl, rfl, by (first | lia | omega), by (first | lia | omega), by (first | lia | omega), by (first | lia | omega), by (first | lia | omega)⟩
  rw [e1, e2]
  clear e1 e2
  obtain ⟨y, r4, e1, hr3, h10, h11, h12, h13⟩ : ∃ y r4 : Int, r3 / 365 = y ∧ r3 = 365 * y + r4 ∧ 0 ≤ r4 ∧ r4 < 365 ∧ 0 ≤ y ∧ y ≤ 4 := ⟨_, r3 % 365, rfl, by (first | lia | omega), by (first | lia | omega), by (first | lia | omega), by (first | lia | omega), by (first | lia | omega)⟩
  rw [e1]
  clear e1
  -- a year 400 q + 100 c + 4 d + y + 1
  have core : ∀ c d y : Int, 0 ≤ c → c ≤ 3 → 0 ≤ d → d ≤ 24 → 0 ≤ y → y ≤ 3 → firstN (q * 400 + c * 100 + d * 4 + y + 1) = 1721426 + 146097 * q + 36524 * c + 1461 * d + 365 * y := by
    intro c d y g1 g2 g3 g4 g5 g6
    unfold firstN
    have a1 : (q * 400 + c * 100 + d * 4 + y + 1 - 1) / 4 = 100 * q + 25 * c + d := by (first | lia | omega)
    have a2 : (q * 400 + c * 100 + d * 4 + y + 1 - 1) / 100 = 4 * q + c := by (first | lia | omega)
    have a3 : (q * 400 + c * 100 + d * 4 + y + 1 - 1) / 400 = q := by (first | lia | omega)
    rw [a1, a2, a3]; (first | lia | omega)
  by_cases hc : c = 4
  · subst hc
    have hd : d = 0 := by (first | lia | omega)
    subst hd
    have hy : y = 0 := by (first | lia | omega)
    subst hy
    rw [if_pos (Or.inl rfl)]
    have k := core 3 24 3 (by (first | lia | omega)) (by (first | lia | omega)) (by (first | lia | omega)) (by (first | lia | omega)) (by (first | lia | omega)) (by (first | lia | omega))
    rw [show q * 400 + 4 * 100 + 0 * 4 + 0 + 0 = q * 400 + 3 * 100 + 24 * 4 + 3 + 1 by (first | lia | omega)]
    generalize hY : q * 400 + 3 * 100 + 24 * 4 + 3 + 1 = Y at k ⊢
    rw [first_succ Y, k]
    have := li_cases Y
    (first | lia | omega)
  · by_cases hy : y = 4
    · subst hy
      rw [if_pos (Or.inr rfl)]
      have k := core c d 3 (by (first | lia | omega)) (by (first | lia | omega)) (by (first | lia | omega)) (by (first | lia | omega)) (by (first | lia | omega)) (by (first | lia | omega))
      rw [show q * 400 + c * 100 + d * 4 + 4 + 0 = q * 400 + c * 100 + d * 4 + 3 + 1 by (first | lia | omega)]
      generalize hY : q * 400 + c * 100 + d * 4 + 3 + 1 = Y at k ⊢
      rw [first_succ Y, k]
      have := li_cases Y
      (first | lia | omega)
    · rw [if_neg (by (first | lia | omega))]
      have k := core c d y (by (first | lia | omega)) (by (first | lia | omega)) (by (first | lia | omega)) (by (first | lia | omega)) (by (first | lia | omega)) (by (first | lia | omega))
      generalize hY : q * 400 + c * 100 + d * 4 + y + 1 = Y at k ⊢
      rw [first_succ Y, k]
      have := li_cases Y
      (first | lia | omega)
theorem yr_unique {n y : Int} (h0 : firstN y ≤ n) (h1 : n < firstN (y + 1)) : yr n = y := by
  have h := yr_spec n
  have a := first_lt (a := yr n) (b := y + 1) (by (first | lia | omega))
  have b := first_lt (a := y) (b := yr n + 1) (by (first | lia | omega))
  (first | lia | omega)
theorem cum_1 (y : Int) : cum y 1 = 0 := by unfold cum; simp
theorem num_first (y : Int) : num y 1 1 = firstN y := by unfold num; rw [cum_1]; (first | lia | omega)
theorem lawFirst_num (y : Int) : lawFirst y = num y 1 1 := by rw [num_first, lawFirst_eq]
theorem yd_spec (n : Int) : 0 ≤ yd n ∧ yd n ≤ 364 + li (yr n) := by
  have h := yr_spec n
  rw [first_succ] at h
  unfold yd
  rw [num_first]
  (first | lia | omega)
theorem cum_cases (y m : Int) (h1 : 1 ≤ m) (h2 : m ≤ 12) : (m = 1 ∧ cum y m = 0 ∧ dim y m = 31) ∨ (m = 2 ∧ cum y m = 31 ∧ dim y m = 28 + li y) ∨ (m = 3 ∧ cum y m = 59 + li y ∧ dim y m = 31) ∨ (m = 4 ∧ cum y m = 90 + li y ∧ dim y m = 30)
    ∨ (m = 5 ∧ cum y m = 120 + li y ∧ dim y m = 31) ∨ (m = 6 ∧ cum y m = 151 + li y ∧ dim y m = 30) ∨ (m = 7 ∧ cum y m = 181 + li y ∧ dim y m = 31) ∨ (m = 8 ∧ cum y m = 212 + li y ∧ dim y m = 31)
    ∨ (m = 9 ∧ cum y m = 243 + li y ∧ dim y m = 30) ∨ (m = 10 ∧ cum y m = 273 + li y ∧ dim y m = 31) ∨ (m = 11 ∧ cum y m = 304 + li y ∧ dim y m = 30) ∨ (m = 12 ∧ cum y m = 334 + li y ∧ dim y m = 31) := by
  have hm : m = 1 ∨ m = 2 ∨ m = 3 ∨ m = 4 ∨ m = 5 ∨ m = 6 ∨ m = 7 ∨ m = 8 ∨ m = 9 ∨ m = 10 ∨ m = 11 ∨ m = 12 := by (first | lia | omega)
  rcases hm with h | h | h | h | h | h | h | h | h | h | h | h <;> subst h <;> simp [cum, dim] <;> (first | lia | omega)
theorem mo_range (n : Int) : 1 ≤ mo n ∧ mo n ≤ 12 := by
  have h := yd_spec n
  unfold mo
  rcases li_cases (yr n) with g | g
  · rw [g.2.1, g.1]; rw [g.1] at h; simp only [if_true]; split <;> (first | lia | omega)
  · rw [g.2.1, g.1]; rw [g.1] at h; simp only [Bool.false_eq_true, if_false]; split <;> (first | lia | omega)
def adjC (l t : Int) : Int := if t < 58 + l then 0 else if l = 1 then 1 else 2
def moC (l t : Int) : Int := ((t + adjC l t) * 12 + 373) / 367
def cumC (l m : Int) : Int := (367 * m - 362) / 12 + (if m ≤ 2 then 0 else l - 2)
def dimC (l m : Int) : Int := if m = 2 then 28 + l else if m = 4 ∨ m = 6 ∨ m = 9 ∨ m = 11 then 30 else 31
def dayC (l t : Int) : Bool := decide (1 ≤ t - cumC l (moC l t) + 1) && decide (t - cumC l (moC l t) + 1 ≤ dimC l (moC l t))
theorem day_all : ((List.range 365).all fun t => dayC 0 (t : Int)) = true ∧ ((List.range 366).all fun t => dayC 1 (t : Int)) = true := by decide +kernel
theorem day_ok {l t : Int} (hl : l = 0 ∨ l = 1) (h0 : 0 ≤ t) (h1 : t ≤ 364 + l) : 1 ≤ t - cumC l (moC l t) + 1 ∧ t - cumC l (moC l t) + 1 ≤ dimC l (moC l t) := by
  have e : ((t.toNat : Nat) : Int) = t := Int.toNat_of_nonneg h0
  have k : dayC l t = true := by
    rcases hl with rfl | rfl
    · have := List.all_eq_true.mp day_all.1 t.toNat (List.mem_range.mpr (by (first | lia | omega)))
      rw [e] at this; exact this
    · have := List.all_eq_true.mp day_all.2 t.toNat (List.mem_range.mpr (by (first | lia | omega)))
      rw [e] at this; exact this
  unfold dayC at k
  rw [Bool.and_eq_true, decide_eq_true_eq, decide_eq_true_eq] at k
  exact k
theorem dy_spec (n : Int) : 1 ≤ dy n ∧ dy n ≤ dim (yr n) (mo n) := by
  have h := yd_spec n
  have hd : dy n = yd n - cum (yr n) (mo n) + 1 := by unfold dy yd; rw [num_first]; unfold num; (first | lia | omega)
  have hm : mo n = moC (li (yr n)) (yd n) := by
    unfold mo moC adjC li
    cases leapB (yr n) <;> rfl
  rw [hd, hm]
  exact day_ok (by have := li_01 (yr n); (first | lia | omega)) h.1 h.2
theorem date_num (n : Int) : num (yr n) (mo n) (dy n) = n := by unfold dy num; (first | lia | omega)
theorem cum_mono {y a b : Int} (h : a ≤ b) : cum y a ≤ cum y b := by
  have := li_01 y
  unfold cum
  split <;> split <;> (first | lia | omega)
theorem cum_step {y m : Int} (h1 : 1 ≤ m) (h2 : m ≤ 11) : cum y m + dim y m = cum y (m + 1) := by
  have hm : m = 1 ∨ m = 2 ∨ m = 3 ∨ m = 4 ∨ m = 5 ∨ m = 6 ∨ m = 7 ∨ m = 8 ∨ m = 9 ∨ m = 10 ∨ m = 11 := by (first | lia | omega)
  rcases hm with h | h | h | h | h | h | h | h | h | h | h <;> subst h <;> simp [cum, dim] <;> (first | lia | omega)
theorem date_unique {n y m d : Int} (h1 : 1 ≤ m) (h2 : m ≤ 12) (h3 : 1 ≤ d) (h4 : d ≤ dim y m) (hn : num y m d = n) : yr n = y ∧ mo n = m ∧ dy n = d := by
  have hl := li_01 y
  have hy : yr n = y := by
    have hc := cum_mono (y := y) h2
    have hc1 := cum_mono (y := y) h1
    rw [cum_1] at hc1
    have h12 : cum y 12 = 334 + li y := by simp [cum]; (first | lia | omega)
    have hd : cum y m + dim y m ≤ 365 + li y := by
      by_cases hm : m ≤ 11
      · have a := cum_step (y := y) h1 hm
        have b := cum_mono (y := y) (show m + 1 ≤ 12 by (first | lia | omega))
        (first | lia | omega)
      · have : m = 12 := by (first | lia | omega)
        subst this
        rw [h12]; simp [dim]; (first | lia | omega)
    refine yr_unique ?_ ?_
    · unfold num at hn; (first | lia | omega)
    · rw [first_succ]; unfold num at hn; (first | lia | omega)
  have hm' := mo_range n
  have hd' := dy_spec n
  have hn' := date_num n
  rw [hy] at hd' hn'
  unfold num at hn hn'
  refine ⟨hy, ?_⟩
  rcases Int.lt_trichotomy (mo n) m with g | g | g
  · have a := cum_step (y := y) hm'.1 (by (first | lia | omega))
    have b := cum_mono (y := y) (show mo n + 1 ≤ m by (first | lia | omega))
    (first | lia | omega)
  · rw [g] at hn'
    exact ⟨g, by (first | lia | omega)⟩
  · have a := cum_step (y := y) h1 (by (first | lia | omega))
    have b := cum_mono (y := y) (show m + 1 ≤ mo n by (first | lia | omega))
    (first | lia | omega)
end Mine
namespace Mine
def sun (x : Int) : Int := x + 1 + (5 - x) % 7
def lawEpact (y : Int) : Int := (11 * (y % 19 + 1) + 20 + (8 * (y / 100 + 1) + 5) / 25 - 5 - (3 * (y / 100 + 1) / 4 - 12)) % 30
def lawFull (y : Int) : Int :=
  (if (if lawEpact y = 24 ∨ (lawEpact y = 25 ∧ y % 19 > 10) then lawEpact y + 1 else lawEpact y) < 24
    then 44 - (if lawEpact y = 24 ∨ (lawEpact y = 25 ∧ y % 19 > 10) then lawEpact y + 1 else lawEpact y)
    else 74 - (if lawEpact y = 24 ∨ (lawEpact y = 25 ∧ y % 19 > 10) then lawEpact y + 1 else lawEpact y))
def lawWestern (y : Int) : Int := sun (lawFirst (y + 1) - 307 + lawFull y)
def lawOld (y later : Int) : Int := sun (1461 * ((y + 4712) / 4) + 365 * ((y + 4712) % 4) + 80 + 15 + later)
def wk1 (y : Int) : Int := if firstN y % 7 > 3 then firstN y - firstN y % 7 + 7 else firstN y - firstN y % 7
end Mine
namespace Mine
theorem dim_ge (y m : Int) : 28 ≤ dim y m := by
  have := li_01 y
  unfold dim
  split
  · (first | lia | omega)
  · split <;> (first | lia | omega)
def jdJ (y m d : Int) : Int := 1461 * (y + 4716) / 4 + 306001 * (m + 1) / 10000 + d - 1524
def eJ (y z : Int) : Int := (2 * (y % 4) + 4 * (y % 7) - (15 + z) + 6) % 7
def mJ (y z : Int) : Int := (129 + z + eJ y z) / 31
def dJ (y z : Int) : Int := (129 + z + eJ y z) % 31 + 1
def jdE (y z : Int) : Int := jdJ y (mJ y z) (dJ y z)
def isoJ (y k d : Int) : Int := d + (7 * k + (num (y - 1) 12 28 - 1 - (num (y - 1) 12 28 - 1 - 6) % 7))
end Mine
namespace Mine
theorem from_p93 (j Y adj : Int) (hY : Y = yr j) (ha : adj = 0 ∨ adj = 1 ∨ (adj = 2 ∧ leapB Y = false)) :
    1 ≤ ((j - num Y 1 1 + adj) * 12 + 373) / 367 ∧ ((j - num Y 1 1 + adj) * 12 + 373) / 367 ≤ 12 := by
  subst hY
  have h := yd_spec j
  have g := li_cases (yr j)
  unfold yd at h
  generalize j - num (yr j) 1 1 = t at *
  rcases ha with rfl | rfl | ⟨rfl, hl⟩
  · (first | lia | omega)
  · (first | lia | omega)
  · rw [hl] at g
    simp only [Bool.false_eq_true, false_and, and_false, false_or, true_and] at g
    (first | lia | omega)
theorem from_end (j Y adj : Int) (hY : Y = yr j) (ha : adj = if j - num Y 1 1 < 58 + li Y then 0 else if leapB Y = true then 1 else 2) :
    Y = yr j ∧ ((j - num Y 1 1 + adj) * 12 + 373) / 367 = mo j ∧ j - num Y (((j - num Y 1 1 + adj) * 12 + 373) / 367) 1 + 1 = dy j := by
  subst hY
  subst ha
  exact ⟨rfl, rfl, rfl⟩
end Mine
namespace Mine
theorem east_end (y z m d : Int) (hm : m = mJ y z) (hd : d = dJ y z) : yr (jdJ y m d) = yr (jdE y z) ∧ mo (jdJ y m d) = mo (jdE y z) ∧ dy (jdJ y m d) = dy (jdE y z) := by
  subst hm; subst hd; exact ⟨rfl, rfl, rfl⟩
/-- the western reckoning's day of March, and what it reads -/
def wC (y : Int) : Int := truncL y 100
def wN (y : Int) : Int := y - 19 * truncL y 19
def wK (y : Int) : Int := truncL (wC y - 17) 25
def wI0 (y : Int) : Int := wC y - truncL (wC y) 4 - truncL (wC y - wK y) 3 + 19 * wN y + 15
def wI1 (y : Int) : Int := wI0 y - 30 * truncL (wI0 y) 30
def wI (y : Int) : Int := wI1 y - truncL (wI1 y) 28 * (1 - truncL (wI1 y) 28 * truncL 29 (wI1 y + 1) * truncL (21 - wN y) 11)
def wJ0 (y : Int) : Int := y + truncL y 4 + wI y + 2 - wC y + truncL (wC y) 4
def wJ (y : Int) : Int := wJ0 y - 7 * truncL (wJ0 y) 7
def wM (y : Int) : Int := 3 + truncL (wI y - wJ y + 40) 44
def wD (y : Int) : Int := wI y - wJ y + 28 - 31 * truncL (wM y) 4
end Mine
namespace Mine
theorem meas1 {n y : Int} (h : lawFirst y > n) : (y - 1 - yr n).toNat < (y - yr n).toNat := by
  rw [lawFirst_eq] at h
  have := first_lt (a := yr n) (b := y) (by have := yr_spec n; (first | lia | omega))
  (first | lia | omega)
theorem meas2 {n y : Int} (h : lawFirst (y + 1) ≤ n) : (yr n - (y + 1)).toNat < (yr n - y).toNat := by
  rw [lawFirst_eq] at h
  have := first_lt (a := y + 1) (b := yr n + 1) (by have := yr_spec n; (first | lia | omega))
  (first | lia | omega)
end Mine
namespace Mine
abbrev lens (y : Int) : List Int := [31, lawFirst (y + 1) - lawFirst y - 337, 31, 30, 31, 30, 31, 31, 30, 31, 30, 31]
theorem lens_eq {y m : Int} (h1 : 1 ≤ m) (h2 : m ≤ 12) : (lens y).getD (m - 1).toNat 0 = dim y m := by
  have hf := first_succ y
  rw [← lawFirst_eq, ← lawFirst_eq] at hf
  rcases cum_cases y m h1 h2 with h | h | h | h | h | h | h | h | h | h | h | h <;> rw [h.2.2, h.1] <;> simp <;> (first | lia | omega)
theorem st0 {n y : Int} (h : lawFirst y ≤ n) : 1 ≤ (1 : Int) ∧ (1 : Int) ≤ 12 ∧ 1 ≤ n - lawFirst y + 1 ∧ n - lawFirst y + 1 + cum y 1 = n - firstN y + 1 := by
  rw [cum_1, lawFirst_eq] at *; (first | lia | omega)
theorem st1 {n y m d : Int} (hP : 1 ≤ m ∧ m ≤ 12 ∧ 1 ≤ d ∧ d + cum y m = n - firstN y + 1) (hy : ¬ lawFirst (y + 1) ≤ n) (h : d > (lens y).getD (m - 1).toNat 0) :
    1 ≤ m + 1 ∧ m + 1 ≤ 12 ∧ 1 ≤ d - (lens y).getD (m - 1).toNat 0 ∧ d - (lens y).getD (m - 1).toNat 0 + cum y (m + 1) = n - firstN y + 1 := by
  rw [lens_eq hP.1 hP.2.1] at h ⊢
  rw [lawFirst_eq, first_succ] at hy
  have hm : m ≤ 11 := by
    by_cases hm : m ≤ 11
    · exact hm
    · have : m = 12 := by (first | lia | omega)
      subst this
      have h12 : cum y 12 = 334 + li y := by simp [cum]; (first | lia | omega)
      have d12 : dim y 12 = 31 := by simp [dim]
      rw [h12] at hP
      rw [d12] at h
      (first | lia | omega)
  have a := cum_step (y := y) hP.1 hm
  (first | lia | omega)
theorem st2 {n y m d : Int} (hP : 1 ≤ m ∧ m ≤ 12 ∧ 1 ≤ d ∧ d + cum y m = n - firstN y + 1) (hy : ¬ lawFirst (y + 1) ≤ n) (h : ¬ d > (lens y).getD (m - 1).toNat 0) : y = yr n ∧ m = mo n ∧ d = dy n := by
  have h' : d ≤ dim y m := by rw [lens_eq hP.1 hP.2.1] at h; (first | lia | omega)
  have := date_unique (n := n) hP.1 hP.2.1 hP.2.2.1 (by (first | lia | omega)) (by unfold num; (first | lia | omega))
  exact ⟨this.1.symm, this.2.1.symm, this.2.2.symm⟩
theorem meas3 {m : Int} (h : 1 ≤ m ∧ m ≤ 12) : (13 - (m + 1)).toNat < (13 - m).toNat := by (first | lia | omega)
end Mine
namespace Mine
theorem mdays {m : Int} (h1 : 1 ≤ m) (h2 : m ≤ 12) (y : Int) : ([0, 31, 28, 31, 30, 31, 30, 31, 31, 30, 31, 30, 31] : List Int).getD m.toNat 0 = dim y m - (if m = 2 then li y else 0) := by
  have hm : m = 1 ∨ m = 2 ∨ m = 3 ∨ m = 4 ∨ m = 5 ∨ m = 6 ∨ m = 7 ∨ m = 8 ∨ m = 9 ∨ m = 10 ∨ m = 11 ∨ m = 12 := by (first | lia | omega)
  rcases hm with h | h | h | h | h | h | h | h | h | h | h | h <;> subst h <;> simp [dim] <;> (first | lia | omega)
theorem dim_end {y m v : Int} (h1 : 1 ≤ m) (h2 : m ≤ 12) (h : (m = 2 ∧ leapB y = true ∧ v = 1) ∨ (m = 2 ∧ leapB y = false ∧ v = 0) ∨ (m ≠ 2 ∧ v = 0)) : ([0, 31, 28, 31, 30, 31, 30, 31, 31, 30, 31, 30, 31] : List Int).getD m.toNat 0 + v = dim y m := by
  rw [mdays h1 h2 y]
  unfold li
  rcases h with ⟨h, hl, rfl⟩ | ⟨h, hl, rfl⟩ | ⟨h, rfl⟩
  · rw [if_pos h, hl, if_pos rfl]; (first | lia | omega)
  · rw [if_pos h, hl, if_neg (by decide)]; (first | lia | omega)
  · rw [if_neg h]; (first | lia | omega)
end Mine
namespace Mine
theorem num_range {y m d : Int} (hm : 1 ≤ m ∧ m ≤ 12) (hd : 1 ≤ d ∧ d ≤ dim y m) : firstN y ≤ num y m d ∧ num y m d < firstN (y + 1) := by
  have hc := cum_cases y m hm.1 hm.2
  have hl := li_01 y
  rw [first_succ]
  unfold num
  (first | lia | omega)
theorem wk1_eq (y : Int) : wk1 y = firstN y + 3 - (firstN y + 3) % 7 := by
  unfold wk1; split <;> (first | lia | omega)
def isoY (n : Int) : Int := yr (n - n % 7 + 3)
def isoW (n : Int) : Int := (n - n % 7 + 3 - firstN (isoY n)) / 7 + 1
def isoD (n : Int) : Int := n % 7 + 1
theorem iso_core {y n : Int} (h0 : wk1 y ≤ n) (h1 : n < wk1 (y + 1)) : y = isoY n ∧ (n - wk1 y) / 7 + 1 = isoW n ∧ (n - wk1 y) % 7 + 1 = isoD n := by
  have e0 := wk1_eq y
  have e1 := wk1_eq (y + 1)
  have hy : isoY n = y := yr_unique (by (first | lia | omega)) (by (first | lia | omega))
  refine ⟨hy.symm, ?_, ?_⟩
  · unfold isoW; rw [hy]; (first | lia | omega)
  · unfold isoD; (first | lia | omega)
theorem wk1_step (y : Int) : wk1 y + 364 ≤ wk1 (y + 1) ∧ wk1 (y + 1) ≤ wk1 y + 371 ∧ wk1 y % 7 = 0 ∧ wk1 (y + 1) % 7 = 0 := by
  have e0 := wk1_eq y
  have e1 := wk1_eq (y + 1)
  have h := first_succ y
  have hl := li_01 y
  (first | lia | omega)
theorem iso_p1 {y n : Int} (hn : firstN y ≤ n ∧ n < firstN (y + 1)) (h : (n - wk1 y) / 7 < 0) : y - 1 = isoY n ∧ (n - wk1 (y - 1)) / 7 + 1 = isoW n ∧ (n - wk1 (y - 1)) % 7 + 1 = isoD n := by
  have e0 := wk1_eq (y - 1)
  have hs := first_succ (y - 1)
  rw [show y - 1 + 1 = y by (first | lia | omega)] at hs
  have hl := li_01 (y - 1)
  refine iso_core (by (first | lia | omega)) ?_
  rw [show y - 1 + 1 = y by (first | lia | omega)]; (first | lia | omega)
theorem iso_p2 {y n : Int} (hn : firstN y ≤ n ∧ n < firstN (y + 1)) (h : wk1 (y + 1) ≤ n) : y + 1 = isoY n ∧ 0 + 1 = isoW n ∧ (n - wk1 y) % 7 + 1 = isoD n := by
  have e0 := wk1_eq (y + 1)
  have s := wk1_step y
  have s2 := wk1_step (y + 1)
  have k := iso_core (y := y + 1) (n := n) h (by (first | lia | omega))
  (first | lia | omega)
theorem iso_p3 {y n : Int} (hn : firstN y ≤ n ∧ n < firstN (y + 1)) (h : ¬ (n - wk1 y) / 7 < 0) (h2 : ¬ 52 ≤ (n - wk1 y) / 7 ∨ ¬ wk1 (y + 1) ≤ n) : y = isoY n ∧ (n - wk1 y) / 7 + 1 = isoW n ∧ (n - wk1 y) % 7 + 1 = isoD n := by
  have s := wk1_step y
  exact iso_core (by (first | lia | omega)) (by (first | lia | omega))
end Mine
namespace Mine
def pQ (n : Int) : Int := (n - 1721426) / 146097
def pC (n : Int) : Int := (n - 1721426) % 146097 / 36524
def pF (n : Int) : Int := (n - 1721426) % 146097 % 36524 / 1461
def pY (n : Int) : Int := (n - 1721426) % 146097 % 36524 % 1461 / 365
def pRaw (n : Int) : Int := pQ n * 400 + pC n * 100 + pF n * 4 + pY n
def pDay (n : Int) : Int := if pY n = 4 then 365 else n - 1721426 - pQ n * 146097 - pC n * 36524 - pF n * 1461 - pY n * 365
def posY (n : Int) : Int := (if pY n = 4 then pRaw n - 1 else pRaw n) - 1789 + 2
def posM (n : Int) : Int := pDay n / 28 + 1
def posD (n : Int) : Int := pDay n - pDay n / 28 * 28 + 1
theorem yr_pos (n : Int) : yr n = pRaw n + (if pC n = 4 ∨ pY n = 4 then 0 else 1) := rfl
theorem first_core (q c d y : Int) (g1 : 0 ≤ c) (g2 : c ≤ 3) (g3 : 0 ≤ d) (g4 : d ≤ 24) (g5 : 0 ≤ y) (g6 : y ≤ 3) : firstN (q * 400 + c * 100 + d * 4 + y + 1) = 1721426 + 146097 * q + 36524 * c + 1461 * d + 365 * y := by
  unfold firstN
  have a1 : (q * 400 + c * 100 + d * 4 + y + 1 - 1) / 4 = 100 * q + 25 * c + d := by (first | lia | omega)
  have a2 : (q * 400 + c * 100 + d * 4 + y + 1 - 1) / 100 = 4 * q + c := by (first | lia | omega)
  have a3 : (q * 400 + c * 100 + d * 4 + y + 1 - 1) / 400 = q := by (first | lia | omega)
  rw [a1, a2, a3]; (first | lia | omega)
theorem pos_last {n g : Int} (hn : n = firstN g + 365) (hl : leapB g = true) (h4 : g % 400 ≠ 0) : pY n = 4 ∧ pRaw n = g := by
  have hli : li g = 1 := by unfold li; rw [hl]; rfl
  have hy : yr n = g := yr_unique (by (first | lia | omega)) (by rw [first_succ]; (first | lia | omega))
  rw [yr_pos] at hy
  have e : ∃ q r c r2 d r3 y r4 : Int, pQ n = q ∧ pC n = c ∧ pF n = d ∧ pY n = y ∧ n = 146097 * q + r + 1721426 ∧ r = 36524 * c + r2 ∧ r2 = 1461 * d + r3 ∧ r3 = 365 * y + r4 ∧ 0 ≤ r ∧ r < 146097 ∧ 0 ≤ r2 ∧ r2 < 36524 ∧ 0 ≤ r3 ∧ r3 < 1461 ∧ 0 ≤ r4 ∧ r4 < 365 := by
    refine ⟨_, (n - 1721426) % 146097, _, (n - 1721426) % 146097 % 36524, _, (n - 1721426) % 146097 % 36524 % 1461, _, (n - 1721426) % 146097 % 36524 % 1461 % 365, rfl, rfl, rfl, rfl, ?_, ?_, ?_, ?_, ?_, ?_, ?_, ?_, ?_, ?_, ?_, ?_⟩
    · unfold pQ; (first | lia | omega)
    · unfold pC; generalize (n - 1721426) % 146097 = r; (first | lia | omega)
    · unfold pF; generalize (n - 1721426) % 146097 % 36524 = r; (first | lia | omega)
    · unfold pY; generalize (n - 1721426) % 146097 % 36524 % 1461 = r; (first | lia | omega)
    · (first | lia | omega)
    · (first | lia | omega)
    · generalize (n - 1721426) % 146097 = r; (first | lia | omega)
    · generalize (n - 1721426) % 146097 = r; (first | lia | omega)
    · generalize (n - 1721426) % 146097 % 36524 = r; (first | lia | omega)
    · generalize (n - 1721426) % 146097 % 36524 = r; (first | lia | omega)
    · generalize (n - 1721426) % 146097 % 36524 % 1461 = r; (first | lia | omega)
    · generalize (n - 1721426) % 146097 % 36524 % 1461 = r; (first | lia | omega)
  obtain ⟨q, r, c, r2, d, r3, y, r4, eq, ec, ed, ey, h1, h2, h3, h5, b1, b2, b3, b4, b5, b6, b7, b8⟩ := e
  unfold pRaw at hy ⊢
  rw [eq, ec, ed, ey] at hy ⊢
  by_cases hc : c = 4
  · subst hc
    rw [if_pos (Or.inl rfl)] at hy
    have z1 : r2 = 0 := by (first | lia | omega)
    have z2 : d = 0 := by (first | lia | omega)
    have z3 : r3 = 0 := by (first | lia | omega)
    have z4 : y = 0 := by (first | lia | omega)
    (first | lia | omega)
  · by_cases hy4 : y = 4
    · rw [if_pos (Or.inr hy4)] at hy
      (first | lia | omega)
    · rw [if_neg (by (first | lia | omega))] at hy
      have k := first_core q c d y (by (first | lia | omega)) (by (first | lia | omega)) (by (first | lia | omega)) (by (first | lia | omega)) (by (first | lia | omega)) (by (first | lia | omega))
      rw [hy] at k
      (first | lia | omega)
theorem pos_last' {n g : Int} (hn : n = firstN g + 365) (hl : leapB g = true) (h4 : g % 400 ≠ 0) : posY n = g - 1788 ∧ posM n = 14 ∧ posD n = 2 := by
  have h := pos_last hn hl h4
  have hd : pDay n = 365 := by unfold pDay; rw [if_pos h.1]
  unfold posY posM posD
  rw [hd, if_pos h.1, h.2]
  (first | lia | omega)
end Mine
namespace Mine
theorem pos_end4 {n : Int} (h : pY n = 4) : pRaw n - 1 - 1789 + 2 = posY n ∧ (365 : Int) / 28 + 1 = posM n ∧ 365 - (365 : Int) / 28 * 28 + 1 = posD n := by
  unfold posY posM posD pDay
  rw [if_pos h, if_pos h]
  exact ⟨rfl, rfl, rfl⟩
theorem pos_end0 {n : Int} (h : pY n ≠ 4) : pRaw n - 1789 + 2 = posY n ∧ (n - 1721426 - pQ n * 146097 - pC n * 36524 - pF n * 1461 - pY n * 365) / 28 + 1 = posM n
    ∧ (n - 1721426 - pQ n * 146097 - pC n * 36524 - pF n * 1461 - pY n * 365) - (n - 1721426 - pQ n * 146097 - pC n * 36524 - pF n * 1461 - pY n * 365) / 28 * 28 + 1 = posD n := by
  unfold posY posM posD pDay
  rw [if_neg h, if_neg h]
  exact ⟨rfl, rfl, rfl⟩
end Mine
namespace Mine
abbrev nth (sc : List Int) (i : Int) : Int := (List.take 5 sc ++ [0, 0, 0, 0, 0]).getD (Int.toNat i) 0
def E1 (y : Int) : Prop := 1600 ≤ y ∧ (27 ≤ wI1 y ∧ wI1 y ≤ 29) ∧ yr (lawWestern y) = y ∧ mo (lawWestern y) = wM y ∧ dy (lawWestern y) = wD y
def E2 (y : Int) : Prop := y % 19 = 0 ∧ lawOld y 0 = jdE y 0 ∧ lawOld y 1 = jdE y 1
def P1 (k : Int) : Bool := decide (lawEpact k = 24 ∨ lawEpact k = 25)
def P2 (B k : Int) : Bool := decide (lawOld (B + 19 * k) 0 ≠ lawOld (B + 19 * k) 1)
end Mine
namespace Mine
theorem p1_iff (k : Int) : (([24, 25] : List Int).any fun y => y == lawEpact k) = P1 k := by
  unfold P1
  rw [Bool.eq_iff_iff]
  simp only [List.any_cons, List.any_nil, Bool.or_false, Bool.or_eq_true, beq_iff_eq, decide_eq_true_eq]
  (first | lia | omega)
theorem p1_t {k : Int} (h : (([24, 25] : List Int).any fun y => y == lawEpact k) = true) : P1 k = true := by rw [← p1_iff]; exact h
theorem p1_f {k : Int} (h : ¬ (([24, 25] : List Int).any fun y => y == lawEpact k) = true) : P1 k = false := by rw [← p1_iff]; exact Bool.eq_false_iff.mpr h
theorem p1_f' {k : Int} (h : (([24, 25] : List Int).any fun y => y == lawEpact k) = false) : P1 k = false := by rw [← p1_iff]; exact h
theorem p2_t {B k : Int} (h : lawOld (B + 19 * k) 0 ≠ lawOld (B + 19 * k) 1) : P2 B k = true := decide_eq_true h
theorem p2_f {B k : Int} (h : lawOld (B + 19 * k) 0 = lawOld (B + 19 * k) 1) : P2 B k = false := decide_eq_false (fun q => q h)
theorem p2_f' {B k : Int} (h : ¬ lawOld (B + 19 * k) 0 ≠ lawOld (B + 19 * k) 1) : P2 B k = false := decide_eq_false h
end Mine
namespace Mine
def E3 (x : Int) : Prop := ((100 * x).fmod 400 = 0 → yr (lawFirst (100 * x) + 59) = 100 * x ∧ mo (lawFirst (100 * x) + 59) = 2 ∧ dy (lawFirst (100 * x) + 59) = 29)
  ∧ ((100 * x).fmod 400 ≠ 0 → yr (lawFirst (100 * x) + 59) = 100 * x ∧ mo (lawFirst (100 * x) + 59) = 3 ∧ dy (lawFirst (100 * x) + 59) = 1)
  ∧ yr (lawFirst (100 * x + 1) - 1) = 100 * x ∧ mo (lawFirst (100 * x + 1) - 1) = 12 ∧ dy (lawFirst (100 * x + 1) - 1) = 31
end Mine
namespace Mine
theorem tri_f {a a' b b' c c' : Int} (h : (a == a' && (b == b' && c == c')) = false) (ha : a' = a) (hb : b' = b) (hc : c' = c) : False := by
  subst ha; subst hb; subst hc; simp at h
abbrev thu (n : Int) : Int := n - n.fmod 7 + 3
def E4 (n : Int) : Prop := yr (n - n.fmod 7 + 3) = isoY n ∧ (n - n.fmod 7 + 3 - lawFirst (yr (n - n.fmod 7 + 3))).fdiv 7 + 1 = isoW n ∧ n.fmod 7 + 1 = isoD n ∧ 0 < (n - n.fmod 7 + 3 - lawFirst (yr (n - n.fmod 7 + 3))).fdiv 7 + 1
  ∧ isoJ (yr (n - n.fmod 7 + 3)) ((n - n.fmod 7 + 3 - lawFirst (yr (n - n.fmod 7 + 3))).fdiv 7 + 1) (n.fmod 7 + 1) = n
def R4 (n : Int) : Prop := 1 ≤ yr n ∧ yr n ≤ 9999
def E5 (y b : Int) : Prop := 1 ≤ y - 1788 ∧ leapB (y - 1788 + 1789 - 1) = true ∧ firstN (y - 1788 + 1789 - 1) + 365 = lawFirst (y + 1) - 1 ∧ 2374480 ≤ lawFirst (y + 1) - 1
  ∧ (y.fmod 400 ≠ 0 → posY (lawFirst (y + 1) - 1) = y - 1788) ∧ (y.fmod 400 ≠ 0 → posM (lawFirst (y + 1) - 1) = 14) ∧ (y.fmod 400 ≠ 0 → posD (lawFirst (y + 1) - 1) = 2)
  ∧ leapB (y - 1788 + b.fmod 3 + 1 + 1789 - 1) = false ∧ 1 ≤ y - 1788 + b.fmod 3 + 1
end Mine
namespace Mine
theorem yr_e1 (j : Int) (h : ((j - 1721426).fmod 146097).fdiv 36524 = 4) :
    (j - 1721426).fdiv 146097 * 400 + ((j - 1721426).fmod 146097).fdiv 36524 * 100 + (((j - 1721426).fmod 146097).fmod 36524).fdiv 1461 * 4 + ((((j - 1721426).fmod 146097).fmod 36524).fmod 1461).fdiv 365 = yr j := by
  unfold yr
  simp only [Int.fmod_eq_emod_of_nonneg, Int.fdiv_eq_ediv_of_nonneg, Int.reduceLE] at *
  rw [if_pos (Or.inl h), Int.add_zero]
theorem yr_e2 (j : Int) (h : ((((j - 1721426).fmod 146097).fmod 36524).fmod 1461).fdiv 365 = 4) :
    (j - 1721426).fdiv 146097 * 400 + ((j - 1721426).fmod 146097).fdiv 36524 * 100 + (((j - 1721426).fmod 146097).fmod 36524).fdiv 1461 * 4 + ((((j - 1721426).fmod 146097).fmod 36524).fmod 1461).fdiv 365 = yr j := by
  unfold yr
  simp only [Int.fmod_eq_emod_of_nonneg, Int.fdiv_eq_ediv_of_nonneg, Int.reduceLE] at *
  rw [if_pos (Or.inr h), Int.add_zero]
theorem yr_e3 (j : Int) (h : ((j - 1721426).fmod 146097).fdiv 36524 ≠ 4) (h' : ((((j - 1721426).fmod 146097).fmod 36524).fmod 1461).fdiv 365 ≠ 4) :
    (j - 1721426).fdiv 146097 * 400 + ((j - 1721426).fmod 146097).fdiv 36524 * 100 + (((j - 1721426).fmod 146097).fmod 36524).fdiv 1461 * 4 + ((((j - 1721426).fmod 146097).fmod 36524).fmod 1461).fdiv 365 + 1 = yr j := by
  unfold yr
  simp only [Int.fmod_eq_emod_of_nonneg, Int.fdiv_eq_ediv_of_nonneg, Int.reduceLE] at *
  rw [if_neg (fun g => g.elim h h')]
/-- what the days are moved by -/
def adj (j : Int) : Int := if j - num (yr j) 1 1 < 58 + li (yr j) then 0 else if leapB (yr j) = true then 1 else 2
theorem adj_e1 (j : Int) (h : j - num (yr j) 1 1 < 58 + li (yr j)) : 0 = adj j := (if_pos h).symm
theorem adj_e2 (j : Int) (h : ¬ j - num (yr j) 1 1 < 58 + li (yr j)) (h' : leapB (yr j) = true) : 1 = adj j := ((if_neg h).trans (if_pos h')).symm
theorem adj_e3 (j : Int) (h : ¬ j - num (yr j) 1 1 < 58 + li (yr j)) (h' : leapB (yr j) = false) : 2 = adj j := ((if_neg h).trans (if_neg (Bool.eq_false_iff.mp h'))).symm
theorem adj_mo (j : Int) : ((j - num (yr j) 1 1 + adj j) * 12 + 373).fdiv 367 = mo j := by
  rw [Int.fdiv_eq_ediv_of_nonneg _ (by decide)]; rfl
theorem adj_p (j : Int) : 1 ≤ ((j - num (yr j) 1 1 + adj j) * 12 + 373).fdiv 367 ∧ ((j - num (yr j) 1 1 + adj j) * 12 + 373).fdiv 367 ≤ 12 := by
  rw [adj_mo]; exact mo_range j
theorem adj_end (j : Int) : yr j = yr j ∧ ((j - num (yr j) 1 1 + adj j) * 12 + 373).fdiv 367 = mo j ∧ j - num (yr j) (((j - num (yr j) 1 1 + adj j) * 12 + 373).fdiv 367) 1 + 1 = dy j := by
  rw [adj_mo]; exact ⟨rfl, rfl, rfl⟩
end Mine
namespace Mine
theorem fm (a b : Int) (h : 0 ≤ b) : a.fmod b = a % b := Int.fmod_eq_emod_of_nonneg a h
theorem fd (a b : Int) (h : 0 ≤ b) : a.fdiv b = a / b := Int.fdiv_eq_ediv_of_nonneg a h
theorem law3 (x : Int) : E3 x := by
  unfold E3
  rw [fm _ _ (by (first | lia | omega) : (0 : Int) ≤ 400)]
  generalize hy : 100 * x = y
  have hl := li_cases y
  have c2 := cum_cases y 2 (by (first | lia | omega)) (by (first | lia | omega))
  have c3 := cum_cases y 3 (by (first | lia | omega)) (by (first | lia | omega))
  have c12 := cum_cases y 12 (by (first | lia | omega)) (by (first | lia | omega))
  refine ⟨fun h => ?_, fun h => ?_, ?_⟩
  · exact date_unique (by (first | lia | omega)) (by (first | lia | omega)) (by (first | lia | omega)) (by (first | lia | omega)) (by rw [lawFirst_eq]; unfold num; (first | lia | omega))
  · exact date_unique (by (first | lia | omega)) (by (first | lia | omega)) (by (first | lia | omega)) (by (first | lia | omega)) (by rw [lawFirst_eq]; unfold num; (first | lia | omega))
  · exact date_unique (by (first | lia | omega)) (by (first | lia | omega)) (by (first | lia | omega)) (by (first | lia | omega)) (by rw [lawFirst_eq, first_succ]; unfold num; (first | lia | omega))
theorem law4 (n : Int) : E4 n := by
  unfold E4
  rw [fm _ _ (by (first | lia | omega) : (0 : Int) ≤ 7), fd _ _ (by (first | lia | omega) : (0 : Int) ≤ 7), lawFirst_eq]
  have h := yr_spec (n - n % 7 + 3)
  have hY : isoY n = yr (n - n % 7 + 3) := rfl
  have c12 := cum_cases (yr (n - n % 7 + 3) - 1) 12 (by (first | lia | omega)) (by (first | lia | omega))
  have hs := first_succ (yr (n - n % 7 + 3) - 1)
  rw [show yr (n - n % 7 + 3) - 1 + 1 = yr (n - n % 7 + 3) by (first | lia | omega)] at hs
  have hl := li_01 (yr (n - n % 7 + 3) - 1)
  have hs' := first_succ (yr (n - n % 7 + 3))
  have hl' := li_01 (yr (n - n % 7 + 3))
  refine ⟨rfl, rfl, rfl, by (first | lia | omega), ?_⟩
  unfold isoJ num
  (first | lia | omega)
theorem law4r (a b : Int) : R4 (lawFirst (a.fmod 9997 + 2) + b.fmod 7 - 3) := by
  unfold R4
  rw [fm _ _ (by (first | lia | omega) : (0 : Int) ≤ 7), fm _ _ (by (first | lia | omega) : (0 : Int) ≤ 9997), lawFirst_eq]
  generalize hY : a % 9997 + 2 = Y
  generalize hN : firstN Y + b % 7 - 3 = N
  have h := yr_spec N
  have hs := first_succ (Y - 1)
  rw [show Y - 1 + 1 = Y by (first | lia | omega)] at hs
  have hs' := first_succ Y
  have hl := li_01 (Y - 1)
  have hl' := li_01 Y
  have a1 := first_lt (a := Y - 1) (b := yr N + 1) (by (first | lia | omega))
  have a2 := first_lt (a := yr N) (b := Y + 1) (by (first | lia | omega))
  (first | lia | omega)
theorem law5 (y b : Int) (h4 : y % 4 = 0) (h1 : 1792 ≤ y) (hg : ¬ (y % 100 = 0 ∧ y % 400 ≠ 0)) : E5 y b := by
  unfold E5
  rw [fm _ _ (by (first | lia | omega) : (0 : Int) ≤ 400), fm _ _ (by (first | lia | omega) : (0 : Int) ≤ 3)]
  rw [show y - 1788 + 1789 - 1 = y by (first | lia | omega)]
  have hl : leapB y = true := by
    have := li_cases y
    rcases this with g | g
    · exact g.2.1
    · (first | lia | omega)
  have hli : li y = 1 := by unfold li; rw [hl]; rfl
  have hs := first_succ y
  have hm := first_mono (a := 1792) (b := y) h1
  have h0 : firstN 1792 = 2375575 := by decide
  have hN : lawFirst (y + 1) - 1 = firstN y + 365 := by rw [lawFirst_eq]; (first | lia | omega)
  have hf : leapB (y - 1788 + b % 3 + 1 + 1789 - 1) = false := by
    have := li_cases (y - 1788 + b % 3 + 1 + 1789 - 1)
    rcases this with g | g
    · (first | lia | omega)
    · exact g.2.1
  refine ⟨by (first | lia | omega), hl, hN.symm, by (first | lia | omega), fun h => ?_, fun h => ?_, fun h => ?_, hf, by (first | lia | omega)⟩
  · exact (pos_last' hN hl h).1
  · exact (pos_last' hN hl h).2.1
  · exact (pos_last' hN hl h).2.2
theorem law5a (x b : Int) (h : ((4 * (if x < 0 then -x else x) + 1792).fmod 100 = 0 ∧ (4 * (if x < 0 then -x else x) + 1792).fmod 400 ≠ 0)) : E5 (4 * (if x < 0 then -x else x) + 1792 + 4) b := by
  rw [fm _ _ (by (first | lia | omega) : (0 : Int) ≤ 100), fm _ _ (by (first | lia | omega) : (0 : Int) ≤ 400)] at h
  refine law5 _ _ ?_ ?_ ?_ <;> split at h <;> (try split) <;> (first | lia | omega)
theorem law5b (x b : Int) (h : ¬ ((4 * (if x < 0 then -x else x) + 1792).fmod 100 = 0 ∧ (4 * (if x < 0 then -x else x) + 1792).fmod 400 ≠ 0)) : E5 (4 * (if x < 0 then -x else x) + 1792) b := by
  rw [fm _ _ (by (first | lia | omega) : (0 : Int) ≤ 100), fm _ _ (by (first | lia | omega) : (0 : Int) ≤ 400)] at h
  refine law5 _ _ ?_ ?_ ?_ <;> split at h <;> (try split) <;> (first | lia | omega)
end Mine
namespace Mine
theorem tr_nonneg {a b : Int} (h : 0 ≤ a) : truncL a b = a / b := by unfold truncL; rw [if_neg (by (first | lia | omega))]
theorem sun_mod (x : Int) : sun x % 7 = 6 ∧ x < sun x ∧ sun x ≤ x + 7 := by unfold sun; (first | lia | omega)
theorem century (C : Int) (h : 16 ≤ C) : (C - truncL (C - 17) 25) / 3 = (8 * (C + 1) + 5) / 25 := by
  by_cases h16 : C = 16
  · subst h16; decide
  · rw [tr_nonneg (by (first | lia | omega))]
    obtain ⟨q, r, hC, h0, h1⟩ : ∃ q r : Int, C = 25 * q + r + 17 ∧ 0 ≤ r ∧ r < 25 := ⟨(C - 17) / 25, (C - 17) % 25, by (first | lia | omega), by (first | lia | omega), by (first | lia | omega)⟩
    have e1 : (C - 17) / 25 = q := by (first | lia | omega)
    rw [e1]
    have e2 : (C - q) / 3 = 8 * q + (r + 17) / 3 := by (first | lia | omega)
    have e3 : (8 * (C + 1) + 5) / 25 = 8 * q + (8 * r + 149) / 25 := by (first | lia | omega)
    rw [e2, e3]
    have hr : r = 0 ∨ r = 1 ∨ r = 2 ∨ r = 3 ∨ r = 4 ∨ r = 5 ∨ r = 6 ∨ r = 7 ∨ r = 8 ∨ r = 9 ∨ r = 10 ∨ r = 11 ∨ r = 12 ∨ r = 13 ∨ r = 14 ∨ r = 15 ∨ r = 16 ∨ r = 17 ∨ r = 18 ∨ r = 19 ∨ r = 20 ∨ r = 21 ∨ r = 22 ∨ r = 23 ∨ r = 24 := by (first | lia | omega)
    rcases hr with h | h | h | h | h | h | h | h | h | h | h | h | h | h | h | h | h | h | h | h | h | h | h | h | h <;> subst h <;> (first | lia | omega)
theorem wI1_epact (y : Int) (hy : 1600 ≤ y) : wI1 y = (23 - lawEpact y) % 30 := by
  have hC : wC y = y / 100 := tr_nonneg (by (first | lia | omega))
  have hN : wN y = y % 19 := by unfold wN; rw [tr_nonneg (by (first | lia | omega))]; (first | lia | omega)
  have hk : wK y = truncL (y / 100 - 17) 25 := by unfold wK; rw [hC]
  have hb : truncL (y / 100 - 17) 25 ≤ y / 100 - 16 := by unfold truncL; split <;> (first | lia | omega)
  have h0 : wI0 y = y / 100 - y / 100 / 4 - (8 * (y / 100 + 1) + 5) / 25 + 19 * (y % 19) + 15 := by
    unfold wI0
    rw [hC, hN, hk, tr_nonneg (by (first | lia | omega) : 0 ≤ y / 100), tr_nonneg (by (first | lia | omega) : 0 ≤ y / 100 - truncL (y / 100 - 17) 25), century _ (by (first | lia | omega))]
  have hs : 3 * (y / 100 + 1) / 4 = y / 100 - y / 100 / 4 := by (first | lia | omega)
  have hp : 0 ≤ wI0 y := by rw [h0]; (first | lia | omega)
  unfold wI1
  rw [tr_nonneg hp, h0]
  unfold lawEpact
  rw [hs]
  generalize y / 100 - y / 100 / 4 = S
  generalize (8 * (y / 100 + 1) + 5) / 25 = T
  (first | lia | omega)
end Mine
namespace Mine
theorem west_core (y : Int) (hy : 1600 ≤ y) (i : Int) (hi : wI y = i) (h0 : 27 ≤ i) (h1 : i ≤ 28) (hf : lawFull y = 21 + i) : yr (lawWestern y) = y ∧ mo (lawWestern y) = wM y ∧ dy (lawWestern y) = wD y := by
  have hC : wC y = y / 100 := tr_nonneg (by (first | lia | omega))
  have hj0 : wJ0 y = y + y / 4 + i + 2 - y / 100 + y / 100 / 4 := by
    unfold wJ0
    rw [hi, hC, tr_nonneg (by (first | lia | omega) : 0 ≤ y), tr_nonneg (by (first | lia | omega) : 0 ≤ y / 100)]
  have hj : wJ y = (y + y / 4 + i + 2 - y / 100 + y / 100 / 4) % 7 := by
    unfold wJ
    rw [hj0, tr_nonneg (by (first | lia | omega))]
    (first | lia | omega)
  have hjr : 0 ≤ wJ y ∧ wJ y ≤ 6 := by rw [hj]; (first | lia | omega)
  have hM : wM y = 4 := by
    unfold wM
    rw [hi, tr_nonneg (by (first | lia | omega))]
    (first | lia | omega)
  have hD : wD y = i - wJ y - 3 := by
    unfold wD
    rw [hM, hi]
    have : truncL 4 4 = 1 := by decide
    rw [this]; (first | lia | omega)
  have hs := first_succ y
  have hX : lawFirst (y + 1) - 307 + lawFull y = firstN (y + 1) - 286 + i := by rw [lawFirst_eq, hf]; (first | lia | omega)
  have hW : lawWestern y = firstN (y + 1) - 286 + i + 7 - wJ y := by
    unfold lawWestern
    rw [hX]
    unfold sun
    have e : firstN (y + 1) = 1721426 + 365 * y + y / 4 - y / 100 + y / 400 := by unfold firstN; rw [show y + 1 - 1 = y by (first | lia | omega)]
    have e4 : y / 100 / 4 = y / 400 := by (first | lia | omega)
    rw [hj, e4, e]
    generalize y / 4 = a
    generalize y / 100 = b
    generalize y / 400 = c
    (first | lia | omega)
  have c4 := cum_cases y 4 (by (first | lia | omega)) (by (first | lia | omega))
  rw [hM, hD]
  exact date_unique (by (first | lia | omega)) (by (first | lia | omega)) (by (first | lia | omega)) (by (first | lia | omega)) (by unfold num; rw [hW]; (first | lia | omega))
theorem west (y : Int) (hy : 1600 ≤ y) (h : P1 y = true) : E1 y := by
  have he : lawEpact y = 24 ∨ lawEpact y = 25 := of_decide_eq_true h
  have hi := wI1_epact y hy
  have hN : wN y = y % 19 := by unfold wN; rw [tr_nonneg (by (first | lia | omega))]; (first | lia | omega)
  rcases he with he | he
  · rw [he] at hi
    have hi' : wI1 y = 29 := by rw [hi]; decide
    have hw : wI y = 28 := by
      unfold wI
      rw [hi', show truncL 29 28 = 1 by decide, show truncL 29 (29 + 1) = 0 by decide]
      simp
    have hf : lawFull y = 21 + 28 := by unfold lawFull; rw [he]; simp
    exact ⟨hy, by (first | lia | omega), west_core y hy 28 hw (by (first | lia | omega)) (by (first | lia | omega)) hf⟩
  · rw [he] at hi
    have hi' : wI1 y = 28 := by rw [hi]; decide
    have hw : wI y = 27 + truncL (21 - wN y) 11 := by
      unfold wI
      rw [hi', show truncL 28 28 = 1 by decide, show truncL 29 (28 + 1) = 1 by decide]
      (first | lia | omega)
    by_cases hn : y % 19 > 10
    · have ht : truncL (21 - wN y) 11 = 0 := by rw [hN, tr_nonneg (by (first | lia | omega))]; (first | lia | omega)
      rw [ht] at hw
      have hf : lawFull y = 21 + 27 := by unfold lawFull; rw [he]; simp [hn]
      exact ⟨hy, by (first | lia | omega), west_core y hy 27 hw (by (first | lia | omega)) (by (first | lia | omega)) hf⟩
    · have ht : truncL (21 - wN y) 11 = 1 := by rw [hN, tr_nonneg (by (first | lia | omega))]; (first | lia | omega)
      rw [ht] at hw
      have hf : lawFull y = 21 + 28 := by unfold lawFull; rw [he]; simp [hn]
      exact ⟨hy, by (first | lia | omega), west_core y hy 28 hw (by (first | lia | omega)) (by (first | lia | omega)) hf⟩
theorem rare1_all (x : Int) {ms : List Int} (h : ∀ z ∈ ms, ∃ k, 1600 + 100 * (if x < 0 then -x else x) ≤ k ∧ k < 1600 + 100 * (if x < 0 then -x else x) + ((100 : Nat) : Int) ∧ P1 k = true ∧ z = k) : ∀ z ∈ ms, E1 z := by
  intro z hz
  obtain ⟨k, h1, _, h3, rfl⟩ := h z hz
  exact west z (by split at h1 <;> (first | lia | omega)) h3
end Mine
namespace Mine
theorem epact_some : ∀ R : Fin 30, ∃ g : Fin 19, (11 * (g.val + 1) + R.val) % 30 = 24 ∨ (11 * (g.val + 1) + R.val) % 30 = 25 := by decide
theorem rare1_ex (b : Int) (hb : b % 100 = 0) : ∃ k, b ≤ k ∧ k < b + 100 ∧ P1 k = true := by
  obtain ⟨K, hK⟩ : ∃ K : Int, K = 20 + (8 * (b / 100 + 1) + 5) / 25 - 5 - (3 * (b / 100 + 1) / 4 - 12) := ⟨_, rfl⟩
  obtain ⟨g, hg⟩ := epact_some ⟨(K % 30).toNat, by (first | lia | omega)⟩
  have hg19 := g.isLt
  refine ⟨b + ((g.val : Int) - b) % 19, by (first | lia | omega), by (first | lia | omega), decide_eq_true ?_⟩
  have h1 : (b + ((g.val : Int) - b) % 19) % 19 = g.val := by (first | lia | omega)
  have h2 : (b + ((g.val : Int) - b) % 19) / 100 = b / 100 := by (first | lia | omega)
  unfold lawEpact
  rw [h1, h2]
  have e : (11 * ((g.val : Int) + 1) + 20 + (8 * (b / 100 + 1) + 5) / 25 - 5 - (3 * (b / 100 + 1) / 4 - 12)) % 30 = (11 * ((g.val : Int) + 1) + K % 30) % 30 := by
    rw [hK]
    generalize (8 * (b / 100 + 1) + 5) / 25 = T
    generalize 3 * (b / 100 + 1) / 4 = S
    (first | lia | omega)
  rw [e]
  have hk : ((K % 30).toNat : Int) = K % 30 := by (first | lia | omega)
  rcases hg with hg | hg
  · left
    have : ((11 * (g.val + 1) + (K % 30).toNat : Nat) : Int) % 30 = 24 := by exact_mod_cast hg
    push_cast at this
    (first | lia | omega)
  · right
    have : ((11 * (g.val + 1) + (K % 30).toNat : Nat) : Int) % 30 = 25 := by exact_mod_cast hg
    push_cast at this
    (first | lia | omega)
theorem rare1_ne (x : Int) {ms : List Int} (h : ∀ k, 1600 + 100 * (if x < 0 then -x else x) ≤ k → k < 1600 + 100 * (if x < 0 then -x else x) + ((100 : Nat) : Int) → P1 k = true → k ∈ ms) : 0 < ms.length := by
  obtain ⟨k, h1, h2, h3⟩ := rare1_ex (1600 + 100 * (if x < 0 then -x else x)) (by (first | lia | omega))
  exact List.length_pos_of_mem (h k h1 h2 h3)
theorem old_law (y z : Int) (hz : 0 ≤ z ∧ z ≤ 1) : lawOld y z = jdE y z := by
  unfold lawOld jdE jdJ mJ dJ
  have he : 0 ≤ eJ y z ∧ eJ y z ≤ 6 := by unfold eJ; (first | lia | omega)
  have hm : (129 + z + eJ y z) / 31 = 4 := by (first | lia | omega)
  have hd : (129 + z + eJ y z) % 31 = 5 + z + eJ y z := by (first | lia | omega)
  rw [hm, hd]
  obtain ⟨a, b, hy, h0, h1⟩ : ∃ a b : Int, y = 4 * a + b ∧ 0 ≤ b ∧ b < 4 := ⟨y / 4, y % 4, by (first | lia | omega), by (first | lia | omega), by (first | lia | omega)⟩
  have e1 : (y + 4712) / 4 = a + 1178 := by (first | lia | omega)
  have e2 : (y + 4712) % 4 = b := by (first | lia | omega)
  have e3 : 1461 * (y + 4716) / 4 = 1461 * a + 1461 * 1179 + 365 * b := by (first | lia | omega)
  have e4 : 306001 * ((4 : Int) + 1) / 10000 = 153 := by decide
  rw [e1, e2, e3, e4]
  unfold sun
  have e5 : eJ y z = (5 - (1461 * (a + 1178) + 365 * b + 80 + 15 + z)) % 7 := by
    unfold eJ
    have f1 : y % 4 = b := by (first | lia | omega)
    rw [f1, hy]
    (first | lia | omega)
  rw [e5]
  (first | lia | omega)
theorem rare2_all (x : Int) {ms : List Int} (h : ∀ z ∈ ms, ∃ k, 0 ≤ k ∧ k < 0 + ((28 : Nat) : Int) ∧ P2 (532 * x) k = true ∧ z = 532 * x + 19 * k) : ∀ z ∈ ms, E2 z := by
  intro z hz
  obtain ⟨k, _, _, _, rfl⟩ := h z hz
  exact ⟨by (first | lia | omega), old_law _ 0 (by (first | lia | omega)), old_law _ 1 (by (first | lia | omega))⟩
theorem rare2_ne (x : Int) {ms : List Int} (h : ∀ k, 0 ≤ k → k < 0 + ((28 : Nat) : Int) → P2 (532 * x) k = true → 532 * x + 19 * k ∈ ms) : 0 < ms.length := by
  refine List.length_pos_of_mem (h 12 (by (first | lia | omega)) (by (first | lia | omega)) (decide_eq_true ?_))
  unfold lawOld sun
  have e1 : (532 * x + 19 * 12 + 4712) / 4 = 133 * x + 1235 := by (first | lia | omega)
  have e2 : (532 * x + 19 * 12 + 4712) % 4 = 0 := by (first | lia | omega)
  rw [e1, e2]
  (first | lia | omega)
end Mine
namespace Mine
theorem adjust_upto (b n : Nat) (hb : b ≤ n) : Builtin.Slice.sliceAdjust none (some (b : Int)) 1 (n : Int) = ((0 : Int), (b : Int)) := by
  unfold Builtin.Slice.sliceAdjust
  have h1 : ¬ ((1 : Int) < 0) := by omega
  have h2 : ¬ ((b : Int) < 0) := by omega
  simp only [h1, h2, if_false]
  congr 1
  omega
theorem places_upto (b : Nat) : Builtin.Slice.slicePlaces (0 : Int) (b : Int) 1 = b := by
  unfold Builtin.Slice.slicePlaces
  have h1 : (1 : Int) > 0 := by omega
  simp only [h1, if_true, Int.ediv_one]
  split <;> omega
section
variable {prog : Program} {w : World} {A : Around} {E : Value → Shared → Prop} {s : Shared}
theorem sliceApplied_upto {sl : Addr} {b n : Nat} {u : Tok} {Q : Int × Int × Nat → Shared → Prop} (hs : s.heap.IsSliceOf sl .none (.int b u) .none) (hb : b ≤ n) (h : Q ((0 : Int), 1, b) s) :
    wpAny (model prog w) A (Builtin.Slice.sliceApplied (.ref sl) (pure (n : Int))) Q E s := by
  obtain ⟨os, hos, hcs, hds⟩ := id hs
  unfold Builtin.Slice.sliceApplied Builtin.Slice.sliceFields
  refine wpAny_bind (wpAny_bind (wpAny_field hos hds (x := .none) rfl (wpAny_bind (wpAny_field hos hds (x := .int b u) rfl (wpAny_bind (wpAny_field hos hds (x := .none) rfl (wpAny_pure ?_)))))))
  refine wpAny_bind (slicePart_none ?_)
  show wpAny _ _ (if ((1 : Int) == 0) = true then _ else _) _ _ s
  rw [if_neg (by decide)]
  refine wpAny_bind (slicePart_none (wpAny_bind (slicePart_int (wpAny_bind (wpAny_pure ?_)))))
  show wpAny _ _ (match Builtin.Slice.sliceAdjust none (some (b : Int)) 1 (n : Int) with | (lo, hi) => pure (lo, (1 : Int), Builtin.Slice.slicePlaces lo hi 1)) _ _ s
  rw [adjust_upto b n hb]
  show wpAny _ _ (pure ((0 : Int), (1 : Int), Builtin.Slice.slicePlaces (0 : Int) (b : Int) 1)) _ _ s
  rw [places_upto b]
  exact wpAny_pure h
theorem pick_upto (xs : Array Value) (b : Nat) : ((List.range b).filterMap fun (k : Nat) => xs[((0 : Int) + (k : Int) * 1).toNat]?).toArray = (xs.toList.take b).toArray := by
  have e : (fun (k : Nat) => xs[((0 : Int) + (k : Int) * 1).toNat]?) = fun k => xs[0 + k]? := by
    funext k
    have : ((0 : Int) + (k : Int) * 1).toNat = 0 + k := by omega
    rw [this]
  rw [e]
  have := pick_run xs 0 b
  rw [List.filterMap_map] at this
  have e2 : ((fun x => xs[x]?) ∘ fun x => 0 + x) = fun k => xs[0 + k]? := rfl
  rw [e2] at this
  rw [this, List.drop_zero]
theorem getItem_tuple_upto {t sl : Addr} {items : Array Value} {b : Nat} {u : Tok} {Q : Value → Shared → Prop} (ht : IsTup s.heap t items) (hs : s.heap.IsSliceOf sl .none (.int b u) .none) (hb : b < items.size)
    (h : Q (.ref s.heap.objs.size) { s with heap := s.heap.push { cls := .type "tuple", data := .seq (items.toList.take b).toArray } })
    (hsz : items.size ≤ sizeLine) : wpAny (model prog w) A (getItem (.ref t) (.ref sl)) Q E s := by
  have hdrop : sizeOk (.seq (items.toList.take b).toArray) := by
    show (items.toList.take b).toArray.size ≤ sizeLine
    rw [List.size_toArray, List.length_take, Array.length_toList]
    omega
  obtain ⟨os, hos, hcs, hds⟩ := id hs
  have hTs : s.TypeIs (.ref sl) "slice" := ⟨os, hos, hcs⟩
  unfold getItem
  try with_reducible refine wpAny_holding ?_
  first | refine wpAny_bind (wpAny_pure ?_) | skip
  refine wpAny_bind (wpAny_sequenceKey ht.typeIs (by decide) ?_)
  refine wpAny_bind (wpAny_callSpecial?_slot (name := Str.ofString "__getitem__") ht.typeIs slot_tuple_getitem
    (wpAny_call_entry slot_tuple_getitem ht.typeIs entry_tuple_getitem ?_ (args_tuple_getitem _ _)))
  show wpAny _ _ (Builtin.Tuple.tupleItemsOf (.ref t) >>= _) _ _ s
  refine wpAny_bind (tupleItemsOf_ ht ?_)
  refine wpAny_bind (wpAny_typeOf hTs ?_)
  rw [if_pos (by decide)]
  refine wpAny_bind (sliceApplied_upto hs (Nat.le_of_lt hb) ?_)
  have hno : ¬ (((0 : Int) == 0 && (1 : Int) == 1 && b == items.size) = true) := by
    have : (b == items.size) = false := by rw [beq_eq_false_iff_ne]; omega
    rw [this]; simp
  show wpAny _ _ (if ((0 : Int) == 0 && (1 : Int) == 1 && b == items.size) = true then _ else _) _ _ s
  rw [if_neg hno, pick_upto items b]
  first
    | exact wpAny_bind (m := Builtin.Tuple.tupleExact _) (wpAny_newObj_type (wpAny_pure ⟨_, rfl, wpAny_pure h⟩) hdrop)
    | exact wpAny_bind (m := Builtin.Tuple.tupleExact _) (wpAny_newObj_type (wpAny_bind (wpAny_pure (wpAny_pure ⟨_, rfl, wpAny_pure h⟩))) hdrop)
    | exact wpAny_bind (wpAny_bind (m := Builtin.Tuple.tupleExact _) (wpAny_newObj_type (wpAny_pure (wpAny_pure ⟨_, rfl, wpAny_pure h⟩)) hdrop))
    | exact wpAny_bind (wpAny_bind (m := Builtin.Tuple.tupleExact _) (wpAny_newObj_type (wpAny_pure ⟨_, rfl, wpAny_pure h⟩) hdrop))
end
theorem slice_tuple_upto {prog : Program} {w : World} {A : Around} {E : Value → Shared → Prop} {s : Shared} {h₀ : Heap} {L : Addr} {m : Str → Option Value} {news : List (Addr × Obj)} {value slice : Expr} {t : Addr} {items : Array Value} {k : Int} {u : Tok} {zs : List Value} {Q : Value → Shared → Prop}
    (F : Fr h₀ L s.heap m) (N : News h₀ L s.heap news) (ht : IsTup s.heap t items) (h0 : 0 ≤ k) (hb : k.toNat < items.size) (e : items.toList.take k.toNat = zs)
    (h : ∀ D h', Fr h₀ L h' m → News h₀ L h' ((D, { cls := .type "tuple", data := .seq zs.toArray }) :: news) → (∀ p ∈ news, p.1 < D) → Q (.ref D) { s with heap := h' })
    (hs : subscripted slice false (.ref t) (.ref s.heap.objs.size) = operate [.ref s.heap.objs.size, .ref t] (getItem (.ref t) (.ref s.heap.objs.size)))
    (hg : ∀ r, letTemporaryGo value (.ref t) r = pure ())
    (hsz : items.size ≤ sizeLine) :
    wpAny (model prog w) A (subscriptTail value slice (.ref t) (.ref s.heap.objs.size)) Q E { s with heap := s.heap.push { cls := .type "slice", data := .fields #[.none, .int k u, .none] } } := by
  obtain ⟨b, rfl⟩ : ∃ b : Nat, k = (b : Int) := ⟨k.toNat, by omega⟩
  rw [Int.toNat_natCast] at hb e
  have ht' : IsTup (s.heap.push { cls := .type "slice", data := .fields #[.none, .int b u, .none] }) t items := ht.keeps fun _ _ e => Heap.get?_push_of_some _ e
  refine subscriptTail_ops (s := { s with heap := s.heap.push { cls := .type "slice", data := .fields #[.none, .int b u, .none] } }) ht'.typeIs slot_tuple_getitem.lookup
    (getItem_tuple_upto ht' (Heap.IsSliceOf.new ..) hb ?_ hsz) hs hg
  have N1 := News.push (F.push { cls := .type "slice", data := .fields #[.none, .int b u, .none] }) (N.grown fun _ _ e => Heap.get?_push_of_some _ e) { cls := .type "tuple", data := .seq (items.toList.take b).toArray }
  rw [Heap.size_push] at N1
  show Q (.ref (s.heap.push _).objs.size) _
  rw [Heap.size_push]
  subst e
  exact h _ _ ((F.push _).push _) N1 fun p hp => Nat.lt_succ_of_lt (Heap.lt_size (N p hp).1)

theorem iter_tupAcc {prog : Program} {w : World} {A : Around} {E : Value → Shared → Prop} {s : Shared} {env : Env} {h₀ : Heap} {x y : Str} {body : List Stmt} {Q : Flow → Shared → Prop} {t : Addr} {vs : List Value} {ns : List Int} {m₀ : Str → Option Value} {news : List (Addr × Obj)} {a₀ : Int} {t₀ : Tok}
    (hh : A.handled = none) (ht : IsTup s.heap t vs.toArray) (hi : IntsAre vs ns) (F : Fr h₀ env.locals s.heap m₀) (N : News h₀ env.locals s.heap news) (hne : t ≠ env.locals) (hlt : ∀ p ∈ news, p.1 < t) (hy : m₀ y = some (.int a₀ t₀)) (hxy : x ≠ y)
    (turn : ∀ (n : Int) (tk0 : Tok) (a : Int) (ta : Tok) (dv : Option Value) (h : Heap) (tk : Nat) (own : List (Addr × Obj)),
      Fr h₀ env.locals h (fun z => if z = x then some (.int n tk0) else if z = y then some (.int a ta) else if z = x then dv else m₀ z) → News h₀ env.locals h (news ++ own) →
      wpAny (model prog w) A (execs body env) (fun f s₂ => f = .next ∧ ∃ (h' : Heap) (tk' : Nat) (a' : Int) (t' : Tok), s₂ = { s with heap := h', toks := tk' } ∧
        Fr h₀ env.locals h' (fun z => if z = y then some (.int a' t') else if z = x then some (.int n tk0) else if z = y then some (.int a ta) else if z = x then dv else m₀ z) ∧ News h₀ env.locals h' (news ++ own)) E { s with heap := h, toks := tk })
    (done : ∀ (a : Int) (ta : Tok) (dv : Option Value) (h : Heap) (tk : Nat), Fr h₀ env.locals h (fun z => if z = y then some (.int a ta) else if z = x then dv else m₀ z) → News h₀ env.locals h news → Q .next { s with heap := h, toks := tk }) :
    wpAny (model prog w) A (pyIter (.ref t)) (fun it s₂ => LoopAtV prog w A h₀ env x body Q E it s₂) E s := by
  have hls : s.heap.IsTuple t vs.toArray := ht
  have htl : t < s.heap.objs.size := by obtain ⟨_, e, _⟩ := id ht; exact Heap.lt_size e
  refine wpAny_pyIter_tuple hls ?_
  refine loop_invN (fun _ m nx => nx = news ∧ ∃ (a : Int) (ta : Tok) (dv : Option Value), m = fun z => if z = y then some (.int a ta) else if z = x then dv else m₀ z)
    (Walks.tuple hh s.heap.objs.size t (Nat.ne_of_lt htl) vs.toArray) ?_ ?_ ?_ ?_ ⟨⟨_, Heap.get?_push_size _ rfl, rfl, rfl⟩, hls.at fun o e => Heap.get?_push_of_some _ e⟩ (F.push _)
    (fun p hp => ⟨Heap.get?_push_of_some _ (N p hp).1, (N p hp).2⟩) ⟨rfl, a₀, t₀, m₀ x, ?_⟩ ?_ ?_
  · intro hm
    rcases List.mem_cons.mp hm with e | hm
    · exact absurd F.ns.lt (e ▸ Nat.lt_irrefl _)
    · exact hne (List.mem_singleton.mp hm).symm
  · intro b hb
    rw [List.mem_singleton.mp hb]
    exact Heap.get?_none_of_le (Nat.le_of_lt (Nat.lt_of_le_of_lt F.above F.ns.lt))
  · intro p hp hI
    exact absurd (Heap.lt_size (N p hp).1) ((List.mem_singleton.mp hI) ▸ Nat.lt_irrefl _)
  · intro q hq hm
    rcases List.mem_cons.mp hm with e | hm
    · exact absurd (Heap.lt_size (N q hq).1) (e ▸ Nat.lt_irrefl _)
    · exact absurd (hlt q hq) ((List.mem_singleton.mp hm) ▸ Nat.lt_irrefl _)
  · funext z
    by_cases h1 : z = y
    · rw [if_pos h1, h1, hy]
    · rw [if_neg h1]
      by_cases h2 : z = x
      · rw [if_pos h2, h2]
      · rw [if_neg h2]
  · rintro i v m₁ news₁ h tk own hin hP hadr hoff ⟨rfl, a, ta, dv, rfl⟩ F₁ N₁
    have hP' : vs[i]? = some v := by simpa using hP
    have hin' : i < ns.length := by rw [← hi.length]; simpa using hin
    obtain ⟨tk0, hx⟩ := hi.get i ns[i] (by simp [hin'])
    rw [hx] at hP'
    obtain rfl := Option.some.inj hP'
    refine wpAny_mono (turn ns[i] tk0 a ta dv h tk own F₁ N₁) (fun f s₂ p => ?_) fun _ _ e => e
    obtain ⟨rfl, h', tk', a', t', rfl, F', N'⟩ := p
    refine ⟨h', tk', _, news₁ ++ own, news₁, rfl, F', N', fun p hp => List.mem_append.mpr (.inl hp), fun p hp => List.mem_append.mpr (.inr hp), hadr, rfl, a', t', some (.int ns[i] tk0), ?_⟩
    funext z
    by_cases h1 : z = y
    · simp only [if_pos h1]
    · by_cases h2 : z = x
      · simp only [if_neg h1, if_pos h2]
      · simp only [if_neg h1, if_neg h2]
  · rintro m₁ nx h tk ⟨rfl, a, ta, dv, rfl⟩ F₁ N₁
    exact done a ta dv h tk F₁ N₁
end Mine
namespace Mine

/-- what a call of the text's def at f tells: for every frame, every ledger -/
abbrev Cl (prog : Program) (w : World) (K : Frag) (p : Program) (loose : List Str) (mean : ExcName → Option Value) (mg mb : Str → Option Value) (f : Addr) (news : List (Addr × Obj)) (n : Nat) (vs : List Value)
    (Ret : Heap → Addr → (Str → Option Value) → Shared → (Value → Shared → Prop) → Prop) : Prop :=
  ∀ (dp un : Nat) (gd : Option (List Code)) (cn : Str) (cs : Scope) (a : Addr) (ccd : Value) (cl : List (Str × Addr)) (outer : List Env) (A₀ : Around) (base h₀ : Heap) (L : Addr) (m : Str → Option Value) (s : Shared) (Q E : Value → Shared → Prop),
    Below A₀ base outer h₀ → Fr h₀ L s.heap m → K.In h₀ → News h₀ L s.heap news → Top p loose mean mg mb h₀ → cs.kind = .function →
    dp + n < recursionLimit → un + 8 * n < cLine → Ret h₀ L m s Q →
    wpAny (model prog w) (ktrTop dp un gd cn cs L a ccd cl outer) (call (.ref f) vs) Q E s

theorem use_cl {prog : Program} {w : World} {K : Frag} {p : Program} {loose : List Str} {mean : ExcName → Option Value} {mg mb : Str → Option Value} {f : Addr} {news : List (Addr × Obj)} {n : Nat} {vs : List Value}
    {Ret : Heap → Addr → (Str → Option Value) → Shared → (Value → Shared → Prop) → Prop} (C : Cl prog w K p loose mean mg mb f news n vs Ret)
    {dp un : Nat} {gd : Option (List Code)} {cn : Str} {cs : Scope} {a : Addr} {ccd : Value} {cl : List (Str × Addr)} {outer : List Env} {A₀ : Around} {base h₀ : Heap} {L : Addr} {m : Str → Option Value} {s : Shared} {Q E : Value → Shared → Prop}
    (B : Below A₀ base outer h₀) (F : Fr h₀ L s.heap m) (X : K.In h₀) (N : News h₀ L s.heap news) (T : Top p loose mean mg mb h₀) (hk : cs.kind = .function)
    (hd : dp + n < recursionLimit) (hu : un + 8 * n < cLine) (ret : Ret h₀ L m s Q) :
    wpAny (model prog w) (ktrTop dp un gd cn cs L a ccd cl outer) (call (.ref f) vs) Q E s := C _ _ _ _ _ _ _ _ _ _ _ _ _ _ _ _ _ B F X N T hk hd hu ret

/-- it gives back the int x and keeps nothing -/
abbrev RetI (news : List (Addr × Obj)) (x : Int) (h₀ : Heap) (L : Addr) (m : Str → Option Value) (s : Shared) (Q : Value → Shared → Prop) : Prop :=
  ∀ (t : Tok) (h' : Heap) (tk' : Nat), Fr h₀ L h' m → News h₀ L h' news → Q (.int x t) { s with heap := h', toks := tk' }
/-- it gives back the bool x -/
abbrev RetB (news : List (Addr × Obj)) (x : Bool) (h₀ : Heap) (L : Addr) (m : Str → Option Value) (s : Shared) (Q : Value → Shared → Prop) : Prop :=
  ∀ (t : Tok) (h' : Heap) (tk' : Nat), Fr h₀ L h' m → News h₀ L h' news → Q (.bool x) { s with heap := h', toks := tk' }

/-- it gives back a new tuple of three ints -/
abbrev RetT (news : List (Addr × Obj)) (x y z : Int) (h₀ : Heap) (L : Addr) (m : Str → Option Value) (s : Shared) (Q : Value → Shared → Prop) : Prop :=
  ∀ (D : Addr) (t1 t2 t3 : Tok) (c : Nat) (h' : Heap) (tk' : Nat), Fr h₀ L h' m → News h₀ L h' ((D, ({ cls := .type "tuple", data := .seq #[.int x t1, .int y t2, .int z t3] c } : Obj)) :: news) → AllLt D news →
    Q (.ref D) { s with heap := h', toks := tk' }

theorem item_anyL {prog : Program} {w : World} {A : Around} {E : Value → Shared → Prop} {s : Shared} {value slice : PySem.Expr} {l : Addr} {vs : List Value} {ns : List Int} {k : Int} {u : Tok} {Q : Value → Shared → Prop} (hl : s.heap.IsList l vs.toArray) (hi : IntsAre vs ns)
    (h0 : 0 ≤ k) (h1 : k < ns.length) (hfit : k < 2 ^ 63) (h : ∀ t, Q (.int (ns.getD k.toNat 0) t) s)
    (hs : subscripted slice false (.ref l) (.int k u) = operate [.ref l, .int k u] (getItem (.ref l) (.int k u)) := by with_unfolding_all rfl) :
    wpAny (model prog w) A (subscriptTail value slice (.ref l) (.int k u)) Q E s := by
  obtain ⟨t, hx⟩ := hi.get k.toNat _ (ints_getD h0 h1)
  exact tail_any hl.typeIs slot_list_getitem.lookup (wpAny_getItem_list hl h0 hfit (by simpa using hx) (h t)) hs
theorem any30 (x : Int) : ([4, 6, 9, 11] : List Int).any (fun y => y == x) = decide (x = 4 ∨ x = 6 ∨ x = 9 ∨ x = 11) := by
  rw [Bool.eq_iff_iff]
  simp only [List.any_cons, List.any_nil, Bool.or_false, Bool.or_eq_true, beq_iff_eq, decide_eq_true_eq]
  omega
theorem in30 {prog : Program} {w : World} {A : Around} {E : Value → Shared → Prop} {s : Shared} {a : Addr} {x : Int} {u t1 t2 t3 t4 : Tok} {Q : Value → Shared → Prop} (ht : IsTup s.heap a [Value.int 4 t1, .int 6 t2, .int 9 t3, .int 11 t4].toArray)
    (h : Q (.bool (decide (x = 4 ∨ x = 6 ∨ x = 9 ∨ x = 11))) s) : wpAny (model prog w) A (compareOp .In (.int x u) (.ref a)) Q E s := by
  refine in_tuple_ints (ns := [4, 6, 9, 11]) ht ?_ ?_
  · repeat constructor
  · rw [any30]; exact h

theorem retT {h₀ h' : Heap} {L : Addr} {m : Str → Option Value} {news news' : List (Addr × Obj)} {s : Shared} {Q : Value → Shared → Prop} {x y z x' y' z' : Int} {D : Addr} {t1 t2 t3 : Tok} {c tk' : Nat}
    (hret : RetT news x y z h₀ L m s Q) (F : Fr h₀ L h' m) (NM : News h₀ L h' news' ∧ (D, ({ cls := .type "tuple", data := .seq #[.int x' t1, .int y' t2, .int z' t3] c } : Obj)) ∈ news') (hn : ∀ p ∈ news, p ∈ news') (hl : AllLt D news)
    (e : x' = x ∧ y' = y ∧ z' = z) : Q (.ref D) { s with heap := h', toks := tk' } := by
  obtain ⟨rfl, rfl, rfl⟩ := e
  refine hret D t1 t2 t3 c h' tk' F (fun p hp => ?_) hl
  rcases List.mem_cons.mp hp with rfl | hp
  · exact NM.1 _ NM.2
  · exact NM.1 p (hn p hp)
theorem gen_toks {α : Type} {prog : Program} {w : World} {A : Around} {t : Sem α} {Q : α → Shared → Prop} {E : Value → Shared → Prop} {h : Heap} {g : Array GenState} {d : Drawn} {k : Nat} {o : OsState}
    (H : ∀ tk, wpAny (model prog w) A t Q E ⟨h, g, d, tk, o⟩) : wpAny (model prog w) A t Q E ⟨h, g, d, k, o⟩ := H k
end Mine
namespace Mine
section
variable {prog : Program} {w : World} {A : Around} {E : Value → Shared → Prop} {s : Shared} {h₀ : Heap} {L : Addr} {m : Str → Option Value} {env : Env}

theorem long_walks {I : Addr} (hh : A.handled = none) (a : Int) (n : Nat) : Walks prog w A I [I] [I] n (fun i v => ∃ t, v = .int (a + (i : Int)) t) (fun i h => IsLongIter h I (a + (i : Nat) * 1) ((n : Int) - (i : Nat)) 1) :=
  have W := Walks.longrange (prog := prog) (w := w) hh I a 1 n
  { sub := W.sub, frame := W.frame, done := W.done, self := W.self,
    item := fun i s Q E hi st hQ => W.item i s Q E hi st fun v h' tk hP => hQ v h' tk (by obtain ⟨t, rfl⟩ := hP; exact ⟨t, by rw [Int.mul_one]⟩) }

/-- the source of a comprehension is a range of any ints, by ones -/
def SrcAny (prog : Program) (w : World) (A : Around) (h₀ : Heap) (L : Addr) (m : Str → Option Value) (env : Env) (ct elt : Expr) (x : Str) (scope : Scope) (cl : List (Str × Addr)) (Fin : Shared → List Value → List (Addr × Obj) → Prop) (xv : Value) (s₁ : Shared) : Prop :=
  ∃ r a b t u v n news, xv = .ref r ∧ A.handled = none ∧ Fr h₀ L s₁.heap m ∧ News h₀ L s₁.heap news ∧ IsRange s₁.heap r a b 1 t u v ∧ Builtin.Range.rangeSize a b 1 = ((n : Nat) : Int) ∧ n ≤ sizeLine ∧
    ∀ g : Heap, LCt.CompRestT prog w A h₀ L m env ct elt x scope cl { s₁ with heap := g } (fun _ => True) (fun i v => ∃ t, v = .int (a + (i : Int)) t) (Fin { s₁ with heap := g }) n 0 [] news

theorem Assign_comp_any {ct elt iter : Expr} {x y : Str} {px py : Pos} {scope : Scope} {cl : List (Str × Addr)} {pos spos : Pos} {Q : Flow → Shared → Prop} (F₀ : Fr h₀ L s.heap m) (hLe : env.locals = L)
    (hsw : swapsWith (.ListComp elt [⟨.Name x px, iter, [ct], 0⟩] scope pos) (some (.Name y py)) spos.line env = pure true)
    (hclos : closureFor scope env = pure cl) (hcell : ∀ z ∈ scope.names, z.2 ≠ .cell) (hkind : scope.kind = .function)
    (hnames : ∀ z ∈ scope.names, z.2 = .local → scope.names.lookup z.1 = some .local) (hx : scope.names.lookup x = some .local)
    (hy : env.kindOf y = some .local) (hp : (env.scope.kind == .class || (env.scope.kind == .module && env.locals != env.globals)) = false)
    (h : wpAny (model prog w) A (eval iter env) (SrcAny prog w A h₀ L m env ct elt x scope cl (fun s₂ => LCg.FinA h₀ L m s₂ y Q)) E s)
    (hs : ∀ x, foldedSetIterable iter env x = pure x := by intro _; rfl) :
    wpAny (model prog w) A (exec (.Assign [.Name y py] (.ListComp elt [⟨.Name x px, iter, [ct], 0⟩] scope pos) spos) env) Q E s := by
  subst hLe
  rw [exec_Assign_Name_used _ _ _ _ hsw]
  refine wpAny_bind (wpAny_standAt (wpAny_bind ?_))
  show wpAny _ A (do let _ ← comprehension (.ListComp elt [⟨.Name x px, iter, [ct], 0⟩] scope pos) scope env _ (newList []) false (eval iter env) (some (assign (.Name y py) env))) _ _ s
  refine wpAny_bind (wpAny_mono (wpAny_comprehension_free (use := some (assign (.Name y py) env)) (Q := fun _ s' => Q .next s') rfl hs hclos hkind hnames
    (wpAny_mono h (fun xv s₁ h₁ => ?_) fun _ _ e => e)) (fun _ s' hq => wpAny_pure (wpAny_pure hq)) fun _ _ e => e)
  obtain ⟨r, a, b, t, u, v, n, news, rfl, hh, F, N, hr, hn, hsz, R⟩ := h₁
  have last : ∀ (D C : Addr) (h' : Heap) (tk : Nat) (m' : Str → Option Value) (ys : List Value) (news' : List (Addr × Obj)), Fr h₀ env.locals h' m → News h₀ env.locals h' ((D, LCg.lst ys) :: news') → LCg.Off1 D news' → h'.Ns C m' → h₀.get? C = none → h₀.get? D = none → C ≠ env.locals → D ≠ env.locals → C ≠ D →
      (∀ p ∈ news', p.1 ≠ C) → ∀ g : Heap, LCg.FinA h₀ env.locals m { s₁ with heap := g } y Q ys news' →
      wpAny (model prog w) A (assign (.Name y py) env (.ref D)) (fun _ s₂ => ∃ m', s₂.heap.Ns C m' ∧ ∀ h'', Heap.SameBut C s₂.heap h'' → Q .next { s₂ with heap := h'' }) E { s₁ with heap := h', toks := tk } := by
    intro D C h' tk m' ys news' F' N' o1 hnC hC₀ hD₀ hCL hDL hCD offC g fin
    refine wpAny_assign_Name (wpAny_storeName_local hy F'.ns (fun h₂ hn₂ hs₂ => ?_) hp)
    have hL₀ : h₀.get? env.locals = none := Heap.get?_none_of_le F'.above
    have F₂ : Fr h₀ env.locals h₂ (fun z => if z = y then some (.ref D) else m z) := ⟨hn₂, fun b o e => hs₂.extBut b o (fun q => by rw [q, hL₀] at e; cases e) (F'.keep b o e), F'.above⟩
    refine ⟨m', hnC.sameBut hs₂ hCL, fun h'' hs'' => fin D h'' _ (F₂.change hs'' hCL hC₀) (fun p hp => ?_) o1⟩
    have z : h₂.get? p.1 = some p.2 := hs₂.extBut _ _ (N' p hp).2.1 (N' p hp).1
    refine ⟨hs''.extBut _ _ ?_ z, (N' p hp).2⟩
    rcases List.mem_cons.mp hp with rfl | hp
    · exact Ne.symm hCD
    · exact offC p hp
  cases hsm : Builtin.Range.small a b 1 with
  | true =>
    refine wpAny_pyIter_range hr hsm ?_
    refine LCt.block_T (LCg.range_walks hh a n) hsz (fun i h st => ⟨_, st⟩) LCg.range_st hcell hkind hx (by show IsRangeIter _ _ _ _ _; rw [hn]; simpa using Heap.get?_push_size _ rfl) (fun b hb => ?_)
      (F.keeps fun _ _ e => Heap.get?_push_of_some _ e) (N.grown fun _ _ e => Heap.get?_push_of_some _ e) (Nat.ne_of_lt F.ns.lt) (next_is_new F) (fun p hp => Nat.ne_of_lt (Heap.lt_size (N p hp).1)) trivial (R _) ?_
    · rw [List.mem_singleton.mp hb]
      show s₁.heap.objs.size < (s₁.heap.push _).objs.size
      rw [Heap.size_push]; exact Nat.lt_succ_self _
    · intro D C h' tk m' ys news' F' N' o1 hnC hC₀ hD₀ hCL hDL hCD offC fin
      exact last D C h' tk m' ys news' F' N' o1 hnC hC₀ hD₀ hCL hDL hCD offC _ fin
  | false =>
    refine wpAny_pyIter_longrange hr hsm ?_
    refine LCt.block_T (long_walks hh a n) hsz (fun i h st => ⟨_, st⟩) (fun i h h' o nw st e e' _ _ _ => ?_) hcell hkind hx (by show IsLongIter _ _ _ _ _; rw [hn]; simpa using Heap.get?_push_size _ rfl) (fun b hb => ?_)
      (F.keeps fun _ _ e => Heap.get?_push_of_some _ e) (N.grown fun _ _ e => Heap.get?_push_of_some _ e) (Nat.ne_of_lt F.ns.lt) (next_is_new F) (fun p hp => Nat.ne_of_lt (Heap.lt_size (N p hp).1)) trivial (R _) ?_
    · have st' : h.get? _ = some _ := st
      show h'.get? _ = some _
      rw [e', ← e]; exact st'
    · rw [List.mem_singleton.mp hb]
      show s₁.heap.objs.size < (s₁.heap.push _).objs.size
      rw [Heap.size_push]; exact Nat.lt_succ_self _
    · intro D C h' tk m' ys news' F' N' o1 hnC hC₀ hD₀ hCL hDL hCD offC fin
      exact last D C h' tk m' ys news' F' N' o1 hnC hC₀ hD₀ hCL hDL hCD offC _ fin

theorem SrcAny.intro {ct elt : Expr} {x : Str} {scope : Scope} {cl : List (Str × Addr)} {Fin : Shared → List Value → List (Addr × Obj) → Prop} {r : Addr} {a b : Int} {t u v : Tok} {news : List (Addr × Obj)} {s₁ : Shared} (n : Nat)
    (hh : A.handled = none) (F : Fr h₀ L s₁.heap m) (N : News h₀ L s₁.heap news) (hr : IsRange s₁.heap r a b 1 t u v) (hn : b - a = (n : Int)) (hsz : n ≤ sizeLine)
    (h : ∀ g : Heap, LCt.CompRestT prog w A h₀ L m env ct elt x scope cl { s₁ with heap := g } (fun _ => True) (fun i v => ∃ t, v = .int (a + (i : Int)) t) (Fin { s₁ with heap := g }) n 0 [] news) :
    SrcAny prog w A h₀ L m env ct elt x scope cl Fin (.ref r) s₁ := by
  refine ⟨r, a, b, t, u, v, n, news, rfl, hh, F, N, hr, ?_, hsz, h⟩
  rw [rangeSize_nat a b]
  omega

theorem fold_filter (P : Int → Bool) (g : Int → Int) (a : Int) : ∀ (n : Nat) (ms : List Int), ms = (rangeKs a n).foldl (fun l k => if P k = true then l ++ [g k] else l) [] →
    (∀ z ∈ ms, ∃ k, a ≤ k ∧ k < a + (n : Int) ∧ P k = true ∧ z = g k) ∧ (∀ k, a ≤ k → k < a + (n : Int) → P k = true → g k ∈ ms) := by
  have gen : ∀ (ks l : List Int), (∀ z, z ∈ ks.foldl (fun l k => if P k = true then l ++ [g k] else l) l ↔ z ∈ l ∨ ∃ k ∈ ks, P k = true ∧ z = g k) := by
    intro ks
    induction ks with
    | nil => intro l z; simp
    | cons k r ih =>
      intro l z
      rw [List.foldl_cons, ih]
      by_cases hP : P k = true
      · rw [if_pos hP]
        simp only [List.mem_append, List.mem_cons, List.not_mem_nil, or_false]
        constructor
        · rintro ((h | h) | ⟨k', h1, h2, h3⟩)
          · exact .inl h
          · exact .inr ⟨k, .inl rfl, hP, h⟩
          · exact .inr ⟨k', .inr h1, h2, h3⟩
        · rintro (h | ⟨k', h1 | h1, h2, h3⟩)
          · exact .inl (.inl h)
          · exact .inl (.inr (h1 ▸ h3))
          · exact .inr ⟨k', h1, h2, h3⟩
      · rw [if_neg hP]
        simp only [List.mem_cons]
        constructor
        · rintro (h | ⟨k', h1, h2, h3⟩)
          · exact .inl h
          · exact .inr ⟨k', .inr h1, h2, h3⟩
        · rintro (h | ⟨k', h1 | h1, h2, h3⟩)
          · exact .inl h
          · exact absurd (h1 ▸ h2) hP
          · exact .inr ⟨k', h1, h2, h3⟩
  intro n ms hms
  subst hms
  refine ⟨fun z hz => ?_, fun k h1 h2 h3 => ?_⟩
  · rcases (gen _ _ z).mp hz with h | ⟨k, hk, hP, hz⟩
    · cases h
    · exact ⟨k, (mem_rangeKs hk).1, (mem_rangeKs hk).2, hP, hz⟩
  · refine (gen _ _ _).mpr (.inr ⟨k, ?_, h3, rfl⟩)
    have : (k - a).toNat < n := by omega
    have e : (rangeKs a n)[(k - a).toNat]? = some k := by simp [rangeKs, this]; omega
    exact List.mem_of_getElem? e

theorem comp_filter {ct elt : Expr} {x : Str} {scope : Scope} {cl : List (Str × Addr)} {S : List (Addr × Obj) → Prop} {Fin : List Value → List (Addr × Obj) → Prop} {news : List (Addr × Obj)} {n : Nat} {a : Int} (P : Int → Bool) (g : Int → Int) (hS : S news)
    (turn : ∀ k t I oI C oC D m₂ ys h tk (E' : Value → Shared → Prop), a ≤ k → k < a + (n : Int) → LCg.NsObj oC m₂ → m₂ x = some (.int k t) → Fr h₀ L h m → News h₀ L h ((I, oI) :: (C, oC) :: (D, LCg.lst ys) :: news) → LCg.Off3 I C D news → ((@Ne Nat I C) ∧ (@Ne Nat I D) ∧ (@Ne Nat C D)) →
      wpAny (model prog w) A (isTrue ct (compEnvC scope cl C env) (eval ct (compEnvC scope cl C env))) (fun b s' => if b = true then
          wpAny (model prog w) A (eval elt (compEnvC scope cl C env)) (fun y s₂ => ∃ (h' : Heap) (tk' : Nat) (t' : Tok), y = .int (g k) t' ∧ s₂ = { s with heap := h', toks := tk' } ∧ P k = true ∧ Fr h₀ L h' m ∧ News h₀ L h' ((I, oI) :: (C, oC) :: (D, LCg.lst ys) :: news)) E' s'
        else ∃ (h' : Heap) (tk' : Nat), s' = { s with heap := h', toks := tk' } ∧ P k = false ∧ Fr h₀ L h' m ∧ News h₀ L h' ((I, oI) :: (C, oC) :: (D, LCg.lst ys) :: news)) E' { s with heap := h, toks := tk })
    (fin : ∀ ys ms, IntsAre ys ms → ms.length ≤ n → (∀ z ∈ ms, ∃ k, a ≤ k ∧ k < a + (n : Int) ∧ P k = true ∧ z = g k) → (∀ k, a ≤ k → k < a + (n : Int) → P k = true → g k ∈ ms) → Fin ys news) :
    LCt.CompRestT prog w A h₀ L m env ct elt x scope cl s S (fun i v => ∃ t, v = .int (a + (i : Int)) t) Fin n 0 [] news := by
  refine kci_range (fun l k => if P k = true then l ++ [g k] else l) (fun k t I oI C oC D m₂ ys l h tk E' h1 h2 hI hC hx F N off ne _ => ?_) (fun ys hi hl => ?_) (fun l k => ?_)
  · refine wpAny_mono (turn k t I oI C oC D m₂ ys h tk E' h1 h2 hC hx F N off ne) (fun b s' hq => ?_) fun _ _ e => e
    cases b with
    | true =>
      simp only [if_true] at hq ⊢
      refine wpAny_mono hq (fun y s₂ hr => ?_) fun _ _ e => e
      obtain ⟨h', tk', t', rfl, rfl, hP, F', N'⟩ := hr
      exact ⟨h', tk', news, rfl, F', N', off, hS, rfl, g k, t', rfl, by rw [if_pos hP]⟩
    | false =>
      simp only [Bool.false_eq_true, if_false] at hq ⊢
      obtain ⟨h', tk', rfl, hP, F', N'⟩ := hq
      exact ⟨h', tk', news, rfl, F', N', off, hS, rfl, by rw [if_neg (by rw [hP]; exact Bool.false_ne_true)]⟩
  · have q := fold_filter P g a n _ rfl
    refine fin ys _ hi ?_ q.1 q.2
    rw [← hi.length]; exact hl
  · show (if P k = true then l ++ [g k] else l).length ≤ l.length + 1
    split
    · rw [List.length_append]; exact Nat.le_refl _
    · exact Nat.le_succ _
end
end Mine
namespace Mine
theorem item_memL {prog : Program} {w : World} {A : Around} {E : Value → Shared → Prop} {s : Shared} {value slice : PySem.Expr} {l : Addr} {vs : List Value} {ns : List Int} {k : Int} {u : Tok} {Q : Value → Shared → Prop} {R : Int → Prop} (hl : s.heap.IsList l vs.toArray) (hi : IntsAre vs ns) (hR : ∀ z ∈ ns, R z)
    (h0 : 0 ≤ k) (h1 : k < ns.length) (hfit : k < 2 ^ 63) (h : ∀ y t, R y → Q (.int y t) s)
    (hs : subscripted slice false (.ref l) (.int k u) = operate [.ref l, .int k u] (getItem (.ref l) (.int k u)) := by with_unfolding_all rfl) :
    wpAny (model prog w) A (subscriptTail value slice (.ref l) (.int k u)) Q E s := by
  have hm : ns[k.toNat]? = some (ns.getD k.toNat 0) := ints_getD h0 h1
  obtain ⟨t, hx⟩ := hi.get k.toNat _ hm
  exact tail_any hl.typeIs slot_list_getitem.lookup (wpAny_getItem_list hl h0 hfit (by simpa using hx) (h _ t (hR _ (List.mem_of_getElem? hm)))) hs
theorem fm_lo {a b : Int} (h : 0 < b) : 0 ≤ a.fmod b := by rw [Int.fmod_eq_emod_of_nonneg _ (Int.le_of_lt h)]; exact Int.emod_nonneg _ (Int.ne_of_gt h)
theorem fm_hi {a b : Int} (h : 0 < b) : a.fmod b < b := by rw [Int.fmod_eq_emod_of_nonneg _ (Int.le_of_lt h)]; exact Int.emod_lt_of_pos _ h
end Mine
namespace Mine
theorem cut_if {M : Model} {A : Around} {E : Value → Shared → Prop} {Q : Flow → Shared → Prop} {s : Shared} {st : Stmt} {rest : List Stmt} {env : Env} {h₀ : Heap} {L : Addr} {m : Str → Option Value} {news : List (Addr × Obj)} (F : Fr h₀ L s.heap m) (N : News h₀ L s.heap news)
    (h1 : wpAny M A (exec st env) (fun f s' => f = .next ∧ ∃ (h' : Heap) (tk' : Nat), s' = { s with heap := h', toks := tk' } ∧ Fr h₀ L h' m ∧ News h₀ L h' news) E s)
    (h2 : ∀ (h' : Heap) (tk' : Nat), Fr h₀ L h' m → News h₀ L h' news → wpAny M A (execs rest env) Q E { s with heap := h', toks := tk' }) :
    wpAny M A (execs (st :: rest) env) Q E s := by
  refine wpAny_execs_cons (wpAny_mono h1 (fun f s' p => ?_) fun _ _ e => e)
  obtain ⟨rfl, h', tk', rfl, F', N'⟩ := p
  exact h2 h' tk' F' N'
theorem cut_year {M : Model} {A : Around} {E : Value → Shared → Prop} {Q : Flow → Shared → Prop} {s : Shared} {st : Stmt} {rest : List Stmt} {env : Env} {h₀ : Heap} {L : Addr} {m : Str → Option Value} {news : List (Addr × Obj)} (x : Str) (R : Int → Prop) (F : Fr h₀ L s.heap m) (N : News h₀ L s.heap news)
    (h1 : wpAny M A (exec st env) (fun f s' => f = .next ∧ ∃ (h' : Heap) (tk' : Nat) (y : Int) (t : Tok) (m' : Str → Option Value), s' = { s with heap := h', toks := tk' } ∧ R y ∧ m' x = some (.int y t) ∧ (∀ z, z ≠ x → m' z = m z) ∧ Fr h₀ L h' m' ∧ News h₀ L h' news) E s)
    (h2 : ∀ (h' : Heap) (tk' : Nat) (y : Int) (t : Tok), R y → Fr h₀ L h' (fun z => if z = x then some (.int y t) else m z) → News h₀ L h' news → wpAny M A (execs rest env) Q E { s with heap := h', toks := tk' }) :
    wpAny M A (execs (st :: rest) env) Q E s := by
  refine wpAny_execs_cons (wpAny_mono h1 (fun f s' p => ?_) fun _ _ e => e)
  obtain ⟨rfl, h', tk', y, t, m', rfl, hR, hx, hz, F', N'⟩ := p
  refine h2 h' tk' y t hR ?_ N'
  have e : m' = fun z => if z = x then some (.int y t) else m z := by
    funext z
    by_cases h : z = x
    · rw [if_pos h, h, hx]
    · rw [if_neg h, hz z h]
  rw [← e]; exact F'
end Mine
namespace Mine
open PySem.Calls PyProof.V PySem.Spec
/-- an exception under way: its object whole, and its traceback -/
def Tr (B : Heap) (l : List Env) (e : Addr) (oe : Obj) (fl : Value) (h : Heap) : Prop :=
  B.StaysIn h ∧ B.get? e = none ∧ h.FunFrames B l ∧ h.get? e = some oe ∧
    ∃ T oT ts vs, oe.data = .fields vs ∧ vs[1]? = some (.ref T) ∧ B.get? T = none ∧ T ≠ e ∧ h.get? T = some oT ∧ oT.data = .fields ts ∧ ts[3]? = some fl
theorem Tr.traced {B h : Heap} {l : List Env} {e : Addr} {oe : Obj} {fl a0 cls : Value} (x : Tr B l e oe fl h) (hc : oe.cls = cls) (h0 : ∀ vs, oe.data = .fields vs → vs[0]? = some a0) : h.TracedAtW B e cls a0 fl := by
  obtain ⟨_, _, _, he, T, oT, ts, vs, hd, h1, hnT, hTe, hT, hdT, h3⟩ := x
  exact ⟨oe, vs, T, oT, ts, he, ⟨hc, h0 vs hd⟩, hd, h1, hnT, hTe, hT, hdT, h3⟩
section
variable {M : Model} {A : Around} {E : Value → Shared → Prop} {s : Shared}
theorem noteX {B : Heap} {env : Env} {outer : List Env} {L e : Addr} {oe : Obj} {vs : Array Value} {Q : Unit → Shared → Prop}
    (hfr : A.frames = some (env :: outer)) (hl : s.heap.FunFrames B (env :: outer)) (hf : env.frame = some L) (he : s.heap.get? e = some oe) (hkb : B.StaysIn s.heap) (hen : B.get? e = none)
    (hd : oe.data = .fields vs) (h1 : vs[1]? = some .none) (h : ∀ h' T, Tr B (env :: outer) e (oe.mapFields (·.setIfInBounds 1 (Value.ref T))) (rawInt L) h' → s.heap.UpToSlots h' → Q () { s with heap := h' }) :
    wpAny M A (noteFrame (.ref e) env) Q E s := by
  have hsz : 1 < vs.size := (Array.getElem?_eq_some_iff.mp h1).1
  unfold noteFrame
  simp only [hf]
  refine wpAny_bind (wpAny_field he hd h1 ?_)
  rw [if_neg (by decide)]
  have hene : e ∉ (env :: outer).filterMap (·.frame) := fun hm => by
    obtain ⟨_, o, ho, hnf⟩ := hl.mem hm
    rw [he] at ho; injection ho with ho; subst ho; exact hnf vs hd
  refine wpAny_bind (wpAny_frameOf_fun hfr hl hf fun h₁ hs₁ => ?_)
  refine wpAny_bind (wpAny_entryPlaceOf fun pl hpl => ?_)
  unfold EntryCells.newEntry newFields
  refine wpAny_bind (wpAny_newObj_type ?_ (hpl.sizeOk5 _ _ _ _ _))
  have he₁ : h₁.get? e = some oe := (hs₁.2.1 e hene).trans he
  have kb₁ : B.StaysIn h₁ := fun b o hbo => (hs₁.2.1 b fun hm => by rw [(hl.mem hm).1] at hbo; cases hbo).trans (hkb b o hbo)
  refine wpAny_setField (Heap.get?_push_of_some (h := h₁) _ he₁) hd hsz ?_
  have hTe : h₁.objs.size ≠ e := Nat.ne_of_gt (Heap.lt_size he₁)
  have hd₃ := Obj.data_mapFields hd (·.setIfInBounds 1 (Value.ref h₁.objs.size))
  have noRecord : ∀ b o, s.heap.get? b = some o → (∀ vs, o.data ≠ .fields vs) → b ≠ e := fun b o hb hnf q => by
    rw [q, he] at hb; injection hb with hb; subst hb; exact hnf vs hd
  have keep : ∀ (x : Obj) b o, b ≠ e → h₁.get? b = some o → ((h₁.push x).update e (Obj.mapFields (·.setIfInBounds 1 (Value.ref h₁.objs.size)))).get? b = some o := fun x b o hbe hb => by
    rw [Heap.get?_update_other _ _ (Ne.symm hbe)]
    exact Heap.get?_push_of_some _ hb
  refine h _ h₁.objs.size ⟨fun b o hbo => keep _ b o (fun q => by rw [q, hen] at hbo; cases hbo) (kb₁ b o hbo), hen, hl.of_keeps fun b o hb hnf => ?_, Heap.get?_update_self _ (Heap.get?_push_of_some (h := h₁) _ he₁) (Obj.isFreed_of_fields hd₃), h₁.objs.size, _, _, _, hd₃, by simp [hsz], kb₁.fresh, hTe,
    (Heap.get?_update_other _ _ (Ne.symm hTe)).trans (Heap.get?_push_size h₁ rfl), rfl, by first | (simp; done) | (rcases hpl with rfl | ⟨_, _, _, _, _, _, _, rfl⟩ <;> simp)⟩ fun b o hb hnf => ?_
  · obtain ⟨sl, hs⟩ := hs₁.2.2 b o hb
    exact ⟨_, keep _ b _ (noRecord b o hb hnf) hs, rfl⟩
  · obtain ⟨sl, hs⟩ := hs₁.2.2 b o hb
    exact ⟨sl, keep _ b _ (noRecord b o hb hnf) hs⟩
theorem flightX {B : Heap} {l : List Env} {e : Addr} {oe : Obj} {fl : Value} {f : Option Addr} {Q : Unit → Shared → Prop} (x : Tr B l e oe fl s.heap)
    (h : ∀ h', Tr B l e oe (f.elim .none fun f => rawInt f) h' → s.heap.UpToSlots h' → Q () { s with heap := h' }) : wpAny M A (setFlight (.ref e) f) Q E s := by
  obtain ⟨hkb, hen, hl, he, T, oT, ts, vs, hd, h1, hnT, hTe, hT, hdT, h3⟩ := x
  have hsz3 : 3 < ts.size := (Array.getElem?_eq_some_iff.mp h3).1
  have other : ∀ b, b ≠ T → (s.heap.update T (Obj.mapFields (·.setIfInBounds 3 (f.elim Value.none fun f => rawInt f)))).get? b = s.heap.get? b :=
    fun b hb => Heap.get?_update_other _ _ (Ne.symm hb)
  have noRecord : ∀ b o, s.heap.get? b = some o → (∀ vs, o.data ≠ .fields vs) → b ≠ T := fun b o hb hnf q => by
    rw [q, hT] at hb; injection hb with hb; subst hb; exact hnf ts hdT
  unfold setFlight
  refine wpAny_bind (wpAny_field he hd h1 ?_)
  rw [if_pos (show (Value.ref T != Value.none) = true from by simp)]
  refine wpAny_setField hT hdT hsz3 (h _ ⟨fun b o hbo => (other b fun q => by rw [q, hnT] at hbo; cases hbo).trans (hkb b o hbo), hen,
    hl.of_keeps fun b o hb hnf => ⟨o, (other b (noRecord b o hb hnf)).trans hb, rfl⟩, (other e (Ne.symm hTe)).trans he, T, _, _, vs, hd, h1, hnT, hTe,
    Heap.get?_update_self _ hT (Obj.isFreed_of_fields (Obj.data_mapFields hdT _)), Obj.data_mapFields hdT _, by simp [hsz3]⟩ fun b o hb hnf => ⟨o.slots, (other b (noRecord b o hb hnf)).trans hb⟩)
end
section
variable {prog : Program} {w : World} {A₀ : Around} {E : Value → Shared → Prop} {s' : Shared} {base g g₀ h : Heap} {outer : List Env} {L a e : Addr} {m : Str → Option Value} {name : Str} {scope : Scope} {cd : Value}
  {n : Str} {b₀ : Stmt} {suite : List Stmt} {pos np : Pos} {rest : List ExceptHandler} {Q : Flow → Shared → Prop} {news : List (Addr × Obj)} {KF : Frag}
  {p : Program} {loose : List Str} {mean : ExcName → Option Value} {mg mb : Str → Option Value} {x : Str} {X T' : String}
/-- an exception made in this very frame, whatever lies beneath it, is caught by a clause that names it -/
theorem caught_first (hx : Heap.NewExc h s'.heap e X) (F : Fr g L h m) (N : News g L h news) (K : Below A₀ base outer g) (XB : KF.In base) (TB : Top p loose mean mg mb base)
    (ex : nsIn KF mainGlobals x = some none) (hv : bootBuiltins x = some (.type T')) (hn' : x ≠ "__name__")
    (hexc : isSubtype (.type T') (.type "BaseException") = pure true) (hnt : isSubtype (.type ((Manifest.find? T').elim "type" fun y => y.metatype)) (.type "tuple") = pure false) (hsub : isSubtype (.type X) (.type T') = pure true)
    (k : ∀ h' g' tk oe vs, oe.cls = .type X → oe.data = .fields vs → vs[2]? = some .none → (∀ x, g'.UpToSlots x → g.UpToSlots x) → Fr g' L h' (fun y => if y = n then some (.ref e) else m y) → News g' L h' ((e, oe) :: news) → Below A₀ base outer g' → KF.In g' → Top p loose mean mg mb g' →
      wpAny (model prog w) ((A₀.deeper (envOf name scope L a cd)).mark (some (.ref e))) (execs (b₀ :: suite) (envOf name scope L a cd))
        (fun f s₄ => wpAny (model prog w) (A₀.deeper (envOf name scope L a cd)) (do bindName (envOf name scope L a cd) n .none; unbindBehindTheSuite (envOf name scope L a cd) n pos) (fun _ s₅ => Q f s₅) E s₄)
        (AsSuiteRaised (model prog w) ((A₀.deeper (envOf name scope L a cd)).mark (some (.ref e))) (envOf name scope L a cd) n pos (notedBy (model prog w) ((A₀.deeper (envOf name scope L a cd)).mark (some (.ref e))) (envOf name scope L a cd) (cameBackBy (model prog w) (A₀.deeper (envOf name scope L a cd)) (envOf name scope L a cd) E)))
        { s' with heap := h', toks := tk })
    (hk : scope.kind = .function := by rfl) (hlo : (envOf name scope L a cd).kindOf n = some .local := by rfl) (hxk : (envOf name scope L a cd).kindOf x = some .globalImplicit := by rfl) (hd : (x == ("__debug__" : Str)) = false := by decide) :
    wpAny (model prog w) (A₀.deeper (envOf name scope L a cd)) (noteFrame (.ref e) (envOf name scope L a cd))
      (fun _ s₂ => wpAny (model prog w) (A₀.deeper (envOf name scope L a cd)) (setFlight (.ref e) none) (fun _ s₃ =>
        wpAny (model prog w) (A₀.deeper (envOf name scope L a cd)) (handleBy (.ref e) (envOf name scope L a cd) (.ExceptHandler (some (.Name x np)) (some n) (b₀ :: suite) pos :: rest)) Q E s₃) E s₂) E s' := by
  have K' := K.push (name := name) (a := a) (cd := cd) F hk
  have hin : ∀ env ∈ (envOf name scope L a cd :: outer), ∀ b, env.frame = some b → b ∈ (envOf name scope L a cd :: outer).filterMap (·.frame) := fun env he b hb => List.mem_filterMap.mpr ⟨env, he, hb⟩
  have st : base.StaysIn (hideAll h ((envOf name scope L a cd :: outer).filterMap (·.frame))) := fun b o q => hideAll_get _ (K'.stays b o q) fun hm => by
    rw [(K'.frames.mem hm).1] at q; cases q
  have hBG : ∀ b o, h.get? b = some o → b ∉ (envOf name scope L a cd :: outer).filterMap (·.frame) → (hideAll h ((envOf name scope L a cd :: outer).filterMap (·.frame))).get? b = some o := fun b o q nm => hideAll_get _ q nm
  have hl : ∀ q ∈ news, (hideAll h ((envOf name scope L a cd :: outer).filterMap (·.frame))).get? q.1 = some q.2 ∧ g.get? q.1 = none := fun q hq => by
    refine ⟨hideAll_get _ (N q hq).1 fun hm => ?_, (N q hq).2.2⟩
    obtain ⟨env, he, hf⟩ := List.mem_filterMap.mp hm
    rcases List.mem_cons.mp he with rfl | he
    · exact (N q hq).2.1 (Option.some.inj hf).symm
    · obtain ⟨o, ho, _⟩ := (K.frames.mem (List.mem_filterMap.mpr ⟨env, he, hf⟩)).2
      rw [(N q hq).2.2] at ho; cases ho
  obtain ⟨ob, tp, he, hcls, hd'⟩ := hx.there
  have hen : (hideAll h ((envOf name scope L a cd :: outer).filterMap (·.frame))).get? e = none := by
    cases q : (hideAll h ((envOf name scope L a cd :: outer).filterMap (·.frame))).get? e with
    | none => rfl
    | some o => have := of_hideAll _ q; rw [hx.new] at this; cases this
  have hff := funFrames_hide K'.frames hin
  have hL : (hideAll h ((envOf name scope L a cd :: outer).filterMap (·.frame))).get? L = none := by
    obtain ⟨_, ⟨L', _, hf, hn', _⟩, _⟩ := hff
    obtain rfl : L = L' := Option.some.inj hf
    exact hn'
  have hsm : h.UpToSlots s'.heap := Heap.UpToSlots.of_keeps hx.keeps
  have hge : g.get? e = none := by
    cases q : g.get? e with
    | none => rfl
    | some o => have := F.keep e o q; rw [hx.new] at this; cases this
  have hLe : e ≠ L := fun q => by
    obtain ⟨o, _, _, ho, _⟩ := F.ns
    rw [← q, hx.new] at ho; cases ho
  refine noteX K'.stack (hff.of_keeps fun b o hb _ => ⟨o, hx.keeps b o hb, rfl⟩) rfl he (fun b o hb => hx.keeps b o (of_hideAll _ hb)) hen hd' rfl fun h₄ T x₄ hsm₄ => ?_
  refine flightX (f := none) x₄ fun h₅ x₅ hsm₅' => ?_
  have hsm₅ := Heap.UpToSlots.trans hsm₄ hsm₅'
  obtain ⟨g₅, T₅, F₅, K₅⟩ := kts_ground K F hBG x₅.1 (hsm.trans hsm₅)
  have X₅ : KF.In g₅ := XB.keeps K₅.stays
  have P₅ : TopRead p loose mg mb g₅ := topRead_of (TB.keeps K₅.stays)
  have hcl : (ob.mapFields (·.setIfInBounds 1 (Value.ref T))).cls = .type X := (Obj.cls_mapFields _ _).trans hcls
  refine wpAny_handleBy_builtin_as (X := X) (T := T') (b := true) hexc hnt hsub (name_B F₅ X₅ P₅ ex hv hn' ⟨rfl, ⟨_, x₅.2.2.2.1, hcl⟩, ?_⟩ hk hxk hd)
  refine flightX (f := none) x₅ fun h₆ x₆ hsm₆ => ?_
  obtain ⟨g₆, T₆, F₆, K₆⟩ := kts_ground K F hBG x₆.1 ((hsm.trans hsm₅).trans hsm₆)
  have Nl : News g₆ L h₆ ((e, ob.mapFields (·.setIfInBounds 1 (Value.ref T))) :: news) := fun q hq => by
    rcases List.mem_cons.mp hq with rfl | hq
    · exact ⟨x₆.2.2.2.1, hLe, T₆.none_ _ hge⟩
    · exact ⟨x₆.1 _ _ (hl q hq).1, (fun z => by have := (hl q hq).1; rw [z, hL] at this; cases this), T₆.none_ _ (hl q hq).2⟩
  exact stN F₆ Nl (fun h₇ F₇ N₇ => k h₇ g₆ _ _ _ hcl (Obj.data_mapFields hd' _) (by rfl) (fun x q => Heap.UpToSlots.trans (fun b o e _ => T₆.up e) q) F₇ N₇ K₆ (XB.keeps K₆.stays) (TB.keeps K₆.stays)) hk hlo
end
end Mine
namespace Mine
open PySem.Calls PyProof.V PySem.Spec
section
variable {prog : Program} {w : World} {A : Around} {E : Value → Shared → Prop} {s : Shared} {env : Env}
theorem entry_unchain : entryFor table "proto.unchain" = some Builtin.«proto.unchain» := entryFor_of_fast (by kernel_rfl)
theorem raiseNew_from {α : Type} {Q : α → Shared → Prop} {e b : Addr} {oe ob : Obj} {vs ws : Array Value} (hh : A.handled = some (.ref b)) (heb : e ≠ b) (he : s.heap.get? e = some oe) (hd : oe.data = .fields ws) (hsz : 2 < ws.size)
    (hb : s.heap.get? b = some ob) (hbd : ob.data = .fields vs) (hb2 : vs[2]? = some .none) (hE : E (.ref e) { s with heap := s.heap.update e (Obj.mapFields (·.setIfInBounds 2 (Value.ref b))) }) :
    wpAny (model prog w) A (raiseNew (.ref e) : Sem α) Q E s := by
  unfold raiseNew
  refine wpAny_bind (wpAny_handled ?_)
  rw [hh]
  have hne : (Value.ref b != Value.ref e) = true := by simp [Ne.symm heb]
  dsimp only
  rw [if_pos hne]
  refine wpAny_bind (wpAny_holding (wpAny_runValue (codeAny_builtin entry_unchain ?_)))
  unfold Builtin.«proto.unchain»
  dsimp only
  refine wpAny_bind (wpAny_field hb hbd hb2 ?_)
  rw [if_pos (by decide)]
  refine wpAny_bind (wpAny_pure (wpAny_pure ?_))
  obtain ⟨c, d, dt, sl⟩ := oe
  simp only at hd
  subst hd
  refine wpAny_bind ?_
  unfold updateField
  refine wpAny_bind (wpAny_load he ?_)
  dsimp only
  rw [if_pos hsz]
  refine wpAny_update he (wpAny_throw hE)
set_option maxHeartbeats 4000000 in
theorem raiseStmt_from {cls X : String} (G : ExcRaiseFacts cls) (GX : ExcRaiseFacts X) {b : Addr} (hh : A.handled = some (.ref b)) {x c : Sem Value} {Q : Flow → Shared → Prop}
    (h : wpAny (model prog w) A x (fun v s₁ => ∃ e t, v = .ref e ∧ wpAny (model prog w) A c (fun cv s₂ => cv = .ref b ∧ s₂.heap.get? e = some { cls := .type cls, data := .fields #[.ref t, .none, .none, .none, .bool false, .none] } ∧ e ≠ b ∧
      ∃ ob vs, s₂.heap.get? b = some ob ∧ ob.cls = .type X ∧ ob.data = .fields vs ∧ vs[2]? = some .none ∧
      ∀ h', h'.get? e = some { cls := .type cls, data := .fields #[.ref t, .none, .ref b, .ref b, .bool true, .none] } → (∀ a o, a ≠ e → s₂.heap.get? a = some o → h'.get? a = some o) → E (.ref e) { s₂ with heap := h' }) E s₁) E s) :
    wpAny (model prog w) A (raiseStmt env (some x) (some c)) Q E s := by
  unfold raiseStmt
  refine wpAny_bind (wpAny_mono h (fun v s₁ h₁ => ?_) fun _ _ x => x)
  obtain ⟨e, t, rfl, h₁⟩ := h₁
  refine wpAny_bind (wpAny_holding (wpAny_mono h₁ (fun cv s₂ h₂ => wpAny_bind (wpAny_pure ?_)) fun _ _ x => x))
  obtain ⟨rfl, he, heb, ob, vs, hb, hbc, hbd, hb2, hE⟩ := h₂
  obtain ⟨hp, g, d, tk, os⟩ := s₂
  obtain ⟨oc, odd, oda, osl⟩ := ob
  simp only at hbc hbd
  subst hbc hbd
  have hsub := G.isExc
  have hmeta := G.plainMeta
  have hsubX := GX.isExc
  have hmetaX := GX.plainMeta
  repeat (first | refine wpAny_loadPart he ?_ | wp_step)
  have q1 : (hp.update e (Obj.mapFields fun x => x.setIfInBounds 3 (Value.ref b))).get? e = some { cls := .type cls, data := .fields #[.ref t, .none, .none, .ref b, .bool false, .none] } := Heap.get?_update_self _ he rfl
  have q2 : ((hp.update e (Obj.mapFields fun x => x.setIfInBounds 3 (Value.ref b))).update e (Obj.mapFields fun x => x.setIfInBounds 4 (Value.bool true))).get? e = some { cls := .type cls, data := .fields #[.ref t, .none, .none, .ref b, .bool true, .none] } := Heap.get?_update_self _ q1 rfl
  refine raiseNew_from hh heb q2 rfl (show 2 < 6 by decide) ((Heap.get?_update_other _ _ heb).trans ((Heap.get?_update_other _ _ heb).trans hb)) rfl hb2 (hE _ (Heap.get?_update_self _ q2 rfl) fun a o hae ho => ?_)
  exact (Heap.get?_update_other _ _ (Ne.symm hae)).trans ((Heap.get?_update_other _ _ (Ne.symm hae)).trans ((Heap.get?_update_other _ _ (Ne.symm hae)).trans ho))
theorem Raise_from {cls newId initId X : String} (Fc : ExcCallFacts cls newId initId) (G : ExcRaiseFacts cls) (GX : ExcRaiseFacts X) {b : Addr} (hh : A.handled = some (.ref b)) {x : Str} {np cpos pos : Pos} {args : List Expr} {cause : Expr} {Q : Flow → Shared → Prop}
    (hplain : (backTo cpos (starEach args env)).any (·.1) = false)
    (h : wpAny (model prog w) A (eval (.Name x np) env) (fun f s₁ => f = .type cls ∧ wpAny (model prog w) A (evalArgs (.type cls) true (backTo cpos (starEach args env)) [])
      (fun a s₂ => a.kw = [] ∧ a.pos.length ≤ sizeLine ∧ ∀ h' e, Heap.MadeExc s₂.heap h' e cls a.pos → wpAny (model prog w) A (eval cause env) (fun cv s₃ => cv = .ref b ∧ s₃ = { s₂ with heap := h' } ∧
        ∃ ob vs, s₂.heap.get? b = some ob ∧ ob.cls = .type X ∧ ob.data = .fields vs ∧ vs[2]? = some .none ∧
        ∀ t h'', h''.get? e = some { cls := .type cls, data := .fields #[.ref t, .none, .ref b, .ref b, .bool true, .none] } → (∀ a o, s₂.heap.get? a = some o → h''.get? a = some o) → s₂.heap.get? e = none → E (.ref e) { s₂ with heap := h'' }) E { s₂ with heap := h' }) E s₁) E s) :
    wpAny (model prog w) A (exec (.Raise (some (.Call (.Name x np) args [] cpos)) (some cause) pos) env) Q E s := by
  rw [arm_exec_Raise]
  show wpAny (model prog w) A (do standAt pos; raiseStmt env (some (do let v ← eval (.Call (.Name x np) args [] cpos) env; standAt pos; pure v)) (some (do let v ← eval cause env; standAt pos; pure v))) Q E s
  refine wpAny_bind (wpAny_standAt (raiseStmt_from G GX hh (wpAny_bind (wpAny_Call_ofName (wpAny_mono h (fun f s₁ h₁ => ?_) fun _ _ x => x)))))
  obtain ⟨rfl, h₁⟩ := h₁
  refine callWith_excType hplain (wpAny_mono h₁ (fun a s₂ h₂ => ?_) fun _ _ x => x)
  obtain ⟨apos, akw⟩ := a
  obtain ⟨hkw, hlen, h₂⟩ := h₂
  obtain rfl : akw = [] := hkw
  obtain ⟨hp, g, d, tk, os⟩ := s₂
  refine wpAny_call_exc Fc (hrest := hlen) fun h' e hm => ?_
  obtain ⟨t, ht, _, _⟩ := hm.there
  refine wpAny_bind (wpAny_standAt (wpAny_pure ?_))
  refine ⟨e, t, rfl, wpAny_bind (wpAny_mono (h₂ h' e hm) (fun cv s₃ h₃ => ?_) fun _ _ x => x)⟩
  obtain ⟨rfl, rfl, ob, vs, hb, hbc, hbd, hb2, hE⟩ := h₃
  have hne : e ≠ b := fun q => by have := hm.new; rw [q] at this; rw [this] at hb; cases hb
  refine wpAny_bind (wpAny_standAt (wpAny_pure ?_))
  exact ⟨rfl, ht, hne, ob, vs, hm.keeps _ _ hb, hbc, hbd, hb2, fun h'' q1 q2 => hE t h'' q1 (fun a o ho => q2 a o (fun z => by have := hm.new; rw [← z, ho] at this; cases this) (hm.keeps _ _ ho)) hm.new⟩
end
end Mine
namespace Mine
open PySem.Calls PyProof.V PySem.Spec
theorem frames_weak {h h' base : Heap} (k : ∀ b o, h.get? b = some o → (∀ vs, o.data ≠ .fields vs) → ∃ o', h'.get? b = some o' ∧ ∀ vs, o'.data ≠ .fields vs) : ∀ {l : List Env}, h.FunFrames base l → h'.FunFrames base l
  | [], _ => trivial
  | _ :: _, ⟨a, ⟨L, o, hf, hb, ho, hn⟩, r⟩ => let ⟨o', ho', hn'⟩ := k L o ho hn; ⟨a, ⟨L, o', hf, hb, ho', hn'⟩, frames_weak k r⟩
theorem Tr.but {B h h' : Heap} {l : List Env} {e L : Addr} {oe : Obj} {fl : Value} (x : Tr B l e oe fl h) (sb : Heap.SameBut L h h') (hL : ∃ o, h.get? L = some o ∧ ∀ vs, o.data ≠ .fields vs)
    (hL' : ∃ o, h'.get? L = some o ∧ ∀ vs, o.data ≠ .fields vs) (hB : B.get? L = none) : Tr B l e oe fl h' := by
  obtain ⟨hkb, hen, hl, he, T, oT, ts, vs, hd, h1, hnT, hTe, hT, hdT, h3⟩ := x
  obtain ⟨oL, hL, hLn⟩ := hL
  have ne : ∀ b o ws, h.get? b = some o → o.data = .fields ws → b ≠ L := fun b o ws hb hw q => by
    rw [q, hL] at hb; injection hb with hb; subst hb; exact hLn ws hw
  refine ⟨fun b o hb => sb.extBut b o (fun q => by rw [q, hB] at hb; cases hb) (hkb b o hb), hen, frames_weak (fun b o hb hn => ?_) hl, sb.extBut _ _ (ne _ _ _ he hd) he, T, oT, ts, vs, hd, h1, hnT, hTe, sb.extBut _ _ (ne _ _ _ hT hdT) hT, hdT, h3⟩
  by_cases q : b = L
  · subst q; exact hL'
  · exact ⟨o, sb.extBut _ _ q hb, hn⟩
section
variable {M : Model} {A : Around} {E : Value → Shared → Prop} {s : Shared}
theorem againX {B : Heap} {env : Env} {l : List Env} {L e : Addr} {oe : Obj} {a0 cls : Value} {Q : Unit → Shared → Prop} (hf : env.frame = some L) (x : Tr B l e oe (rawInt L) s.heap) (hc : oe.cls = cls) (h0 : ∀ vs, oe.data = .fields vs → vs[0]? = some a0) (h : Q () s) :
    wpAny M A (noteFrame (.ref e) env) Q E s := wpAny_noteFrame_againW hf (x.traced hc h0) h
theorem passX {B : Heap} {env : Env} {l : List Env} {L e : Addr} {oe : Obj} {fl : Value} {what : String} {Q : Flow → Shared → Prop} (hf : env.frame = some L) (x : Tr B l e oe fl s.heap)
    (h : ∀ h', Tr B l e oe (rawInt L) h' → s.heap.UpToSlots h' → E (.ref e) { s with heap := h' }) : wpAny M A (PySem.passOn what (.ref e) env : Sem Flow) Q E s := by
  have x' := x
  obtain ⟨hkb, hen, hl, he, T, oT, ts, vs, hd, h1, hnT, hTe, hT, hdT, h3⟩ := x
  unfold PySem.passOn
  refine wpAny_bind (wpAny_field he hd h1 ?_)
  rw [if_neg (by simp)]
  first
    | exact wpAny_bind (flightX x' fun h' y z => wpAny_throw (h h' (by rw [hf] at y; exact y) z))
    | exact wpAny_bind (wpAny_pure (wpAny_bind (flightX x' fun h' y z => wpAny_throw (h h' (by rw [hf] at y; exact y) z))))
theorem backX {B : Heap} {env : Env} {l : List Env} {L e : Addr} {oe : Obj} {fl : Value} (hf : env.frame = some L) (x : Tr B l e oe fl s.heap)
    (h : ∀ h', Tr B l e oe (rawInt L) h' → s.heap.UpToSlots h' → E (.ref e) { s with heap := h' }) : cameBackBy M A env E (.ref e) s := by
  have x' := x
  obtain ⟨hkb, hen, hl, he, T, oT, ts, vs, hd, h1, hnT, hTe, hT, hdT, h3⟩ := x
  unfold cameBackBy
  refine wpAny_bind (wpAny_field he hd h1 ?_)
  rw [if_neg (by simp)]
  first
    | exact flightX x' fun h' y z => h h' (by rw [hf] at y; exact y) z
    | exact wpAny_bind (wpAny_pure (flightX x' fun h' y z => h h' (by rw [hf] at y; exact y) z))
end
end Mine
namespace Mine
open PySem.Calls PyProof.V PySem.Spec
section
variable {prog : Program} {w : World} {A₀ : Around} {s' : Shared} {base g h : Heap} {outer : List Env} {L a e : Addr} {m : Str → Option Value} {name : Str} {scope : Scope} {cd : Value} {n : Str} {pos : Pos} {news : List (Addr × Obj)}
/-- an exception made in a handler's suite leaves the suite, and then the frame -/
theorem suite_leaves {cls : String} {oe : Obj} {vs : Array Value} {a0 : Value} {bv : Option Value} {Q : Unit → Shared → Prop} {E' : Value → Shared → Prop} {Eo : Value → Shared → Prop}
    (K : Below A₀ base outer g) (F : Fr g L h m) (N : News g L h news) (hnew : h.get? e = none) (hkp : ∀ b o, h.get? b = some o → s'.heap.get? b = some o)
    (he : s'.heap.get? e = some oe) (hcls : oe.cls = .type cls) (hd : oe.data = .fields vs) (h1 : vs[1]? = some .none) (h0 : vs[0]? = some a0)
    (hEo : ∀ s'', wpAny (model prog w) (A₀.deeper (envOf name scope L a cd)) (leaving (envOf name scope L a cd) (.ref e)) Q E' s'' → Eo (.ref e) s'')
    (hQ : ∀ h' tk, RaisedN base outer e (.type cls) news h' → g.UpToSlots h' → Q () { s' with heap := h', toks := tk })
    (hk : scope.kind = .function := by rfl) (hlo : (envOf name scope L a cd).kindOf n = some .local := by rfl)
    (hp : ((envOf name scope L a cd).scope.kind == .class || ((envOf name scope L a cd).scope.kind == .module && (envOf name scope L a cd).locals != (envOf name scope L a cd).globals)) = false := by rfl) :
    AsSuiteRaised (model prog w) ((A₀.deeper (envOf name scope L a cd)).mark bv) (envOf name scope L a cd) n pos (notedBy (model prog w) ((A₀.deeper (envOf name scope L a cd)).mark bv) (envOf name scope L a cd) (cameBackBy (model prog w) (A₀.deeper (envOf name scope L a cd)) (envOf name scope L a cd) Eo)) (.ref e) s' := by
  have K' := K.push (name := name) (a := a) (cd := cd) F hk
  have hin : ∀ env ∈ (envOf name scope L a cd :: outer), ∀ b, env.frame = some b → b ∈ (envOf name scope L a cd :: outer).filterMap (·.frame) := fun env he b hb => List.mem_filterMap.mpr ⟨env, he, hb⟩
  have st : base.StaysIn (hideAll h ((envOf name scope L a cd :: outer).filterMap (·.frame))) := fun b o q => hideAll_get _ (K'.stays b o q) fun hm => by
    rw [(K'.frames.mem hm).1] at q; cases q
  have hl : ∀ q ∈ news, (hideAll h ((envOf name scope L a cd :: outer).filterMap (·.frame))).get? q.1 = some q.2 ∧ base.get? q.1 = none := fun q hq => by
    refine ⟨hideAll_get _ (N q hq).1 fun hm => ?_, fresh_of_stays K.stays (N q hq).2.2⟩
    obtain ⟨env, he, hf⟩ := List.mem_filterMap.mp hm
    rcases List.mem_cons.mp he with rfl | he
    · exact (N q hq).2.1 (Option.some.inj hf).symm
    · obtain ⟨o, ho, _⟩ := (K.frames.mem (List.mem_filterMap.mpr ⟨env, he, hf⟩)).2
      rw [(N q hq).2.2] at ho; cases ho
  have hen : (hideAll h ((envOf name scope L a cd :: outer).filterMap (·.frame))).get? e = none := by
    cases q : (hideAll h ((envOf name scope L a cd :: outer).filterMap (·.frame))).get? e with
    | none => rfl
    | some o => have := of_hideAll _ q; rw [hnew] at this; cases this
  have hff := funFrames_hide K'.frames hin
  have hL : (hideAll h ((envOf name scope L a cd :: outer).filterMap (·.frame))).get? L = none := by
    obtain ⟨_, ⟨L', _, hf, hn', _⟩, _⟩ := hff
    obtain rfl : L = L' := Option.some.inj hf
    exact hn'
  have gL : ∀ b o, g.get? b = some o → b ≠ L := fun b o q z => by
    have := Heap.get?_none_of_le F.above
    rw [← z, q] at this; cases this
  have nsd : ∀ {hh : Heap} {mm : Str → Option Value}, hh.Ns L mm → ∃ o, hh.get? L = some o ∧ ∀ vs, o.data ≠ .fields vs := fun x => by
    obtain ⟨o, es, ep, ho, hd, _⟩ := x
    exact ⟨o, ho, fun vs q => by rw [hd] at q; cases q⟩
  have hs0 : h.UpToSlots s'.heap := Heap.UpToSlots.of_keeps hkp
  refine noteX (L := L) K'.stack (hff.of_keeps fun b o hb _ => ⟨o, hkp b o hb, rfl⟩) rfl he (fun b o hb => hkp b o (of_hideAll _ hb)) hen hd h1 fun h₉ T x₉ sm₉ => ?_
  have hc9 : (oe.mapFields (·.setIfInBounds 1 (Value.ref T))).cls = .type cls := (Obj.cls_mapFields _ _).trans hcls
  have h09 : ∀ ws, (oe.mapFields (·.setIfInBounds 1 (Value.ref T))).data = .fields ws → ws[0]? = some a0 := fun ws q => by
    have := Obj.data_mapFields hd (·.setIfInBounds 1 (Value.ref T))
    rw [this] at q; injection q with q; subst q
    rw [Array.getElem?_setIfInBounds_ne (by decide)]; exact h0
  have ns9 := (hs0.trans sm₉).ns F.ns
  refine wpAny_nameGoes hlo ns9 hp fun h₁₀ m₁₀ n₁₀ sb => ?_
  have x₁₀ := x₉.but sb (nsd ns9) (nsd n₁₀) hL
  refine passX (L := L) rfl x₁₀ fun h₁₁ x₁₁ sm₁₁ => ?_
  refine againX (L := L) rfl x₁₁ hc9 h09 ?_
  refine backX (L := L) rfl x₁₁ fun h₁₂ x₁₂ sm₁₂ => hEo _ ?_
  unfold leaving
  refine wpAny_bind (againX (L := L) rfl x₁₂ hc9 h09 ?_)
  refine flightX (f := none) x₁₂ fun h₁₃ x₁₃ sm₁₃ => hQ h₁₃ _ ⟨_, a0, st, hl, x₁₃.1, hen, x₁₃.2.2.1.2.2, x₁₃.traced hc9 h09⟩ ?_
  intro b o hb hn
  obtain ⟨sl, q⟩ := (hs0.trans sm₉) b o (F.keep b o hb) hn
  have q' := sb.extBut _ _ (gL b o hb) q
  obtain ⟨sl', q''⟩ := ((sm₁₁.trans sm₁₂).trans sm₁₃) b _ q' hn
  exact ⟨sl', q''⟩
end
end Mine
namespace Mine
open PySem.Calls PyProof.V PySem.Spec
section
variable {prog : Program} {w : World} {A₀ : Around} {E : Value → Shared → Prop} {s' : Shared} {h₀ h : Heap} {outer : List Env} {L a e : Addr} {m : Str → Option Value} {cn : Str} {cs : Scope} {ccd : Value} {cl : List (Str × Addr)}
  {b₀ : Stmt} {suite : List Stmt} {pos np : Pos} {rest : List ExceptHandler} {Q : Flow → Shared → Prop} {news : List (Addr × Obj)} {KF : Frag}
  {p : Program} {loose : List Str} {mg mb : Str → Option Value} {x : Str} {X T' : String}
/-- an exception that comes out of a callee is caught in a frame that has cells -/
theorem caught_X0 (K : Below A₀ h₀ outer h₀) (F : Fr h₀ L h m) (hsm : h.UpToSlots s'.heap) (R : RaisedN h₀ (envX cn cs L a ccd cl :: outer) e (.type X) news s'.heap)
    (XK : KF.In h₀) (T : TopRead p loose mg mb h₀) (ex : nsIn KF mainGlobals x = some none) (hv : bootBuiltins x = some (.type T')) (hn' : x ≠ "__name__")
    (hexc : isSubtype (.type T') (.type "BaseException") = pure true) (hnt : isSubtype (.type ((Manifest.find? T').elim "type" fun y => y.metatype)) (.type "tuple") = pure false) (hsub : isSubtype (.type X) (.type T') = pure true)
    (k : ∀ h', Fr h₀ L h' m → News h₀ L h' news →
      wpAny (model prog w) ((A₀.deeper (envX cn cs L a ccd cl)).mark (some (.ref e))) (execs (b₀ :: suite) (envX cn cs L a ccd cl)) Q
        (notedBy (model prog w) ((A₀.deeper (envX cn cs L a ccd cl)).mark (some (.ref e))) (envX cn cs L a ccd cl) (cameBackBy (model prog w) (A₀.deeper (envX cn cs L a ccd cl)) (envX cn cs L a ccd cl) E)) { s' with heap := h' })
    (hk : cs.kind = .function := by rfl) (hx : (envX cn cs L a ccd cl).kindOf x = some .globalImplicit := by rfl) (hd : (x == ("__debug__" : Str)) = false := by decide) :
    wpAny (model prog w) (A₀.deeper (envX cn cs L a ccd cl)) (noteFrame (.ref e) (envX cn cs L a ccd cl))
      (fun _ s₂ => wpAny (model prog w) (A₀.deeper (envX cn cs L a ccd cl)) (setFlight (.ref e) none) (fun _ s₃ =>
        wpAny (model prog w) (A₀.deeper (envX cn cs L a ccd cl)) (handleBy (.ref e) (envX cn cs L a ccd cl) (.ExceptHandler (some (.Name x np)) none (b₀ :: suite) pos :: rest)) Q E s₃) E s₂) E s' := by
  obtain ⟨B, a0, hB, hl, hfl⟩ := R
  have hL : B.get? L = none := by
    obtain ⟨_, ⟨L', _, hf, hn', _⟩, _⟩ := hfl.2.2.1
    obtain rfl : L = L' := Option.some.inj hf
    exact hn'
  refine wpAny_looks_onW (Around.frames_deeper K.stack) rfl hfl fun h₄ hheld₄ hsm₄ => ?_
  refine wpAny_landsW hheld₄ fun h₅ hheld hsm₅' => ?_
  have hsm₅ := hsm₄.trans hsm₅'
  have F₅ := F.of_stays (flyingW_base hB hheld).1 (hsm.trans hsm₅)
  obtain ⟨ob, hob, hobc⟩ := hheld.there
  refine wpAny_handleBy_builtin (X := X) (T := T') (b := true) hexc hnt hsub (nameX_B F₅ XK T ex hv hn' ⟨rfl, ⟨ob, hob, hobc⟩, ?_⟩ hk hx hd)
  refine lands_againW hheld fun h₆ hfl₆ hsm₆ => ?_
  have F₆ := F.of_stays (flyingW_base hB hfl₆).1 ((hsm.trans hsm₅).trans hsm₆)
  exact k h₆ F₆ fun q hq => ⟨hfl₆.1 _ _ (hl q hq).1, (fun z => by have := (hl q hq).1; rw [z, hL] at this; cases this), (hl q hq).2⟩
end
end Mine
namespace Mine
open PySem.Calls PyProof.V PySem.Spec
section
variable {prog : Program} {w : World} {A : Around} {E : Value → Shared → Prop} {s : Shared} {name : Str} {scope : Scope} {L a : Addr} {cd : Value}
theorem Raise_fromB {cls newId initId X : String} (Fc : ExcCallFacts cls newId initId) (G : ExcRaiseFacts cls) (GX : ExcRaiseFacts X) {b : Addr} (hh : A.handled = some (.ref b)) {x y : Str} {np yp cpos pos : Pos} {e₀ : Expr} {rest : List Expr} {Q : Flow → Shared → Prop}
    (h : wpAny (model prog w) A (eval (.Name x np) (envOf name scope L a cd)) (fun f s₁ => f = .type cls ∧ wpAny (model prog w) A (spliced (backTo cpos (starEach (e₀ :: rest) (envOf name scope L a cd))))
      (fun vs s₂ => vs.length ≤ sizeLine ∧ ∃ g m ob ws, Fr g L s₂.heap m ∧ m y = some (.ref b) ∧ s₂.heap.get? b = some ob ∧ ob.cls = .type X ∧ ob.data = .fields ws ∧ ws[2]? = some .none ∧
        ∀ t e h'', h''.get? e = some { cls := .type cls, data := .fields #[.ref t, .none, .ref b, .ref b, .bool true, .none] } → (∀ a o, s₂.heap.get? a = some o → h''.get? a = some o) → s₂.heap.get? e = none → E (.ref e) { s₂ with heap := h'' }) E s₁) E s)
    (he : starEach (e₀ :: rest) (envOf name scope L a cd) = (false, eval e₀ (envOf name scope L a cd)) :: starEach rest (envOf name scope L a cd) := by rfl) (hplain : (backTo cpos (starEach rest (envOf name scope L a cd))).any (·.1) = false := by rfl)
    (hk : scope.kind = .function := by rfl) (hl : (envOf name scope L a cd).kindOf y = some .local := by rfl) (hd : (y == ("__debug__" : Str)) = false := by decide) :
    wpAny (model prog w) A (exec (.Raise (some (.Call (.Name x np) (e₀ :: rest) [] cpos)) (some (.Name y yp)) pos) (envOf name scope L a cd)) Q E s := by
  refine Raise_from Fc G GX hh (by rw [he]; show (false || (backTo cpos (starEach rest (envOf name scope L a cd))).any (·.1)) = false; rw [hplain]; rfl) (wpAny_mono h (fun f s₁ h₁ => ⟨h₁.1, ?_⟩) fun _ _ y => y)
  have h₂ := h₁.2
  rw [he] at h₂ ⊢
  refine Calls.evalArgs_plain (wpAny_mono h₂ (fun vs s₂ h₃ => ⟨rfl, h₃.1, fun h' e hm => ?_⟩) fun _ _ y => y)
  obtain ⟨_, g, m, ob, ws, F, hv, hb, hc, hd', h2, hE⟩ := h₃
  have F' : Fr g L h' m := F.keeps hm.keeps
  exact ld F' hv ⟨rfl, rfl, ob, ws, hb, hc, hd', h2, fun t h'' q1 q2 q3 => hE t e h'' q1 q2 q3⟩ hk hl hd
end
end Mine
namespace Mine
open PySem.Calls PyProof.V PySem.Spec
/-- an exception made while another is handled: all that was stays, and it has no traceback yet -/
def HExc (h h' : Heap) (e : Addr) (cls : String) : Prop :=
  (∀ a o, h.get? a = some o → h'.get? a = some o) ∧ h.get? e = none ∧ ∃ oe vs a0, h'.get? e = some oe ∧ oe.cls = .type cls ∧ oe.data = .fields vs ∧ vs[0]? = some a0 ∧ vs[1]? = some .none
section
variable {prog : Program} {w : World} {A : Around} {E : Value → Shared → Prop} {s : Shared}
theorem raiseError_from {α : Type} {X N I : String} (hc : ExcClass X N I) {msg : String} {Q : α → Shared → Prop} {b : Addr} {ob : Obj} {ws : Array Value} (hh : A.handled = some (.ref b)) (hb : s.heap.get? b = some ob) (hbd : ob.data = .fields ws) (hb2 : ws[2]? = some .none)
    (h : ∀ h' tk e, HExc s.heap h' e X → E (.ref e) { s with heap := h', toks := tk }) (hm : (msg : Str).length ≤ sizeLine := by size_fits) :
    wpAny (model prog w) A (raiseError X msg : Sem α) Q E s := by
  unfold raiseErrorMade
  refine wpAny_bind (wpAny_mkStr (wpAny_bind ?_) hm)
  unfold newExc newTuple
  refine wpAny_bind (wpAny_newObj_type ?_ (by size_fits))
  refine wpAny_bind (m := firstArgMember _ _) (wpAny_of_eq (a := Value.none) (by simp only [firstArgMember, hc.noFirst]; rfl) ?_)
  rw [hc.noOwn]
  refine wpAny_newObj_type ?_ (by size_fits)
  have hlt := Heap.lt_size hb
  refine raiseNew_from hh (fun q => ?_) (Heap.get?_push_size _ rfl) rfl (show 2 < 6 by decide) (Heap.get?_push_of_some _ (Heap.get?_push_of_some _ hb)) hbd hb2 (h _ _ _ ⟨fun a o ha => ?_, Heap.get?_none_of_le (by simp), _, _, _, Heap.get?_update_self _ (Heap.get?_push_size _ rfl) rfl, rfl, rfl, rfl, rfl⟩)
  · rw [Heap.size_push] at q
    exact absurd hlt (by rw [← q]; exact Nat.not_lt.mpr (Nat.le_succ _))
  · have := Heap.lt_size ha
    rw [Heap.get?_update_other _ _ (by rw [Heap.size_push]; intro q; exact absurd this (by rw [← q]; exact Nat.not_lt.mpr (Nat.le_succ _)))]
    exact Heap.get?_push_of_some _ (Heap.get?_push_of_some _ ha)
theorem code_int_repr_from {a : Int} {t : Tok} {R : Result → Shared → Prop} {b : Addr} {ob : Obj} {ws : Array Value} (hh : A.handled = some (.ref b)) (hb : s.heap.get? b = some ob) (hbd : ob.data = .fields ws) (hb2 : ws[2]? = some .none) (hn : s.heap.NoDigits)
    (h1 : a.natAbs < 10 ^ 4300 → R (.ok (.ret (.str (toString a) s.toks))) { s with toks := s.toks + 1 })
    (h2 : ∀ h' tk e, HExc s.heap h' e "ValueError" → R (.error (.ref e)) { s with heap := h', toks := tk }) :
    codeAny (model prog w) A (.builtin "int.__repr__" ⟨[.int a t], []⟩) R s := by
  refine codeAny_builtin entry_int_repr ?_
  rw [Around.under_plainId plain_int_repr _]
  unfold Builtin.«int.__repr__»
  show wpAny _ _ (do let r ← Builtin.overDigitLimit? a; _) _ _ s
  refine wpAny_bind (overDigitLimit_any hn (fun hlt => ?_) (fun hge => ?_))
  · exact wpAny_bind (wpAny_mkStr (wpAny_pure (h1 hlt)) (int_text_fits10 hlt))
  · first
      | exact wpAny_bind (wpAny_rule (raiseError_from (A := A.in1) excClass_ValueError hh hb hbd hb2 h2 (by clear hge h1 h2; rw [PyProof.Rows.ofString_length, sizeLine_eq]; decide +kernel)))
      | exact wpAny_bind (wpAny_rule (wpAny_bind (raiseError_from (A := A.in1) excClass_ValueError hh hb hbd hb2 h2 (by clear hge h1 h2; rw [PyProof.Rows.ofString_length, sizeLine_eq]; decide +kernel))))
theorem formatOf_from {n : Int} {u : Tok} {Q : Value → Shared → Prop} {b : Addr} {ob : Obj} {ws : Array Value} (hh : A.handled = some (.ref b)) (hb : s.heap.get? b = some ob) (hbd : ob.data = .fields ws) (hb2 : ws[2]? = some .none) (hn : s.heap.NoDigits)
    (h1 : n.natAbs < 10 ^ 4300 → ∀ t' k, Q (.str (PySem.Str.ofString (toString n)) t') { s with toks := k }) (h2 : ∀ h' tk e, HExc s.heap h' e "ValueError" → E (.ref e) { s with heap := h', toks := tk }) :
    wpAny (model prog w) A (PySem.Builtin.Str.formatOf (.int n u) PySem.Str.empty) Q E s := by
  unfold PySem.Builtin.Str.formatOf
  refine wpAny_ite (KPc.ite_no Bool.false_ne_true ?_)
  refine wpAny_bind (wpAny_mkStr ?_ (by decide))
  refine wpAny_bind (m := callSpecial? (.int n u) (PySem.Str.ofString "__format__") [.str PySem.Str.empty s.toks]) (wpAny_callSpecial?_slot (name := PySem.Str.ofString "__format__") (typeIs_int _ n u) slot_int_format ?_)
  refine wpAny_call (codeAny_call_builtin slot_int_format.plain entry_int_format (slot_int_format.check _ _ _ _ _ _ _ _ (typeIs_int _ n u) (args_int_format _ _) ?_))
  show wpAny _ _ (do let _kind ← typeNameOf (.str PySem.Str.empty s.toks); (do rule "int.format.empty"; again (.builtin "int.__repr__" ⟨[.int n u], []⟩))) _ _ _
  refine wpAny_bind (wpAny_typeNameOf (T := "str") (typeIs_str _ _ _) (by decide) fun _ => wpAny_bind (wpAny_rule (wpAny_pure ⟨plainId_quiet plain_int_repr _, code_int_repr_from hh hb hbd hb2 hn (fun hlt => ?_) (fun h' tk e hx => h2 h' tk e hx)⟩)))
  refine wpAny_bind (wpAny_of_eq (a := some (PySem.Str.ofString (toString n))) rfl ?_)
  refine wpAny_ite (KPc.ite_no Bool.false_ne_true ?_)
  exact wpAny_pure (h1 hlt _ _)
theorem call_fmt {X X' : Str} {t : Tok} {vs : List Value} {S : PySem.Spec} {Q : Value → Shared → Prop} (hX : X = X') (ha : argsOk "str.format" ⟨.str X' t :: vs, []⟩) (hm : Meets (Builtin.«str.format» ⟨.str X' t :: vs, []⟩) S) (h : S A (wants Q E) s) :
    wpAny (model prog w) A (call (.builtin "str.format") (.str X t :: vs)) Q E s := by
  subst hX
  exact call_meets F.slot_str_format_m (typeIs_str s X t) F.entry_str_format_m ha hm h
theorem int_len {n : Int} (h : n.natAbs < 10 ^ 4300) : (PySem.Str.ofString (toString n)).length ≤ 5000 := by
  have e := int_text_length_le10 (k := 4300) (by decide) h
  clear h
  rw [PySem.ofString_length]; omega
set_option maxHeartbeats 2000000 in
/-- a text with three fields, filled while an exception is handled: an int of any size comes first -/
theorem format3 {y : Int} {t ty t2 t3 : Tok} {b : Addr} {ob : Obj} {ws : Array Value} {Q : Value → Shared → Prop} (hh : A.handled = some (.ref b)) (hb : s.heap.get? b = some ob) (hbd : ob.data = .fields ws) (hb2 : ws[2]? = some .none) (hn : s.heap.NoDigits)
    (h1 : ∀ x t' k, Q (.str x t') { s with toks := k }) (h2 : ∀ h' tk e, HExc s.heap h' e "ValueError" → E (.ref e) { s with heap := h', toks := tk }) :
    wpAny (model prog w) A (call (.builtin "str.format") [.str (PySem.Str.ofString "Invalid Positivist date: ({}, {}, {})") t, .int y ty, .int 14 t2, .int 2 t3]) Q E s := by
  refine' call_fmt (S := fun A R s => A.handled = some (.ref b) ∧ s.heap.get? b = some ob ∧ ob.data = .fields ws ∧ ws[2]? = some .none ∧ s.heap.NoDigits ∧ (∀ x t' k, R (.ok (.ret (.str x t'))) { s with toks := k }) ∧ (∀ h' tk e, HExc s.heap h' e "ValueError" → R (.error (.ref e)) { s with heap := h', toks := tk })) ?hX ?ha ?hm ⟨hh, hb, hbd, hb2, hn, h1, h2⟩
  case hX => kfm_eq
  case ha => exact KFm.args_4 _ _ _ _
  case hm =>
    clear hh hb hbd hb2 hn h1 h2
    intro prog w A R s hS
    obtain ⟨hh, hb, hbd, hb2, hn, h1, h2⟩ := hS
    unfold Builtin.«str.format»
    refine wpAny_bind (wpAny_of_eq (a := (_, _, _)) rfl ?_)
    refine wpAny_bind ?_
    unfold Builtin.Str.buildString
    refine wpAny_bind ?_
    rw [KPc.range_list]
    refine KFm.start ?_
    intro _ _
    refine KPc.turn ?_
    kpc_if
    kpc_check
    refine wpAny_bind (KFm.field_auto (by kfm_num) (by rfl) ?_)
    refine wpAny_bind (wpAny_holding (wpAny_of_eq (a := _) rfl ?_))
    kpc_if
    refine wpAny_bind (wpAny_pure ?_)
    refine wpAny_bind (wpAny_holding (formatOf_from hh hb hbd hb2 hn (fun hlt t' k => ?_) h2))
    have hlen := int_len hlt
    clear hlt
    refine wpAny_bind (wpAny_of_eq (a := some _) rfl ?_)
    refine wpAny_pure ?_
    refine KFm.after_field (by kpc_g) (by kpc_text) (by kpc_obj) hlen (by kpc_obj) (by kfm_cat2) (by kfm_rest) ?_
    intro _ _
    refine KPc.turn ?_
    kpc_if
    kpc_check
    kfm_field
    refine KPc.turn ?_
    kpc_if
    kpc_check
    kfm_field
    refine KPc.turn ?_
    kpc_if
    kpc_check
    kfm_lit
    refine KPc.turn ?_
    kpc_if
    refine wpAny_pure ?_
    refine wpAny_pure ?_
    refine KPc.finish_ok (by kpc_g) (by decide +kernel) rfl ?_
    intro t'' k''
    exact h1 _ _ _
end
end Mine
namespace Mine
theorem fin_raises (args : List WData) : ∀ cls, PySem.Challenge.rw_jk0006_01.row.claim.raises args cls = false := raisesW_false (by wrow_none_raised)
theorem fin_post (args : List WData) : PySem.Challenge.rw_jk0006_01.row.claim.post args (.bool true) args = true := by wrow_post
end Mine
namespace Mine
local macro_rules | `(tactic| walk_at "eval Call") => `(tactic| (k_here; k_extra "mine ec"))
local macro_rules | `(tactic| walk_at "call ref") => `(tactic| (k_here; k_extra "mine call"))
local macro_rules | `(tactic| walk_at "exec Raise") => `(tactic| (k_here; k_extra "mine raise"))
local macro_rules | `(tactic| walk_at "exec Raise some none") => `(tactic| (k_here; k_extra "mine raise"))
local macro_rules | `(tactic| walk_at "exec Raise some some") => `(tactic| (k_here; k_extra "mine raise"))
local macro_rules | `(tactic| walk_at "compareOp In int ref") => `(tactic| (k_here; k_extra "mine in"))
local macro_rules | `(tactic| walk_at "binaryOp Mult int int") => `(tactic| (k_here; k_extra "mine mul"))
local macro_rules | `(tactic| walk_at "subscriptTail Name Slice ref ref") => `(tactic| (k_here; k_extra "mine slice"))
local macro_rules | `(tactic| walk_at "pyIter ref") => `(tactic| (k_here; k_extra "mine iter"))
local macro_rules | `(tactic| walk_at "exec For Name Subscript cons nil") => `(tactic| (k_here; k_extra "mine for"))
local macro_rules | `(tactic| walk_at "And") => `(tactic| (k_here; k_dflt (k_extra "mine and")))
local macro_rules | `(tactic| walk_at "exec Assign cons ListComp") => `(tactic| (k_here; k_extra "mine comp"))
local macro_rules | `(tactic| walk_at "SrcAny") => `(tactic| (k_here; k_dflt (k_extra "mine src")))
local macro_rules | `(tactic| walk_at "subscriptTail Name BinOp ref int") => `(tactic| (k_here; k_dflt (k_extra "mine item")))
local macro_rules | `(tactic| walk_at "execs cons") => `(tactic| (k_here; k_extra "mine seq"))
local macro_rules | `(tactic| walk_at "Exists") => `(tactic| (k_here; k_dflt (k_extra "mine turn")))
local macro_rules | `(tactic| walk_at "exec Try") => `(tactic| (k_here; k_extra "mine try"))
local macro_rules | `(tactic| walk_at "noteFrame ref") => `(tactic| (k_here; k_extra "mine noted"))
local macro_rules | `(tactic| walk_at "call builtin:str.format") => `(tactic| (k_here; k_extra "mine fmt"))
def holds.tw12657093848384798476 : Unit := ()
def holds.tw13860560629476652642 : Unit := ()
def holds.tw5282283922864298156 : Unit := ()
def holds.tw14374762386000251392 : Unit := ()
def holds.tw11379536335273661636 : Unit := ()
def holds.tw2936799095737714382 : Unit := ()
def holds.tw8564859838321607590 : Unit := ()
def holds.tw8551410553514715252 : Unit := ()
def holds.tw9321796208036801940 : Unit := ()
def holds.tw11612728935029869629 : Unit := ()
def holds.tw7873036012977236159 : Unit := ()
def holds.tw6735552807121987811 : Unit := ()
def holds.tw15464432741802594518 : Unit := ()
def holds.tw3092724735428445279 : Unit := ()
def holds.tw6606875086121380550 : Unit := ()
def holds.tw1569810199879761147 : Unit := ()
def holds.tw9160933379109621080 : Unit := ()
def holds.tw13651502964188933756 : Unit := ()
def holds.tw15356600547250028879 : Unit := ()
def holds.tw12467034654032377186 : Unit := ()
def holds.tw3279077582325829838 : Unit := ()
def holds.tw6817751937963910627 : Unit := ()
def holds.tw10760469143309519983 : Unit := ()
def holds.tw4624323801304008105 : Unit := ()
def holds.tw4485590747672999114 : Unit := ()
def holds.tw7798976556582896058 : Unit := ()
def holds.tw9866653766423218390 : Unit := ()
def holds.tw10705761992013847755 : Unit := ()
def holds.tw12629177860411813126 : Unit := ()
def holds.tw12762722769849151566 : Unit := ()
def holds.tw14083834280242248106 : Unit := ()
def holds.tw8102643725754146565 : Unit := ()
def holds.tw5857794014393010482 : Unit := ()
def holds.tw3210078786618844196 : Unit := ()
def holds.tw5350216910946226995 : Unit := ()
def holds.tw17450472940649059298 : Unit := ()
def holds.tw14404905868111484630 : Unit := ()
def holds.tw5915465848944024539 : Unit := ()
def holds.tw2003794701753356343 : Unit := ()
def holds.tw3418611986999722790 : Unit := ()
def holds.tw12056596633878991817 : Unit := ()
def holds.tw10817008591213730988 : Unit := ()
def holds.tw12004703523718567385 : Unit := ()
def holds.tw10637851664137882224 : Unit := ()
def holds.tw1974762919298152056 : Unit := ()
def holds.tw11341941285841758863 : Unit := ()
def holds.tw11502601298335438083 : Unit := ()
def holds.tw10494946348260405530 : Unit := ()
def holds.tw17254800434166535540 : Unit := ()
def holds.tw5082999880386992228 : Unit := ()
def holds.tw9569093901706499007 : Unit := ()
def holds.tw9458989268892848673 : Unit := ()
def holds.tw15985840036639034899 : Unit := ()
def holds.tw8115153917610635543 : Unit := ()
def holds.tw3589964763223657672 : Unit := ()
def holds.tw9518972631687950247 : Unit := ()
def holds.tw13563289320671947111 : Unit := ()
def holds.tw2752272122444995253 : Unit := ()
def holds.tw10876536743886354276 : Unit := ()
def holds.tw16887932952891968693 : Unit := ()
def holds.tw14411328915609312922 : Unit := ()
def holds.tw17180457848445815676 : Unit := ()
def holds.tw14040500308302212198 : Unit := ()
def holds.tw16725066886706607050 : Unit := ()
def holds.tw17549760099613038055 : Unit := ()
def holds.tw9284948610034456067 : Unit := ()
def holds.tw4796666493748621973 : Unit := ()
def holds.tw12354433232887552844 : Unit := ()
def holds.tw4952593789767209597 : Unit := ()
def holds.tw2277698456845511444 : Unit := ()
def holds.tw12553914923479104506 : Unit := ()
def holds.tw17040301576142915119 : Unit := ()
def holds.tw1508545211966159021 : Unit := ()
def holds.tw2167384251425162797 : Unit := ()
def holds.tw5959074840488112208 : Unit := ()
def holds.tw16497969686579978388 : Unit := ()
def holds.tw17591727778206626035 : Unit := ()
def holds.tw14856189802965030758 : Unit := ()
def holds.tw15296638952792297585 : Unit := ()
def holds.tw9855210162650666830 : Unit := ()
def holds.tw5323918697378788693 : Unit := ()
def holds.tw16461013251600362008 : Unit := ()
def holds.tw14341210406198164329 : Unit := ()
def holds.tw16281141667863336784 : Unit := ()
def holds.tw13416111870119765123 : Unit := ()
def holds.tw7580357766596436714 : Unit := ()
def holds.tw4659233104850659043 : Unit := ()
def holds.tw8827755016177155863 : Unit := ()
def holds.tw150268843892594924 : Unit := ()
def holds.tw3081346186701454755 : Unit := ()
def holds.tw1438057683635843531 : Unit := ()
def holds.tw15349486494167490861 : Unit := ()
def holds.tw1389151227800987198 : Unit := ()
def holds.tw142377125942736700 : Unit := ()
def holds.tw15383290158734973844 : Unit := ()
def holds.tw10754095448920906449 : Unit := ()
def holds.tw4043779546988386903 : Unit := ()
def holds.tw5588498093969417903 : Unit := ()
def holds.tw10595842591828190984 : Unit := ()
def holds.tw14432740918813763817 : Unit := ()
def holds.tw10280545108713110612 : Unit := ()
def holds.tw8393340031374782525 : Unit := ()
def holds.tw12528141070781557109 : Unit := ()
def holds.tw5857869478962280401 : Unit := ()
def holds.tw15969937429085165904 : Unit := ()
def holds.tw8868040359437915812 : Unit := ()
def holds.tw17642598502550569490 : Unit := ()
def holds.tw17631178891982236634 : Unit := ()
def holds.tw2781561513384061212 : Unit := ()
def holds.tw5932082505621288647 : Unit := ()
def holds.tw8575535491628544125 : Unit := ()
def holds.tw14394845925615563878 : Unit := ()
def holds.tw4753448620645791293 : Unit := ()
def holds.tw8324913547053779211 : Unit := ()
def holds.tw10531532615022067580 : Unit := ()
def holds.tw5747684920607356772 : Unit := ()
def holds.tw16878984735049331645 : Unit := ()
def holds.tw15573729904360925794 : Unit := ()
def holds.tw8260078842695283502 : Unit := ()
def holds.tw5295917329084666069 : Unit := ()
def holds.tw14247145606103189434 : Unit := ()
def holds.tw10894570999934473159 : Unit := ()
def holds.tw8903297777125119442 : Unit := ()
def holds.tw9160814584890018001 : Unit := ()
def holds.tw12302647703735985524 : Unit := ()
def holds.tw15750308709622187472 : Unit := ()
def holds.tw63030109126827207 : Unit := ()
def holds.tw15654153127513851752 : Unit := ()
def holds.tw1092734292537931370 : Unit := ()
def holds.tw13208604148985916543 : Unit := ()
def holds.tw3937267528351423324 : Unit := ()
def holds.tw8323465864499181419 : Unit := ()
def holds.tw4717937361131159733 : Unit := ()
def holds.tw16049930973857864354 : Unit := ()
def holds.tw17856180979147524769 : Unit := ()
def holds.tw13002855754428957212 : Unit := ()
def holds.tw8868445881999480663 : Unit := ()
def holds.tw12774209864397607762 : Unit := ()
def holds.tw12894555341316225627 : Unit := ()
def holds.tw7944191787301449481 : Unit := ()
def holds.tw16179787414501680475 : Unit := ()
def holds.tw9143120035062812437 : Unit := ()
def holds.tw10061326939861387809 : Unit := ()
def holds.tw12808162357026388105 : Unit := ()
def holds.tw13334661261001831826 : Unit := ()
def holds.tw1095465085569150570 : Unit := ()
def holds.tw15785218014132313688 : Unit := ()
def holds.tw17500814259130102135 : Unit := ()
def holds.tw15228004617427520810 : Unit := ()
def holds.tw3579776383272448420 : Unit := ()
def holds.tw10824115321126796680 : Unit := ()
def holds.tw12698916279152862973 : Unit := ()
def holds.tw4876135695594978501 : Unit := ()
def holds.tw15043986215568586124 : Unit := ()
def holds.tw17822619038779606285 : Unit := ()
def holds.tw14786066558164337950 : Unit := ()
def holds.tw6166532556598395850 : Unit := ()
def holds.tw14062913937729191461 : Unit := ()
def holds.tw2335221107431800076 : Unit := ()
def holds.tw10645105620128953169 : Unit := ()
def holds.tw15305512045591798990 : Unit := ()
def holds.tw1382383790286775375 : Unit := ()
def holds.tw2160012875989923789 : Unit := ()
def holds.tw14533596452844920548 : Unit := ()
def holds.tw5271452314466567876 : Unit := ()
def holds.tw2946744036017948005 : Unit := ()
def holds.tw4831338809001184385 : Unit := ()
def holds.tw10705619171732726748 : Unit := ()
def holds.tw3093010850272755244 : Unit := ()
def holds.tw17858152450515298520 : Unit := ()
def holds.tw13341946137322399123 : Unit := ()
def holds.tw14085268106739128817 : Unit := ()
def holds.tw2162985242385829321 : Unit := ()
def holds.tw2041457743892144894 : Unit := ()
def holds.tw10973056549479156102 : Unit := ()
def holds.tw12788872388335264594 : Unit := ()
def holds.tw8277820557490507997 : Unit := ()
def holds.tw2929439407932294337 : Unit := ()
def holds.tw17779774989671706653 : Unit := ()
def holds.tw9188266559522036927 : Unit := ()
def holds.tw12633084752571091873 : Unit := ()
def holds.tw10859938921441162988 : Unit := ()
def holds.tw2667925813562934949 : Unit := ()
def holds.tw2642592217982111355 : Unit := ()
def holds.tw11111472982789046935 : Unit := ()
def holds.tw12733908048491186811 : Unit := ()
def holds.tw11775407622660791982 : Unit := ()
def holds.tw8451429660923938374 : Unit := ()
def holds.tw15203487316939043196 : Unit := ()
def holds.tw16035096773351161327 : Unit := ()
def holds.tw576298715544257586 : Unit := ()
def holds.tw6099975724469302500 : Unit := ()
def holds.tw14012497318314112844 : Unit := ()
def holds.tw11569915684508697678 : Unit := ()
def holds.tw4021013208564600997 : Unit := ()
def holds.tw4399152324972305773 : Unit := ()
def holds.tw6424660084863691381 : Unit := ()
def holds.tw13373784697917265674 : Unit := ()
def holds.tw17096001632197288867 : Unit := ()
def holds.tw2395109189467087578 : Unit := ()
def holds.tw6674158366018852832 : Unit := ()
def holds.tw12158838097934144204 : Unit := ()
def holds.tw18020473825885896052 : Unit := ()
def holds.tw7399101569421298396 : Unit := ()
def holds.tw7350330377624401328 : Unit := ()
def holds.tw6307330118970589470 : Unit := ()
def holds.tw15877800719937004243 : Unit := ()
def holds.tw3101148707280403237 : Unit := ()
def holds.tw16141144775947785660 : Unit := ()
def holds.tw10520202591518659360 : Unit := ()
def holds.tw5225467491883748592 : Unit := ()
def holds.tw12160635655254385198 : Unit := ()
def holds.tw6545324650690627985 : Unit := ()
def holds.tw5878047611234877577 : Unit := ()
def holds.tw15659084048362614264 : Unit := ()
def holds.tw9816476011544392670 : Unit := ()
def holds.tw9647410926604887880 : Unit := ()
def holds.tw13384883100587833847 : Unit := ()
def holds.tw8943767207682116370 : Unit := ()
def holds.tw7923702915469573346 : Unit := ()
def holds.tw6460966521098074893 : Unit := ()
def holds.tw6216033271563703469 : Unit := ()
def holds.tw5031978486770369989 : Unit := ()
def holds.tw154871700347349385 : Unit := ()
def holds.tw1876284267304334591 : Unit := ()
def holds.tw16898140867199733807 : Unit := ()
def holds.tw1213666046027356511 : Unit := ()
def holds.tw14314133134477209284 : Unit := ()
def holds.tw15814798929938293467 : Unit := ()
def holds.tw2207817973478938216 : Unit := ()
def holds.tw9370115536473471133 : Unit := ()
def holds.tw10698829266838348154 : Unit := ()
def holds.tw10269081998898121243 : Unit := ()
def holds.tw5619803957841784048 : Unit := ()
def holds.tw11750193621415288269 : Unit := ()
def holds.tw9157471666820141079 : Unit := ()
set_option Elab.async true in
set_option maxRecDepth 3000 in
set_option maxHeartbeats 400000000 in
theorem holds : PySem.Challenge.rw_jk0006_01.Holds := by
  w_on
  o_law
  k_head
  (case hw => w_witness2)
  have c_trunc : ∀ (w : World) (p : Program) (loose : List Str) (mean : ExcName → Option Value) (mg mb : Str → Option Value) (news : List (Addr × Obj)) (a : Int) (t_a : Tok) (b : Int) (t_b : Tok) (hp0 : 0 < b) (hp1 : b < 1000), Cl PySem.Challenge.rw_jk0006_01.row.prog w (Mine.holds.heap_1_39 w.params) p loose mean mg mb 36 news 2 [.int a t_a, .int b t_b] (RetI news (truncL a b)) := by
    as_aux_lemma =>
      intro w p loose mean mg mb news a t_a b t_b hp0 hp1
      k_fill
      have hb : b ≠ 0 := by omega
      have hb2 : (if b < 0 then -b else b) ≠ 0 := by omega
      have hb3 : (if b < 0 then -b else b) < 1000 := by omega
      k_with_none
      k_with "mine ec" => ((with_reducible show wpAny _ _ (eval (Expr.Call (Expr.Name _ _) _ [] _) _) _ _ _); k_dflt (refine Call_ ?_))
      k_with "mine in" => ((with_reducible show wpAny _ _ (compareOp CmpOp.In (Value.int _ _) (Value.ref _)) _ _ _); k_dflt (refine' in30 ?zqt ?_; (case zqt => exact tupK (Frag.In.keeps (by k_asm) (Fr.keep (by k_asm))) (by k_is)); k_whole))
      k_with "mine seq" => ((with_reducible show wpAny _ _ (execs _ _) _ _ (Shared.mk _ _ _ (_ + _) _)); (try dsimp only); refine gen_toks ?_; intro tk9)
      unfold Cl RetI
      intros
      rename_i hret
      refine wpAny_call ?_
      k_dflt (refine' code_def ?zqk1 ?zqk2 ?zqk3 ?zqk4 ?zqk5 ?zqkA ?zqkF ?zqkK ?zqk6 ?zqk7 ?zqk8 ?zqk9 ?zqkB ?_ ?zqc2 ?zqc3 ?zqc4 ?zqc5; (case zqkA => exact rfl); (case zqkF => exact rfl); (case zqkK => first | exact rfl | assumption); (case zqk1 => k_asm); (case zqk2 => k_asm); (case zqk3 => k_asm); (case zqk4 => k_asm); (case zqk5 => k_asm); (case zqk6 => k_is); (case zqk7 => k_is); (case zqk8 => (first | (dsimp only [ktrTop, Around.deeper]; omega) | ktr_room)); (case zqk9 => first | exact BindsTo.of_eq rfl | exact binds_K (by k_in) rfl (by k_is) rfl rfl rfl); (case zqc5 => decide); (case zqkB => exact locs rfl); (case zqc2 => exact rfl); (case zqc3 => exact rfl); (case zqc4 => exact rfl); k_whole; intro g' L' h' FG' F' N' B' X' T'; (try dsimp only); (try k_lift B'); (try k_fold))
      k_steps
      all_goals (refine' cb_retI hret ?zqe1 ?zqe2 ?zqe3; (case zqe2 => assumption); (case zqe3 => first | assumption | (refine' cb_drop ?zqcbN ?zqcbS; (case zqcbN => assumption); (case zqcbS => (first | exact (fun _ hp => hp) | exact (fun _ hp => List.Mem.tail _ hp) | exact (fun _ hp => List.Mem.tail _ (List.Mem.tail _ hp)) | exact (fun _ hp => List.Mem.tail _ (List.Mem.tail _ (List.Mem.tail _ hp))) | kcj_all)))); (case zqe1 => clear hret; (repeat (rename Fr _ _ _ _ => hz9; clear hz9)); (repeat (rename News _ _ _ _ => hz9; clear hz9)); (repeat (rename Below _ _ _ _ => hz9; clear hz9)); (repeat (rename Top _ _ _ _ _ _ => hz9; clear hz9)); (repeat (rename Frag.In _ _ => hz9; clear hz9)); (try clear qk ek); unfold truncL; cb_eq))
  have c_isleap : ∀ (w : World) (p : Program) (loose : List Str) (mean : ExcName → Option Value) (mg mb : Str → Option Value) (news : List (Addr × Obj)) (y : Int) (t_y : Tok), Cl PySem.Challenge.rw_jk0006_01.row.prog w (Mine.holds.heap_1_39 w.params) p loose mean mg mb 22 news 2 [.int y t_y] (RetB news (leapB y)) := by
    as_aux_lemma =>
      clear c_trunc
      intro w p loose mean mg mb news y t_y
      k_fill
      k_with_none
      k_with "mine ec" => ((with_reducible show wpAny _ _ (eval (Expr.Call (Expr.Name _ _) _ [] _) _) _ _ _); k_dflt (refine Call_ ?_))
      k_with "mine in" => ((with_reducible show wpAny _ _ (compareOp CmpOp.In (Value.int _ _) (Value.ref _)) _ _ _); k_dflt (refine' in30 ?zqt ?_; (case zqt => exact tupK (Frag.In.keeps (by k_asm) (Fr.keep (by k_asm))) (by k_is)); k_whole))
      k_with "mine seq" => ((with_reducible show wpAny _ _ (execs _ _) _ _ (Shared.mk _ _ _ (_ + _) _)); (try dsimp only); refine gen_toks ?_; intro tk9)
      unfold Cl RetB
      intros
      rename_i hret
      refine wpAny_call ?_
      k_dflt (refine' code_def ?zqk1 ?zqk2 ?zqk3 ?zqk4 ?zqk5 ?zqkA ?zqkF ?zqkK ?zqk6 ?zqk7 ?zqk8 ?zqk9 ?zqkB ?_ ?zqc2 ?zqc3 ?zqc4 ?zqc5; (case zqkA => exact rfl); (case zqkF => exact rfl); (case zqkK => first | exact rfl | assumption); (case zqk1 => k_asm); (case zqk2 => k_asm); (case zqk3 => k_asm); (case zqk4 => k_asm); (case zqk5 => k_asm); (case zqk6 => k_is); (case zqk7 => k_is); (case zqk8 => (first | (dsimp only [ktrTop, Around.deeper]; omega) | ktr_room)); (case zqk9 => first | exact BindsTo.of_eq rfl | exact binds_K (by k_in) rfl (by k_is) rfl rfl rfl); (case zqc5 => decide); (case zqkB => exact locs rfl); (case zqc2 => exact rfl); (case zqc3 => exact rfl); (case zqc4 => exact rfl); k_whole; intro g' L' h' FG' F' N' B' X' T'; (try dsimp only); (try k_lift B'); (try k_fold))
      k_steps
      all_goals (refine' cb_retB hret ?zqe1 ?zqe2 ?zqe3; (case zqe2 => assumption); (case zqe3 => first | assumption | (refine' cb_drop ?zqcbN ?zqcbS; (case zqcbN => assumption); (case zqcbS => (first | exact (fun _ hp => hp) | exact (fun _ hp => List.Mem.tail _ hp) | exact (fun _ hp => List.Mem.tail _ (List.Mem.tail _ hp)) | exact (fun _ hp => List.Mem.tail _ (List.Mem.tail _ (List.Mem.tail _ hp))) | kcj_all)))); (case zqe1 => clear hret; (repeat (rename Fr _ _ _ _ => hz9; clear hz9)); (repeat (rename News _ _ _ _ => hz9; clear hz9)); (repeat (rename Below _ _ _ _ => hz9; clear hz9)); (repeat (rename Top _ _ _ _ _ _ => hz9; clear hz9)); (repeat (rename Frag.In _ _ => hz9; clear hz9)); (try clear qk ek); (try simp only [Int.fmod_eq_emod_of_nonneg, Int.fdiv_eq_ediv_of_nonneg, Int.reduceLE] at *); (rw [Bool.eq_iff_iff]); (simp only [leapB, bne_iff_ne, beq_iff_eq, ne_eq, Bool.and_eq_true, Bool.or_eq_true, decide_eq_true_eq, Bool.false_eq_true, false_iff, true_iff] at *); omega))
  have c_jwday : ∀ (w : World) (p : Program) (loose : List Str) (mean : ExcName → Option Value) (mg mb : Str → Option Value) (news : List (Addr × Obj)) (j : Int) (t_j : Tok), Cl PySem.Challenge.rw_jk0006_01.row.prog w (Mine.holds.heap_1_39 w.params) p loose mean mg mb 43 news 2 [.int j t_j] (RetI news (j % 7)) := by
    as_aux_lemma =>
      clear c_trunc c_isleap
      intro w p loose mean mg mb news j t_j
      k_fill
      k_with_none
      k_with "mine ec" => ((with_reducible show wpAny _ _ (eval (Expr.Call (Expr.Name _ _) _ [] _) _) _ _ _); k_dflt (refine Call_ ?_))
      k_with "mine in" => ((with_reducible show wpAny _ _ (compareOp CmpOp.In (Value.int _ _) (Value.ref _)) _ _ _); k_dflt (refine' in30 ?zqt ?_; (case zqt => exact tupK (Frag.In.keeps (by k_asm) (Fr.keep (by k_asm))) (by k_is)); k_whole))
      k_with "mine seq" => ((with_reducible show wpAny _ _ (execs _ _) _ _ (Shared.mk _ _ _ (_ + _) _)); (try dsimp only); refine gen_toks ?_; intro tk9)
      unfold Cl RetI
      intros
      rename_i hret
      refine wpAny_call ?_
      k_dflt (refine' code_def ?zqk1 ?zqk2 ?zqk3 ?zqk4 ?zqk5 ?zqkA ?zqkF ?zqkK ?zqk6 ?zqk7 ?zqk8 ?zqk9 ?zqkB ?_ ?zqc2 ?zqc3 ?zqc4 ?zqc5; (case zqkA => exact rfl); (case zqkF => exact rfl); (case zqkK => first | exact rfl | assumption); (case zqk1 => k_asm); (case zqk2 => k_asm); (case zqk3 => k_asm); (case zqk4 => k_asm); (case zqk5 => k_asm); (case zqk6 => k_is); (case zqk7 => k_is); (case zqk8 => (first | (dsimp only [ktrTop, Around.deeper]; omega) | ktr_room)); (case zqk9 => first | exact BindsTo.of_eq rfl | exact binds_K (by k_in) rfl (by k_is) rfl rfl rfl); (case zqc5 => decide); (case zqkB => exact locs rfl); (case zqc2 => exact rfl); (case zqc3 => exact rfl); (case zqc4 => exact rfl); k_whole; intro g' L' h' FG' F' N' B' X' T'; (try dsimp only); (try k_lift B'); (try k_fold))
      k_steps
      all_goals (refine' cb_retI hret ?zqe1 ?zqe2 ?zqe3; (case zqe2 => assumption); (case zqe3 => first | assumption | (refine' cb_drop ?zqcbN ?zqcbS; (case zqcbN => assumption); (case zqcbS => (first | exact (fun _ hp => hp) | exact (fun _ hp => List.Mem.tail _ hp) | exact (fun _ hp => List.Mem.tail _ (List.Mem.tail _ hp)) | exact (fun _ hp => List.Mem.tail _ (List.Mem.tail _ (List.Mem.tail _ hp))) | kcj_all)))); (case zqe1 => clear hret; (repeat (rename Fr _ _ _ _ => hz9; clear hz9)); (repeat (rename News _ _ _ _ => hz9; clear hz9)); (repeat (rename Below _ _ _ _ => hz9; clear hz9)); (repeat (rename Top _ _ _ _ _ _ => hz9; clear hz9)); (repeat (rename Frag.In _ _ => hz9; clear hz9)); (try clear qk ek); (try simp only [Int.fmod_eq_emod_of_nonneg, Int.fdiv_eq_ediv_of_nonneg, Int.reduceLE] at *); (first | done | rfl | omega | cb_eq)))
  have c_weekday_before : ∀ (w : World) (p : Program) (loose : List Str) (mean : ExcName → Option Value) (mg mb : Str → Option Value) (news : List (Addr × Obj)) (k : Int) (t_k : Tok) (j : Int) (t_j : Tok), Cl PySem.Challenge.rw_jk0006_01.row.prog w (Mine.holds.heap_1_39 w.params) p loose mean mg mb 50 news 3 [.int k t_k, .int j t_j] (RetI news (j - (j - k) % 7)) := by
    as_aux_lemma =>
      clear c_trunc c_isleap
      intro w p loose mean mg mb news k t_k j t_j
      k_fill
      k_with_none
      k_with "mine call" => ((with_reducible show wpAny _ _ (call (Value.ref 43) _) _ _ _); k_dflt (refine' use_cl (c_jwday _ _ _ _ _ _ _ _ _ ) ?zqk1 ?zqk2 ?zqk3 ?zqk4 ?zqk5 ?zqkK ?zqkd ?zqku ?_); (case zqk1 => k_asm); (case zqk2 => k_asm); (case zqk3 => k_asm); (case zqk4 => k_asm); (case zqk5 => k_asm); (case zqkK => first | exact rfl | assumption); (case zqkd => (first | (dsimp only [ktrTop, Around.deeper]; omega) | ktr_room)); (case zqku => (first | (dsimp only [ktrTop, Around.deeper]; omega) | ktr_units)); intro t9 h9 tk9 F9 N9; (try dsimp only); (try k_sweep); (try k_fold))
      k_with "mine ec" => ((with_reducible show wpAny _ _ (eval (Expr.Call (Expr.Name _ _) _ [] _) _) _ _ _); k_dflt (refine Call_ ?_))
      k_with "mine in" => ((with_reducible show wpAny _ _ (compareOp CmpOp.In (Value.int _ _) (Value.ref _)) _ _ _); k_dflt (refine' in30 ?zqt ?_; (case zqt => exact tupK (Frag.In.keeps (by k_asm) (Fr.keep (by k_asm))) (by k_is)); k_whole))
      k_with "mine seq" => ((with_reducible show wpAny _ _ (execs _ _) _ _ (Shared.mk _ _ _ (_ + _) _)); (try dsimp only); refine gen_toks ?_; intro tk9)
      unfold Cl RetI
      intros
      rename_i hret
      refine wpAny_call ?_
      k_dflt (refine' code_def ?zqk1 ?zqk2 ?zqk3 ?zqk4 ?zqk5 ?zqkA ?zqkF ?zqkK ?zqk6 ?zqk7 ?zqk8 ?zqk9 ?zqkB ?_ ?zqc2 ?zqc3 ?zqc4 ?zqc5; (case zqkA => exact rfl); (case zqkF => exact rfl); (case zqkK => first | exact rfl | assumption); (case zqk1 => k_asm); (case zqk2 => k_asm); (case zqk3 => k_asm); (case zqk4 => k_asm); (case zqk5 => k_asm); (case zqk6 => k_is); (case zqk7 => k_is); (case zqk8 => (first | (dsimp only [ktrTop, Around.deeper]; omega) | ktr_room)); (case zqk9 => first | exact BindsTo.of_eq rfl | exact binds_K (by k_in) rfl (by k_is) rfl rfl rfl); (case zqc5 => decide); (case zqkB => exact locs rfl); (case zqc2 => exact rfl); (case zqc3 => exact rfl); (case zqc4 => exact rfl); k_whole; intro g' L' h' FG' F' N' B' X' T'; (try dsimp only); (try k_lift B'); (try k_fold))
      k_steps
      all_goals (refine' cb_retI hret ?zqe1 ?zqe2 ?zqe3; (case zqe2 => assumption); (case zqe3 => first | assumption | (refine' cb_drop ?zqcbN ?zqcbS; (case zqcbN => assumption); (case zqcbS => (first | exact (fun _ hp => hp) | exact (fun _ hp => List.Mem.tail _ hp) | exact (fun _ hp => List.Mem.tail _ (List.Mem.tail _ hp)) | exact (fun _ hp => List.Mem.tail _ (List.Mem.tail _ (List.Mem.tail _ hp))) | kcj_all)))); (case zqe1 => clear hret; (try clear c_jwday); (repeat (rename Fr _ _ _ _ => hz9; clear hz9)); (repeat (rename News _ _ _ _ => hz9; clear hz9)); (repeat (rename Below _ _ _ _ => hz9; clear hz9)); (repeat (rename Top _ _ _ _ _ _ => hz9; clear hz9)); (repeat (rename Frag.In _ _ => hz9; clear hz9)); (try clear qk ek); (try simp only [Int.fmod_eq_emod_of_nonneg, Int.fdiv_eq_ediv_of_nonneg, Int.reduceLE] at *); (first | done | rfl | omega | cb_eq)))
  have c_law_first : ∀ (w : World) (p : Program) (loose : List Str) (mean : ExcName → Option Value) (mg mb : Str → Option Value) (news : List (Addr × Obj)) (y : Int) (t_y : Tok), Cl PySem.Challenge.rw_jk0006_01.row.prog w (Mine.holds.heap_1_39 w.params) p loose mean mg mb 222 news 2 [.int y t_y] (RetI news (lawFirst y)) := by
    as_aux_lemma =>
      clear c_trunc c_isleap c_jwday c_weekday_before
      intro w p loose mean mg mb news y t_y
      k_fill
      k_with_none
      k_with "mine ec" => ((with_reducible show wpAny _ _ (eval (Expr.Call (Expr.Name _ _) _ [] _) _) _ _ _); k_dflt (refine Call_ ?_))
      k_with "mine in" => ((with_reducible show wpAny _ _ (compareOp CmpOp.In (Value.int _ _) (Value.ref _)) _ _ _); k_dflt (refine' in30 ?zqt ?_; (case zqt => exact tupK (Frag.In.keeps (by k_asm) (Fr.keep (by k_asm))) (by k_is)); k_whole))
      k_with "mine seq" => ((with_reducible show wpAny _ _ (execs _ _) _ _ (Shared.mk _ _ _ (_ + _) _)); (try dsimp only); refine gen_toks ?_; intro tk9)
      unfold Cl RetI
      intros
      rename_i hret
      refine wpAny_call ?_
      k_dflt (refine' code_def ?zqk1 ?zqk2 ?zqk3 ?zqk4 ?zqk5 ?zqkA ?zqkF ?zqkK ?zqk6 ?zqk7 ?zqk8 ?zqk9 ?zqkB ?_ ?zqc2 ?zqc3 ?zqc4 ?zqc5; (case zqkA => exact rfl); (case zqkF => exact rfl); (case zqkK => first | exact rfl | assumption); (case zqk1 => k_asm); (case zqk2 => k_asm); (case zqk3 => k_asm); (case zqk4 => k_asm); (case zqk5 => k_asm); (case zqk6 => k_is); (case zqk7 => k_is); (case zqk8 => (first | (dsimp only [ktrTop, Around.deeper]; omega) | ktr_room)); (case zqk9 => first | exact BindsTo.of_eq rfl | exact binds_K (by k_in) rfl (by k_is) rfl rfl rfl); (case zqc5 => decide); (case zqkB => exact locs rfl); (case zqc2 => exact rfl); (case zqc3 => exact rfl); (case zqc4 => exact rfl); k_whole; intro g' L' h' FG' F' N' B' X' T'; (try dsimp only); (try k_lift B'); (try k_fold))
      k_steps
      all_goals (refine' cb_retI hret ?zqe1 ?zqe2 ?zqe3; (case zqe2 => assumption); (case zqe3 => first | assumption | (refine' cb_drop ?zqcbN ?zqcbS; (case zqcbN => assumption); (case zqcbS => (first | exact (fun _ hp => hp) | exact (fun _ hp => List.Mem.tail _ hp) | exact (fun _ hp => List.Mem.tail _ (List.Mem.tail _ hp)) | exact (fun _ hp => List.Mem.tail _ (List.Mem.tail _ (List.Mem.tail _ hp))) | kcj_all)))); (case zqe1 => clear hret; (repeat (rename Fr _ _ _ _ => hz9; clear hz9)); (repeat (rename News _ _ _ _ => hz9; clear hz9)); (repeat (rename Below _ _ _ _ => hz9; clear hz9)); (repeat (rename Top _ _ _ _ _ _ => hz9; clear hz9)); (repeat (rename Frag.In _ _ => hz9; clear hz9)); (try clear qk ek); unfold lawFirst; (try simp only [Int.fmod_eq_emod_of_nonneg, Int.fdiv_eq_ediv_of_nonneg, Int.reduceLE] at *); (first | done | rfl | omega | cb_eq)))
  have c_law_sunday : ∀ (w : World) (p : Program) (loose : List Str) (mean : ExcName → Option Value) (mg mb : Str → Option Value) (news : List (Addr × Obj)) (y : Int) (t_y : Tok), Cl PySem.Challenge.rw_jk0006_01.row.prog w (Mine.holds.heap_1_39 w.params) p loose mean mg mb 236 news 2 [.int y t_y] (RetI news (sun y)) := by
    as_aux_lemma =>
      clear c_trunc c_isleap c_jwday c_weekday_before c_law_first
      intro w p loose mean mg mb news y t_y
      k_fill
      k_with_none
      k_with "mine ec" => ((with_reducible show wpAny _ _ (eval (Expr.Call (Expr.Name _ _) _ [] _) _) _ _ _); k_dflt (refine Call_ ?_))
      k_with "mine in" => ((with_reducible show wpAny _ _ (compareOp CmpOp.In (Value.int _ _) (Value.ref _)) _ _ _); k_dflt (refine' in30 ?zqt ?_; (case zqt => exact tupK (Frag.In.keeps (by k_asm) (Fr.keep (by k_asm))) (by k_is)); k_whole))
      k_with "mine seq" => ((with_reducible show wpAny _ _ (execs _ _) _ _ (Shared.mk _ _ _ (_ + _) _)); (try dsimp only); refine gen_toks ?_; intro tk9)
      unfold Cl RetI
      intros
      rename_i hret
      refine wpAny_call ?_
      k_dflt (refine' code_def ?zqk1 ?zqk2 ?zqk3 ?zqk4 ?zqk5 ?zqkA ?zqkF ?zqkK ?zqk6 ?zqk7 ?zqk8 ?zqk9 ?zqkB ?_ ?zqc2 ?zqc3 ?zqc4 ?zqc5; (case zqkA => exact rfl); (case zqkF => exact rfl); (case zqkK => first | exact rfl | assumption); (case zqk1 => k_asm); (case zqk2 => k_asm); (case zqk3 => k_asm); (case zqk4 => k_asm); (case zqk5 => k_asm); (case zqk6 => k_is); (case zqk7 => k_is); (case zqk8 => (first | (dsimp only [ktrTop, Around.deeper]; omega) | ktr_room)); (case zqk9 => first | exact BindsTo.of_eq rfl | exact binds_K (by k_in) rfl (by k_is) rfl rfl rfl); (case zqc5 => decide); (case zqkB => exact locs rfl); (case zqc2 => exact rfl); (case zqc3 => exact rfl); (case zqc4 => exact rfl); k_whole; intro g' L' h' FG' F' N' B' X' T'; (try dsimp only); (try k_lift B'); (try k_fold))
      k_steps
      all_goals (refine' cb_retI hret ?zqe1 ?zqe2 ?zqe3; (case zqe2 => assumption); (case zqe3 => first | assumption | (refine' cb_drop ?zqcbN ?zqcbS; (case zqcbN => assumption); (case zqcbS => (first | exact (fun _ hp => hp) | exact (fun _ hp => List.Mem.tail _ hp) | exact (fun _ hp => List.Mem.tail _ (List.Mem.tail _ hp)) | exact (fun _ hp => List.Mem.tail _ (List.Mem.tail _ (List.Mem.tail _ hp))) | kcj_all)))); (case zqe1 => clear hret; (repeat (rename Fr _ _ _ _ => hz9; clear hz9)); (repeat (rename News _ _ _ _ => hz9; clear hz9)); (repeat (rename Below _ _ _ _ => hz9; clear hz9)); (repeat (rename Top _ _ _ _ _ _ => hz9; clear hz9)); (repeat (rename Frag.In _ _ => hz9; clear hz9)); (try clear qk ek); unfold sun; (try simp only [Int.fmod_eq_emod_of_nonneg, Int.fdiv_eq_ediv_of_nonneg, Int.reduceLE] at *); (first | done | rfl | omega | cb_eq)))
  have c_law_epact : ∀ (w : World) (p : Program) (loose : List Str) (mean : ExcName → Option Value) (mg mb : Str → Option Value) (news : List (Addr × Obj)) (y : Int) (t_y : Tok), Cl PySem.Challenge.rw_jk0006_01.row.prog w (Mine.holds.heap_1_39 w.params) p loose mean mg mb 243 news 2 [.int y t_y] (RetI news (lawEpact y)) := by
    as_aux_lemma =>
      clear c_trunc c_isleap c_jwday c_weekday_before c_law_first c_law_sunday
      intro w p loose mean mg mb news y t_y
      k_fill
      k_with_none
      k_with "mine ec" => ((with_reducible show wpAny _ _ (eval (Expr.Call (Expr.Name _ _) _ [] _) _) _ _ _); k_dflt (refine Call_ ?_))
      k_with "mine in" => ((with_reducible show wpAny _ _ (compareOp CmpOp.In (Value.int _ _) (Value.ref _)) _ _ _); k_dflt (refine' in30 ?zqt ?_; (case zqt => exact tupK (Frag.In.keeps (by k_asm) (Fr.keep (by k_asm))) (by k_is)); k_whole))
      k_with "mine seq" => ((with_reducible show wpAny _ _ (execs _ _) _ _ (Shared.mk _ _ _ (_ + _) _)); (try dsimp only); refine gen_toks ?_; intro tk9)
      unfold Cl RetI
      intros
      rename_i hret
      refine wpAny_call ?_
      k_dflt (refine' code_def ?zqk1 ?zqk2 ?zqk3 ?zqk4 ?zqk5 ?zqkA ?zqkF ?zqkK ?zqk6 ?zqk7 ?zqk8 ?zqk9 ?zqkB ?_ ?zqc2 ?zqc3 ?zqc4 ?zqc5; (case zqkA => exact rfl); (case zqkF => exact rfl); (case zqkK => first | exact rfl | assumption); (case zqk1 => k_asm); (case zqk2 => k_asm); (case zqk3 => k_asm); (case zqk4 => k_asm); (case zqk5 => k_asm); (case zqk6 => k_is); (case zqk7 => k_is); (case zqk8 => (first | (dsimp only [ktrTop, Around.deeper]; omega) | ktr_room)); (case zqk9 => first | exact BindsTo.of_eq rfl | exact binds_K (by k_in) rfl (by k_is) rfl rfl rfl); (case zqc5 => decide); (case zqkB => exact locs rfl); (case zqc2 => exact rfl); (case zqc3 => exact rfl); (case zqc4 => exact rfl); k_whole; intro g' L' h' FG' F' N' B' X' T'; (try dsimp only); (try k_lift B'); (try k_fold))
      k_steps
      all_goals (refine' cb_retI hret ?zqe1 ?zqe2 ?zqe3; (case zqe2 => assumption); (case zqe3 => first | assumption | (refine' cb_drop ?zqcbN ?zqcbS; (case zqcbN => assumption); (case zqcbS => (first | exact (fun _ hp => hp) | exact (fun _ hp => List.Mem.tail _ hp) | exact (fun _ hp => List.Mem.tail _ (List.Mem.tail _ hp)) | exact (fun _ hp => List.Mem.tail _ (List.Mem.tail _ (List.Mem.tail _ hp))) | kcj_all)))); (case zqe1 => clear hret; (repeat (rename Fr _ _ _ _ => hz9; clear hz9)); (repeat (rename News _ _ _ _ => hz9; clear hz9)); (repeat (rename Below _ _ _ _ => hz9; clear hz9)); (repeat (rename Top _ _ _ _ _ _ => hz9; clear hz9)); (repeat (rename Frag.In _ _ => hz9; clear hz9)); (try clear qk ek); unfold lawEpact; (try simp only [Int.fmod_eq_emod_of_nonneg, Int.fdiv_eq_ediv_of_nonneg, Int.reduceLE] at *); (first | done | rfl | omega | cb_eq)))
  have c_law_western : ∀ (w : World) (p : Program) (loose : List Str) (mean : ExcName → Option Value) (mg mb : Str → Option Value) (news : List (Addr × Obj)) (y : Int) (t_y : Tok), Cl PySem.Challenge.rw_jk0006_01.row.prog w (Mine.holds.heap_1_39 w.params) p loose mean mg mb 250 news 4 [.int y t_y] (RetI news (lawWestern y)) := by
    as_aux_lemma =>
      clear c_trunc c_isleap c_jwday c_weekday_before
      intro w p loose mean mg mb news y t_y
      k_fill
      k_with_none
      k_with "mine call" => ((with_reducible show wpAny _ _ (call (Value.ref 222) _) _ _ _); k_dflt (refine' use_cl (c_law_first _ _ _ _ _ _ _ _ _ ) ?zqk1 ?zqk2 ?zqk3 ?zqk4 ?zqk5 ?zqkK ?zqkd ?zqku ?_); (case zqk1 => k_asm); (case zqk2 => k_asm); (case zqk3 => k_asm); (case zqk4 => k_asm); (case zqk5 => k_asm); (case zqkK => first | exact rfl | assumption); (case zqkd => (first | (dsimp only [ktrTop, Around.deeper]; omega) | ktr_room)); (case zqku => (first | (dsimp only [ktrTop, Around.deeper]; omega) | ktr_units)); intro t9 h9 tk9 F9 N9; (try dsimp only); (try k_sweep); (try k_fold))
      k_with "mine call" => ((with_reducible show wpAny _ _ (call (Value.ref 236) _) _ _ _); k_dflt (refine' use_cl (c_law_sunday _ _ _ _ _ _ _ _ _ ) ?zqk1 ?zqk2 ?zqk3 ?zqk4 ?zqk5 ?zqkK ?zqkd ?zqku ?_); (case zqk1 => k_asm); (case zqk2 => k_asm); (case zqk3 => k_asm); (case zqk4 => k_asm); (case zqk5 => k_asm); (case zqkK => first | exact rfl | assumption); (case zqkd => (first | (dsimp only [ktrTop, Around.deeper]; omega) | ktr_room)); (case zqku => (first | (dsimp only [ktrTop, Around.deeper]; omega) | ktr_units)); intro t9 h9 tk9 F9 N9; (try dsimp only); (try k_sweep); (try k_fold))
      k_with "mine call" => ((with_reducible show wpAny _ _ (call (Value.ref 243) _) _ _ _); k_dflt (refine' use_cl (c_law_epact _ _ _ _ _ _ _ _ _ ) ?zqk1 ?zqk2 ?zqk3 ?zqk4 ?zqk5 ?zqkK ?zqkd ?zqku ?_); (case zqk1 => k_asm); (case zqk2 => k_asm); (case zqk3 => k_asm); (case zqk4 => k_asm); (case zqk5 => k_asm); (case zqkK => first | exact rfl | assumption); (case zqkd => (first | (dsimp only [ktrTop, Around.deeper]; omega) | ktr_room)); (case zqku => (first | (dsimp only [ktrTop, Around.deeper]; omega) | ktr_units)); intro t9 h9 tk9 F9 N9; (try dsimp only); (try k_sweep); (try k_fold))
      k_with "mine ec" => ((with_reducible show wpAny _ _ (eval (Expr.Call (Expr.Name _ _) _ [] _) _) _ _ _); k_dflt (refine Call_ ?_))
      k_with "mine in" => ((with_reducible show wpAny _ _ (compareOp CmpOp.In (Value.int _ _) (Value.ref _)) _ _ _); k_dflt (refine' in30 ?zqt ?_; (case zqt => exact tupK (Frag.In.keeps (by k_asm) (Fr.keep (by k_asm))) (by k_is)); k_whole))
      k_with "mine seq" => ((with_reducible show wpAny _ _ (execs _ _) _ _ (Shared.mk _ _ _ (_ + _) _)); (try dsimp only); refine gen_toks ?_; intro tk9)
      unfold Cl RetI
      intros
      rename_i hret
      refine wpAny_call ?_
      k_dflt (refine' code_def ?zqk1 ?zqk2 ?zqk3 ?zqk4 ?zqk5 ?zqkA ?zqkF ?zqkK ?zqk6 ?zqk7 ?zqk8 ?zqk9 ?zqkB ?_ ?zqc2 ?zqc3 ?zqc4 ?zqc5; (case zqkA => exact rfl); (case zqkF => exact rfl); (case zqkK => first | exact rfl | assumption); (case zqk1 => k_asm); (case zqk2 => k_asm); (case zqk3 => k_asm); (case zqk4 => k_asm); (case zqk5 => k_asm); (case zqk6 => k_is); (case zqk7 => k_is); (case zqk8 => (first | (dsimp only [ktrTop, Around.deeper]; omega) | ktr_room)); (case zqk9 => first | exact BindsTo.of_eq rfl | exact binds_K (by k_in) rfl (by k_is) rfl rfl rfl); (case zqc5 => decide); (case zqkB => exact locs rfl); (case zqc2 => exact rfl); (case zqc3 => exact rfl); (case zqc4 => exact rfl); k_whole; intro g' L' h' FG' F' N' B' X' T'; (try dsimp only); (try k_lift B'); (try k_fold))
      k_steps
      all_goals (refine' cb_retI hret ?zqe1 ?zqe2 ?zqe3; (case zqe2 => assumption); (case zqe3 => first | assumption | (refine' cb_drop ?zqcbN ?zqcbS; (case zqcbN => assumption); (case zqcbS => (first | exact (fun _ hp => hp) | exact (fun _ hp => List.Mem.tail _ hp) | exact (fun _ hp => List.Mem.tail _ (List.Mem.tail _ hp)) | exact (fun _ hp => List.Mem.tail _ (List.Mem.tail _ (List.Mem.tail _ hp))) | kcj_all)))); (case zqe1 => clear hret; (try clear c_law_first c_law_sunday c_law_epact); (repeat (rename Fr _ _ _ _ => hz9; clear hz9)); (repeat (rename News _ _ _ _ => hz9; clear hz9)); (repeat (rename Below _ _ _ _ => hz9; clear hz9)); (repeat (rename Top _ _ _ _ _ _ => hz9; clear hz9)); (repeat (rename Frag.In _ _ => hz9; clear hz9)); (try clear qk ek); unfold lawWestern lawFull; (try simp only [Int.fmod_eq_emod_of_nonneg, Int.fdiv_eq_ediv_of_nonneg, Int.reduceLE] at *); (first | rfl | ((congr 2; (repeat' split)) <;> omega))))
  have c_law_old : ∀ (w : World) (p : Program) (loose : List Str) (mean : ExcName → Option Value) (mg mb : Str → Option Value) (news : List (Addr × Obj)) (y : Int) (t_y : Tok) (z : Int) (t_z : Tok), Cl PySem.Challenge.rw_jk0006_01.row.prog w (Mine.holds.heap_1_39 w.params) p loose mean mg mb 257 news 4 [.int y t_y, .int z t_z] (RetI news (lawOld y z)) := by
    as_aux_lemma =>
      clear c_trunc c_isleap c_jwday c_weekday_before c_law_first c_law_epact c_law_western
      intro w p loose mean mg mb news y t_y z t_z
      k_fill
      k_with_none
      k_with "mine call" => ((with_reducible show wpAny _ _ (call (Value.ref 236) _) _ _ _); k_dflt (refine' use_cl (c_law_sunday _ _ _ _ _ _ _ _ _ ) ?zqk1 ?zqk2 ?zqk3 ?zqk4 ?zqk5 ?zqkK ?zqkd ?zqku ?_); (case zqk1 => k_asm); (case zqk2 => k_asm); (case zqk3 => k_asm); (case zqk4 => k_asm); (case zqk5 => k_asm); (case zqkK => first | exact rfl | assumption); (case zqkd => (first | (dsimp only [ktrTop, Around.deeper]; omega) | ktr_room)); (case zqku => (first | (dsimp only [ktrTop, Around.deeper]; omega) | ktr_units)); intro t9 h9 tk9 F9 N9; (try dsimp only); (try k_sweep); (try k_fold))
      k_with "mine ec" => ((with_reducible show wpAny _ _ (eval (Expr.Call (Expr.Name _ _) _ [] _) _) _ _ _); k_dflt (refine Call_ ?_))
      k_with "mine in" => ((with_reducible show wpAny _ _ (compareOp CmpOp.In (Value.int _ _) (Value.ref _)) _ _ _); k_dflt (refine' in30 ?zqt ?_; (case zqt => exact tupK (Frag.In.keeps (by k_asm) (Fr.keep (by k_asm))) (by k_is)); k_whole))
      k_with "mine seq" => ((with_reducible show wpAny _ _ (execs _ _) _ _ (Shared.mk _ _ _ (_ + _) _)); (try dsimp only); refine gen_toks ?_; intro tk9)
      unfold Cl RetI
      intros
      rename_i hret
      refine wpAny_call ?_
      k_dflt (refine' code_def ?zqk1 ?zqk2 ?zqk3 ?zqk4 ?zqk5 ?zqkA ?zqkF ?zqkK ?zqk6 ?zqk7 ?zqk8 ?zqk9 ?zqkB ?_ ?zqc2 ?zqc3 ?zqc4 ?zqc5; (case zqkA => exact rfl); (case zqkF => exact rfl); (case zqkK => first | exact rfl | assumption); (case zqk1 => k_asm); (case zqk2 => k_asm); (case zqk3 => k_asm); (case zqk4 => k_asm); (case zqk5 => k_asm); (case zqk6 => k_is); (case zqk7 => k_is); (case zqk8 => (first | (dsimp only [ktrTop, Around.deeper]; omega) | ktr_room)); (case zqk9 => first | exact BindsTo.of_eq rfl | exact binds_K (by k_in) rfl (by k_is) rfl rfl rfl); (case zqc5 => decide); (case zqkB => exact locs rfl); (case zqc2 => exact rfl); (case zqc3 => exact rfl); (case zqc4 => exact rfl); k_whole; intro g' L' h' FG' F' N' B' X' T'; (try dsimp only); (try k_lift B'); (try k_fold))
      k_steps
      all_goals (refine' cb_retI hret ?zqe1 ?zqe2 ?zqe3; (case zqe2 => assumption); (case zqe3 => first | assumption | (refine' cb_drop ?zqcbN ?zqcbS; (case zqcbN => assumption); (case zqcbS => (first | exact (fun _ hp => hp) | exact (fun _ hp => List.Mem.tail _ hp) | exact (fun _ hp => List.Mem.tail _ (List.Mem.tail _ hp)) | exact (fun _ hp => List.Mem.tail _ (List.Mem.tail _ (List.Mem.tail _ hp))) | kcj_all)))); (case zqe1 => clear hret; (try clear c_law_sunday); (repeat (rename Fr _ _ _ _ => hz9; clear hz9)); (repeat (rename News _ _ _ _ => hz9; clear hz9)); (repeat (rename Below _ _ _ _ => hz9; clear hz9)); (repeat (rename Top _ _ _ _ _ _ => hz9; clear hz9)); (repeat (rename Frag.In _ _ => hz9; clear hz9)); (try clear qk ek); unfold lawOld; (try simp only [Int.fmod_eq_emod_of_nonneg, Int.fdiv_eq_ediv_of_nonneg, Int.reduceLE] at *); (first | done | rfl | omega | cb_eq)))
  have c_legal_date_gregorian : ∀ (w : World) (p : Program) (loose : List Str) (mean : ExcName → Option Value) (mg mb : Str → Option Value) (news : List (Addr × Obj)) (y : Int) (t_y : Tok) (m : Int) (t_m : Tok) (d : Int) (t_d : Tok) (hp0 : 1 ≤ m ∧ m ≤ 12) (hp1 : 1 ≤ d ∧ d ≤ dim y m), Cl PySem.Challenge.rw_jk0006_01.row.prog w (Mine.holds.heap_1_39 w.params) p loose mean mg mb 86 news 3 [.int y t_y, .int m t_m, .int d t_d] (RetB news true) := by
    as_aux_lemma =>
      clear c_trunc c_jwday c_weekday_before c_law_first c_law_sunday c_law_epact c_law_western c_law_old
      intro w p loose mean mg mb news y t_y m t_m d t_d hp0 hp1
      k_fill
      k_with_none
      k_with "mine call" => ((with_reducible show wpAny _ _ (call (Value.ref 22) _) _ _ _); k_dflt (refine' use_cl (c_isleap _ _ _ _ _ _ _ _ _ ) ?zqk1 ?zqk2 ?zqk3 ?zqk4 ?zqk5 ?zqkK ?zqkd ?zqku ?_); (case zqk1 => k_asm); (case zqk2 => k_asm); (case zqk3 => k_asm); (case zqk4 => k_asm); (case zqk5 => k_asm); (case zqkK => first | exact rfl | assumption); (case zqkd => (first | (dsimp only [ktrTop, Around.deeper]; omega) | ktr_room)); (case zqku => (first | (dsimp only [ktrTop, Around.deeper]; omega) | ktr_units)); intro t9 h9 tk9 F9 N9; (try dsimp only); (try k_sweep); (try k_fold))
      k_with "mine ec" => ((with_reducible show wpAny _ _ (eval (Expr.Call (Expr.Name _ _) _ [] _) _) _ _ _); k_dflt (refine Call_ ?_))
      k_with "mine in" => ((with_reducible show wpAny _ _ (compareOp CmpOp.In (Value.int _ _) (Value.ref _)) _ _ _); k_dflt (refine' in30 ?zqt ?_; (case zqt => exact tupK (Frag.In.keeps (by k_asm) (Fr.keep (by k_asm))) (by k_is)); k_whole))
      k_with "mine seq" => ((with_reducible show wpAny _ _ (execs _ _) _ _ (Shared.mk _ _ _ (_ + _) _)); (try dsimp only); refine gen_toks ?_; intro tk9)
      k_with "mine raise" => (exfalso; (repeat (rename Fr _ _ _ _ => hz9; clear hz9)); (repeat (rename News _ _ _ _ => hz9; clear hz9)); (repeat (rename Below _ _ _ _ => hz9; clear hz9)); (repeat (rename Top _ _ _ _ _ _ => hz9; clear hz9)); (repeat (rename Frag.In _ _ => hz9; clear hz9)); (try clear qk ek); (try simp only [Int.fmod_eq_emod_of_nonneg, Int.fdiv_eq_ediv_of_nonneg, Int.reduceLE] at *); (have hc9 := cum_cases y m hp0.1 hp0.2); (have hl9 := li_cases y); (try (rename (leapB _ = _) => hb9; simp only [hb9, Bool.true_eq_false, Bool.false_eq_true, false_and, and_false, or_false, false_or, true_and, eq_self] at hl9)); omega)
      unfold Cl RetB
      intros
      rename_i hret
      refine wpAny_call ?_
      k_dflt (refine' code_def ?zqk1 ?zqk2 ?zqk3 ?zqk4 ?zqk5 ?zqkA ?zqkF ?zqkK ?zqk6 ?zqk7 ?zqk8 ?zqk9 ?zqkB ?_ ?zqc2 ?zqc3 ?zqc4 ?zqc5; (case zqkA => exact rfl); (case zqkF => exact rfl); (case zqkK => first | exact rfl | assumption); (case zqk1 => k_asm); (case zqk2 => k_asm); (case zqk3 => k_asm); (case zqk4 => k_asm); (case zqk5 => k_asm); (case zqk6 => k_is); (case zqk7 => k_is); (case zqk8 => (first | (dsimp only [ktrTop, Around.deeper]; omega) | ktr_room)); (case zqk9 => first | exact BindsTo.of_eq rfl | exact binds_K (by k_in) rfl (by k_is) rfl rfl rfl); (case zqc5 => decide); (case zqkB => exact locs rfl); (case zqc2 => exact rfl); (case zqc3 => exact rfl); (case zqc4 => exact rfl); k_whole; intro g' L' h' FG' F' N' B' X' T'; (try dsimp only); (try k_lift B'); (try k_fold))
      k_steps
      all_goals (refine' cb_retB hret ?zqe1 ?zqe2 ?zqe3; (case zqe2 => assumption); (case zqe3 => first | assumption | (refine' cb_drop ?zqcbN ?zqcbS; (case zqcbN => assumption); (case zqcbS => (first | exact (fun _ hp => hp) | exact (fun _ hp => List.Mem.tail _ hp) | exact (fun _ hp => List.Mem.tail _ (List.Mem.tail _ hp)) | exact (fun _ hp => List.Mem.tail _ (List.Mem.tail _ (List.Mem.tail _ hp))) | kcj_all)))); (case zqe1 => clear hret; (try clear c_isleap); (repeat (rename Fr _ _ _ _ => hz9; clear hz9)); (repeat (rename News _ _ _ _ => hz9; clear hz9)); (repeat (rename Below _ _ _ _ => hz9; clear hz9)); (repeat (rename Top _ _ _ _ _ _ => hz9; clear hz9)); (repeat (rename Frag.In _ _ => hz9; clear hz9)); (try clear qk ek); rfl))
  have c_to_jd_gregorian : ∀ (w : World) (p : Program) (loose : List Str) (mean : ExcName → Option Value) (mg mb : Str → Option Value) (news : List (Addr × Obj)) (y : Int) (t_y : Tok) (m : Int) (t_m : Tok) (d : Int) (t_d : Tok) (hp0 : 1 ≤ m ∧ m ≤ 12) (hp1 : 1 ≤ d ∧ d ≤ dim y m), Cl PySem.Challenge.rw_jk0006_01.row.prog w (Mine.holds.heap_1_39 w.params) p loose mean mg mb 93 news 5 [.int y t_y, .int m t_m, .int d t_d] (RetI news (num y m d)) := by
    as_aux_lemma =>
      clear c_trunc c_jwday c_weekday_before c_law_first c_law_sunday c_law_epact c_law_western c_law_old
      intro w p loose mean mg mb news y t_y m t_m d t_d hp0 hp1
      k_fill
      k_with_none
      k_with "mine call" => ((with_reducible show wpAny _ _ (call (Value.ref 22) _) _ _ _); k_dflt (refine' use_cl (c_isleap _ _ _ _ _ _ _ _ _ ) ?zqk1 ?zqk2 ?zqk3 ?zqk4 ?zqk5 ?zqkK ?zqkd ?zqku ?_); (case zqk1 => k_asm); (case zqk2 => k_asm); (case zqk3 => k_asm); (case zqk4 => k_asm); (case zqk5 => k_asm); (case zqkK => first | exact rfl | assumption); (case zqkd => (first | (dsimp only [ktrTop, Around.deeper]; omega) | ktr_room)); (case zqku => (first | (dsimp only [ktrTop, Around.deeper]; omega) | ktr_units)); intro t9 h9 tk9 F9 N9; (try dsimp only); (try k_sweep); (try k_fold))
      k_with "mine call" => ((with_reducible show wpAny _ _ (call (Value.ref 86) _) _ _ _); k_dflt (refine' use_cl (c_legal_date_gregorian _ _ _ _ _ _ _ _ _ _ _ _ _ ?zqp0 ?zqp1) ?zqk1 ?zqk2 ?zqk3 ?zqk4 ?zqk5 ?zqkK ?zqkd ?zqku ?_); (case zqp0 => first | assumption | ((try dsimp only); first | omega | ((try law_fm); omega)) | k_dflt (k_extra "mine prem") | l_fact); (case zqp1 => first | assumption | ((try dsimp only); first | omega | ((try law_fm); omega)) | k_dflt (k_extra "mine prem") | l_fact); (case zqk1 => k_asm); (case zqk2 => k_asm); (case zqk3 => k_asm); (case zqk4 => k_asm); (case zqk5 => k_asm); (case zqkK => first | exact rfl | assumption); (case zqkd => (first | (dsimp only [ktrTop, Around.deeper]; omega) | ktr_room)); (case zqku => (first | (dsimp only [ktrTop, Around.deeper]; omega) | ktr_units)); intro t9 h9 tk9 F9 N9; (try dsimp only); (try k_sweep); (try k_fold))
      k_with "mine ec" => ((with_reducible show wpAny _ _ (eval (Expr.Call (Expr.Name _ _) _ [] _) _) _ _ _); k_dflt (refine Call_ ?_))
      k_with "mine in" => ((with_reducible show wpAny _ _ (compareOp CmpOp.In (Value.int _ _) (Value.ref _)) _ _ _); k_dflt (refine' in30 ?zqt ?_; (case zqt => exact tupK (Frag.In.keeps (by k_asm) (Fr.keep (by k_asm))) (by k_is)); k_whole))
      k_with "mine seq" => ((with_reducible show wpAny _ _ (execs _ _) _ _ (Shared.mk _ _ _ (_ + _) _)); (try dsimp only); refine gen_toks ?_; intro tk9)
      unfold Cl RetI
      intros
      rename_i hret
      refine wpAny_call ?_
      k_dflt (refine' code_def ?zqk1 ?zqk2 ?zqk3 ?zqk4 ?zqk5 ?zqkA ?zqkF ?zqkK ?zqk6 ?zqk7 ?zqk8 ?zqk9 ?zqkB ?_ ?zqc2 ?zqc3 ?zqc4 ?zqc5; (case zqkA => exact rfl); (case zqkF => exact rfl); (case zqkK => first | exact rfl | assumption); (case zqk1 => k_asm); (case zqk2 => k_asm); (case zqk3 => k_asm); (case zqk4 => k_asm); (case zqk5 => k_asm); (case zqk6 => k_is); (case zqk7 => k_is); (case zqk8 => (first | (dsimp only [ktrTop, Around.deeper]; omega) | ktr_room)); (case zqk9 => first | exact BindsTo.of_eq rfl | exact binds_K (by k_in) rfl (by k_is) rfl rfl rfl); (case zqc5 => decide); (case zqkB => exact locs rfl); (case zqc2 => exact rfl); (case zqc3 => exact rfl); (case zqc4 => exact rfl); k_whole; intro g' L' h' FG' F' N' B' X' T'; (try dsimp only); (try k_lift B'); (try k_fold))
      k_steps
      all_goals (refine' cb_retI hret ?zqe1 ?zqe2 ?zqe3; (case zqe2 => assumption); (case zqe3 => first | assumption | (refine' cb_drop ?zqcbN ?zqcbS; (case zqcbN => assumption); (case zqcbS => (first | exact (fun _ hp => hp) | exact (fun _ hp => List.Mem.tail _ hp) | exact (fun _ hp => List.Mem.tail _ (List.Mem.tail _ hp)) | exact (fun _ hp => List.Mem.tail _ (List.Mem.tail _ (List.Mem.tail _ hp))) | kcj_all)))); (case zqe1 => clear hret; (try clear c_isleap c_legal_date_gregorian); (repeat (rename Fr _ _ _ _ => hz9; clear hz9)); (repeat (rename News _ _ _ _ => hz9; clear hz9)); (repeat (rename Below _ _ _ _ => hz9; clear hz9)); (repeat (rename Top _ _ _ _ _ _ => hz9; clear hz9)); (repeat (rename Frag.In _ _ => hz9; clear hz9)); (try clear qk ek); unfold num firstN cum li; (try simp only [Int.fmod_eq_emod_of_nonneg, Int.fdiv_eq_ediv_of_nonneg, Int.reduceLE] at *); (repeat' split) <;> (first | omega | (simp_all; done) | (simp_all; omega))))
  have c_n_weeks : ∀ (w : World) (p : Program) (loose : List Str) (mean : ExcName → Option Value) (mg mb : Str → Option Value) (news : List (Addr × Obj)) (t_k : Tok) (j : Int) (t_j : Tok) (z : Int) (t_z : Tok) (hp0 : 0 < z), Cl PySem.Challenge.rw_jk0006_01.row.prog w (Mine.holds.heap_1_39 w.params) p loose mean mg mb 78 news 6 [.int 6 t_k, .int j t_j, .int z t_z] (RetI news (7 * z + (j - 1 - (j - 1 - 6) % 7))) := by
    as_aux_lemma =>
      clear c_trunc c_isleap c_jwday c_law_first c_law_sunday c_law_epact c_law_western c_law_old c_legal_date_gregorian c_to_jd_gregorian
      intro w p loose mean mg mb news t_k j t_j z t_z hp0
      k_fill
      k_with_none
      k_with "mine call" => ((with_reducible show wpAny _ _ (call (Value.ref 50) _) _ _ _); k_dflt (refine' use_cl (c_weekday_before _ _ _ _ _ _ _ _ _ _ _ ) ?zqk1 ?zqk2 ?zqk3 ?zqk4 ?zqk5 ?zqkK ?zqkd ?zqku ?_); (case zqk1 => k_asm); (case zqk2 => k_asm); (case zqk3 => k_asm); (case zqk4 => k_asm); (case zqk5 => k_asm); (case zqkK => first | exact rfl | assumption); (case zqkd => (first | (dsimp only [ktrTop, Around.deeper]; omega) | ktr_room)); (case zqku => (first | (dsimp only [ktrTop, Around.deeper]; omega) | ktr_units)); intro t9 h9 tk9 F9 N9; (try dsimp only); (try k_sweep); (try k_fold))
      k_with "mine call" => ((first | (with_reducible show wpAny _ _ (call (Value.ref 57) _ _) _ _ _) | (with_reducible show wpAny _ _ (call (Value.ref 64) _ _) _ _ _) | (with_reducible show wpAny _ _ (call (Value.ref 71) _ _) _ _ _)); k_dflt (refine wpAny_call ?_; (refine' code_def ?zqk1 ?zqk2 ?zqk3 ?zqk4 ?zqk5 ?zqkA ?zqkF ?zqkK ?zqk6 ?zqk7 ?zqk8 ?zqk9 ?zqkB ?_ ?zqc2 ?zqc3 ?zqc4 ?zqc5; (case zqkA => exact rfl); (case zqkF => exact rfl); (case zqkK => first | exact rfl | assumption); (case zqk1 => k_asm); (case zqk2 => k_asm); (case zqk3 => k_asm); (case zqk4 => k_asm); (case zqk5 => k_asm); (case zqk6 => k_is); (case zqk7 => k_is); (case zqk8 => (first | (dsimp only [ktrTop, Around.deeper]; omega) | ktr_room)); (case zqk9 => first | exact BindsTo.of_eq rfl | exact binds_K (by k_in) rfl (by k_is) rfl rfl rfl); (case zqc5 => decide); (case zqkB => exact locs rfl); (case zqc2 => exact rfl); (case zqc3 => exact rfl); (case zqc4 => exact rfl); k_whole; intro g' L' h' FG' F' N' B' X' T'; (try dsimp only); (try k_lift B'); (try k_fold))))
      k_with "mine ec" => ((with_reducible show wpAny _ _ (eval (Expr.Call (Expr.Name _ _) _ [] _) _) _ _ _); k_dflt (refine Call_ ?_))
      k_with "mine in" => ((with_reducible show wpAny _ _ (compareOp CmpOp.In (Value.int _ _) (Value.ref _)) _ _ _); k_dflt (refine' in30 ?zqt ?_; (case zqt => exact tupK (Frag.In.keeps (by k_asm) (Fr.keep (by k_asm))) (by k_is)); k_whole))
      k_with "mine seq" => ((with_reducible show wpAny _ _ (execs _ _) _ _ (Shared.mk _ _ _ (_ + _) _)); (try dsimp only); refine gen_toks ?_; intro tk9)
      unfold Cl RetI
      intros
      rename_i hret
      refine wpAny_call ?_
      k_dflt (refine' code_def ?zqk1 ?zqk2 ?zqk3 ?zqk4 ?zqk5 ?zqkA ?zqkF ?zqkK ?zqk6 ?zqk7 ?zqk8 ?zqk9 ?zqkB ?_ ?zqc2 ?zqc3 ?zqc4 ?zqc5; (case zqkA => exact rfl); (case zqkF => exact rfl); (case zqkK => first | exact rfl | assumption); (case zqk1 => k_asm); (case zqk2 => k_asm); (case zqk3 => k_asm); (case zqk4 => k_asm); (case zqk5 => k_asm); (case zqk6 => k_is); (case zqk7 => k_is); (case zqk8 => (first | (dsimp only [ktrTop, Around.deeper]; omega) | ktr_room)); (case zqk9 => first | exact BindsTo.of_eq rfl | exact binds_K (by k_in) rfl (by k_is) rfl rfl rfl); (case zqc5 => decide); (case zqkB => exact locs rfl); (case zqc2 => exact rfl); (case zqc3 => exact rfl); (case zqc4 => exact rfl); k_whole; intro g' L' h' FG' F' N' B' X' T'; (try dsimp only); (try k_lift B'); (try k_fold))
      k_steps
      all_goals (refine' cb_retI hret ?zqe1 ?zqe2 ?zqe3; (case zqe2 => assumption); (case zqe3 => first | assumption | (refine' cb_drop ?zqcbN ?zqcbS; (case zqcbN => assumption); (case zqcbS => (first | exact (fun _ hp => hp) | exact (fun _ hp => List.Mem.tail _ hp) | exact (fun _ hp => List.Mem.tail _ (List.Mem.tail _ hp)) | exact (fun _ hp => List.Mem.tail _ (List.Mem.tail _ (List.Mem.tail _ hp))) | kcj_all)))); (case zqe1 => clear hret; (try clear c_weekday_before); (repeat (rename Fr _ _ _ _ => hz9; clear hz9)); (repeat (rename News _ _ _ _ => hz9; clear hz9)); (repeat (rename Below _ _ _ _ => hz9; clear hz9)); (repeat (rename Top _ _ _ _ _ _ => hz9; clear hz9)); (repeat (rename Frag.In _ _ => hz9; clear hz9)); (try clear qk ek); (try simp only [Int.fmod_eq_emod_of_nonneg, Int.fdiv_eq_ediv_of_nonneg, Int.reduceLE] at *); (first | done | rfl | omega | cb_eq)))
  have c_to_jd_iso : ∀ (w : World) (p : Program) (loose : List Str) (mean : ExcName → Option Value) (mg mb : Str → Option Value) (news : List (Addr × Obj)) (y : Int) (t_y : Tok) (k : Int) (t_k : Tok) (d : Int) (t_d : Tok) (hp0 : 0 < k), Cl PySem.Challenge.rw_jk0006_01.row.prog w (Mine.holds.heap_1_39 w.params) p loose mean mg mb 173 news 9 [.int y t_y, .int k t_k, .int d t_d] (RetI news (isoJ y k d)) := by
    as_aux_lemma =>
      clear c_trunc c_isleap c_jwday c_weekday_before c_law_first c_law_sunday c_law_epact c_law_western c_law_old c_legal_date_gregorian
      intro w p loose mean mg mb news y t_y k t_k d t_d hp0
      k_fill
      k_with_none
      k_with "mine call" => ((with_reducible show wpAny _ _ (call (Value.ref 93) _) _ _ _); k_dflt (refine' use_cl (c_to_jd_gregorian _ _ _ _ _ _ _ _ _ _ _ _ _ ?zqp0 ?zqp1) ?zqk1 ?zqk2 ?zqk3 ?zqk4 ?zqk5 ?zqkK ?zqkd ?zqku ?_); (case zqp0 => first | assumption | omega | (exact ⟨by decide, by decide⟩) | k_dflt (k_extra "mine prem")); (case zqp1 => first | assumption | exact ⟨by omega, Int.le_trans (by omega) (dim_ge _ _)⟩ | k_extra "mine prem1"); (case zqk1 => k_asm); (case zqk2 => k_asm); (case zqk3 => k_asm); (case zqk4 => k_asm); (case zqk5 => k_asm); (case zqkK => first | exact rfl | assumption); (case zqkd => (first | (dsimp only [ktrTop, Around.deeper]; omega) | ktr_room)); (case zqku => (first | (dsimp only [ktrTop, Around.deeper]; omega) | ktr_units)); intro t9 h9 tk9 F9 N9; (try dsimp only); (try k_sweep); (try k_fold))
      k_with "mine call" => ((with_reducible show wpAny _ _ (call (Value.ref 78) _) _ _ _); k_dflt (refine' use_cl (c_n_weeks _ _ _ _ _ _ _ _ _ _ _ _ ?zqp0) ?zqk1 ?zqk2 ?zqk3 ?zqk4 ?zqk5 ?zqkK ?zqkd ?zqku ?_); (case zqp0 => first | assumption | ((try dsimp only); first | omega | ((try law_fm); omega)) | k_dflt (k_extra "mine prem") | l_fact); (case zqk1 => k_asm); (case zqk2 => k_asm); (case zqk3 => k_asm); (case zqk4 => k_asm); (case zqk5 => k_asm); (case zqkK => first | exact rfl | assumption); (case zqkd => (first | (dsimp only [ktrTop, Around.deeper]; omega) | ktr_room)); (case zqku => (first | (dsimp only [ktrTop, Around.deeper]; omega) | ktr_units)); intro t9 h9 tk9 F9 N9; (try dsimp only); (try k_sweep); (try k_fold))
      k_with "mine ec" => ((with_reducible show wpAny _ _ (eval (Expr.Call (Expr.Name _ _) _ [] _) _) _ _ _); k_dflt (refine Call_ ?_))
      k_with "mine in" => ((with_reducible show wpAny _ _ (compareOp CmpOp.In (Value.int _ _) (Value.ref _)) _ _ _); k_dflt (refine' in30 ?zqt ?_; (case zqt => exact tupK (Frag.In.keeps (by k_asm) (Fr.keep (by k_asm))) (by k_is)); k_whole))
      k_with "mine seq" => ((with_reducible show wpAny _ _ (execs _ _) _ _ (Shared.mk _ _ _ (_ + _) _)); (try dsimp only); refine gen_toks ?_; intro tk9)
      unfold Cl RetI
      intros
      rename_i hret
      refine wpAny_call ?_
      k_dflt (refine' code_def ?zqk1 ?zqk2 ?zqk3 ?zqk4 ?zqk5 ?zqkA ?zqkF ?zqkK ?zqk6 ?zqk7 ?zqk8 ?zqk9 ?zqkB ?_ ?zqc2 ?zqc3 ?zqc4 ?zqc5; (case zqkA => exact rfl); (case zqkF => exact rfl); (case zqkK => first | exact rfl | assumption); (case zqk1 => k_asm); (case zqk2 => k_asm); (case zqk3 => k_asm); (case zqk4 => k_asm); (case zqk5 => k_asm); (case zqk6 => k_is); (case zqk7 => k_is); (case zqk8 => (first | (dsimp only [ktrTop, Around.deeper]; omega) | ktr_room)); (case zqk9 => first | exact BindsTo.of_eq rfl | exact binds_K (by k_in) rfl (by k_is) rfl rfl rfl); (case zqc5 => decide); (case zqkB => exact locs rfl); (case zqc2 => exact rfl); (case zqc3 => exact rfl); (case zqc4 => exact rfl); k_whole; intro g' L' h' FG' F' N' B' X' T'; (try dsimp only); (try k_lift B'); (try k_fold))
      k_steps
      all_goals (refine' cb_retI hret ?zqe1 ?zqe2 ?zqe3; (case zqe2 => assumption); (case zqe3 => first | assumption | (refine' cb_drop ?zqcbN ?zqcbS; (case zqcbN => assumption); (case zqcbS => (first | exact (fun _ hp => hp) | exact (fun _ hp => List.Mem.tail _ hp) | exact (fun _ hp => List.Mem.tail _ (List.Mem.tail _ hp)) | exact (fun _ hp => List.Mem.tail _ (List.Mem.tail _ (List.Mem.tail _ hp))) | kcj_all)))); (case zqe1 => clear hret; (try clear c_to_jd_gregorian c_n_weeks); (repeat (rename Fr _ _ _ _ => hz9; clear hz9)); (repeat (rename News _ _ _ _ => hz9; clear hz9)); (repeat (rename Below _ _ _ _ => hz9; clear hz9)); (repeat (rename Top _ _ _ _ _ _ => hz9; clear hz9)); (repeat (rename Frag.In _ _ => hz9; clear hz9)); (try clear qk ek); unfold isoJ; (try simp only [Int.fmod_eq_emod_of_nonneg, Int.fdiv_eq_ediv_of_nonneg, Int.reduceLE] at *); (first | done | rfl | omega | cb_eq)))
  have c_week1monday : ∀ (w : World) (p : Program) (loose : List Str) (mean : ExcName → Option Value) (mg mb : Str → Option Value) (news : List (Addr × Obj)) (y : Int) (t_y : Tok), Cl PySem.Challenge.rw_jk0006_01.row.prog w (Mine.holds.heap_1_39 w.params) p loose mean mg mb 187 news 8 [.int y t_y] (RetI news (wk1 y)) := by
    as_aux_lemma =>
      clear c_trunc c_isleap c_weekday_before c_law_first c_law_sunday c_law_epact c_law_western c_law_old c_legal_date_gregorian c_n_weeks c_to_jd_iso
      intro w p loose mean mg mb news y t_y
      k_fill
      k_with_none
      k_with "mine call" => ((with_reducible show wpAny _ _ (call (Value.ref 43) _) _ _ _); k_dflt (refine' use_cl (c_jwday _ _ _ _ _ _ _ _ _ ) ?zqk1 ?zqk2 ?zqk3 ?zqk4 ?zqk5 ?zqkK ?zqkd ?zqku ?_); (case zqk1 => k_asm); (case zqk2 => k_asm); (case zqk3 => k_asm); (case zqk4 => k_asm); (case zqk5 => k_asm); (case zqkK => first | exact rfl | assumption); (case zqkd => (first | (dsimp only [ktrTop, Around.deeper]; omega) | ktr_room)); (case zqku => (first | (dsimp only [ktrTop, Around.deeper]; omega) | ktr_units)); intro t9 h9 tk9 F9 N9; (try dsimp only); (try k_sweep); (try k_fold))
      k_with "mine call" => ((with_reducible show wpAny _ _ (call (Value.ref 93) _) _ _ _); k_dflt (refine' use_cl (c_to_jd_gregorian _ _ _ _ _ _ _ _ _ _ _ _ _ ?zqp0 ?zqp1) ?zqk1 ?zqk2 ?zqk3 ?zqk4 ?zqk5 ?zqkK ?zqkd ?zqku ?_); (case zqp0 => first | assumption | omega | (exact ⟨by decide, by decide⟩) | k_dflt (k_extra "mine prem")); (case zqp1 => first | assumption | exact ⟨by omega, Int.le_trans (by omega) (dim_ge _ _)⟩ | k_extra "mine prem1"); (case zqk1 => k_asm); (case zqk2 => k_asm); (case zqk3 => k_asm); (case zqk4 => k_asm); (case zqk5 => k_asm); (case zqkK => first | exact rfl | assumption); (case zqkd => (first | (dsimp only [ktrTop, Around.deeper]; omega) | ktr_room)); (case zqku => (first | (dsimp only [ktrTop, Around.deeper]; omega) | ktr_units)); intro t9 h9 tk9 F9 N9; (try dsimp only); (try k_sweep); (try k_fold))
      k_with "mine ec" => ((with_reducible show wpAny _ _ (eval (Expr.Call (Expr.Name _ _) _ [] _) _) _ _ _); k_dflt (refine Call_ ?_))
      k_with "mine in" => ((with_reducible show wpAny _ _ (compareOp CmpOp.In (Value.int _ _) (Value.ref _)) _ _ _); k_dflt (refine' in30 ?zqt ?_; (case zqt => exact tupK (Frag.In.keeps (by k_asm) (Fr.keep (by k_asm))) (by k_is)); k_whole))
      k_with "mine seq" => ((with_reducible show wpAny _ _ (execs _ _) _ _ (Shared.mk _ _ _ (_ + _) _)); (try dsimp only); refine gen_toks ?_; intro tk9)
      unfold Cl RetI
      intros
      rename_i hret
      refine wpAny_call ?_
      k_dflt (refine' code_def ?zqk1 ?zqk2 ?zqk3 ?zqk4 ?zqk5 ?zqkA ?zqkF ?zqkK ?zqk6 ?zqk7 ?zqk8 ?zqk9 ?zqkB ?_ ?zqc2 ?zqc3 ?zqc4 ?zqc5; (case zqkA => exact rfl); (case zqkF => exact rfl); (case zqkK => first | exact rfl | assumption); (case zqk1 => k_asm); (case zqk2 => k_asm); (case zqk3 => k_asm); (case zqk4 => k_asm); (case zqk5 => k_asm); (case zqk6 => k_is); (case zqk7 => k_is); (case zqk8 => (first | (dsimp only [ktrTop, Around.deeper]; omega) | ktr_room)); (case zqk9 => first | exact BindsTo.of_eq rfl | exact binds_K (by k_in) rfl (by k_is) rfl rfl rfl); (case zqc5 => decide); (case zqkB => exact locs rfl); (case zqc2 => exact rfl); (case zqc3 => exact rfl); (case zqc4 => exact rfl); k_whole; intro g' L' h' FG' F' N' B' X' T'; (try dsimp only); (try k_lift B'); (try k_fold))
      k_steps
      all_goals (refine' cb_retI hret ?zqe1 ?zqe2 ?zqe3; (case zqe2 => assumption); (case zqe3 => first | assumption | (refine' cb_drop ?zqcbN ?zqcbS; (case zqcbN => assumption); (case zqcbS => (first | exact (fun _ hp => hp) | exact (fun _ hp => List.Mem.tail _ hp) | exact (fun _ hp => List.Mem.tail _ (List.Mem.tail _ hp)) | exact (fun _ hp => List.Mem.tail _ (List.Mem.tail _ (List.Mem.tail _ hp))) | kcj_all)))); (case zqe1 => clear hret; (try clear c_jwday c_to_jd_gregorian); (repeat (rename Fr _ _ _ _ => hz9; clear hz9)); (repeat (rename News _ _ _ _ => hz9; clear hz9)); (repeat (rename Below _ _ _ _ => hz9; clear hz9)); (repeat (rename Top _ _ _ _ _ _ => hz9; clear hz9)); (repeat (rename Frag.In _ _ => hz9; clear hz9)); (try clear qk ek); (try simp only [Int.fmod_eq_emod_of_nonneg, Int.fdiv_eq_ediv_of_nonneg, Int.reduceLE] at *); (try simp only [num_first] at *); all_goals (unfold wk1; (repeat' split) <;> omega)))
  have c_to_jd_julian : ∀ (w : World) (p : Program) (loose : List Str) (mean : ExcName → Option Value) (mg mb : Str → Option Value) (news : List (Addr × Obj)) (y : Int) (t_y : Tok) (m : Int) (t_m : Tok) (d : Int) (t_d : Tok) (hp0 : 3 ≤ m ∧ m ≤ 4) (hp1 : 1 ≤ d ∧ d ≤ 34 - m), Cl PySem.Challenge.rw_jk0006_01.row.prog w (Mine.holds.heap_1_39 w.params) p loose mean mg mb 136 news 6 [.int y t_y, .int m t_m, .int d t_d] (RetI news (jdJ y m d)) := by
    as_aux_lemma =>
      clear c_trunc c_isleap c_jwday c_weekday_before c_law_first c_law_sunday c_law_epact c_law_western c_law_old c_legal_date_gregorian c_to_jd_gregorian c_n_weeks c_to_jd_iso c_week1monday
      intro w p loose mean mg mb news y t_y m t_m d t_d hp0 hp1
      k_fill
      k_with_none
      k_with "mine call" => ((first | (with_reducible show wpAny _ _ (call (Value.ref 115) _ _) _ _ _) | (with_reducible show wpAny _ _ (call (Value.ref 122) _ _) _ _ _) | (with_reducible show wpAny _ _ (call (Value.ref 129) _ _) _ _ _)); k_dflt (refine wpAny_call ?_; (refine' code_def ?zqk1 ?zqk2 ?zqk3 ?zqk4 ?zqk5 ?zqkA ?zqkF ?zqkK ?zqk6 ?zqk7 ?zqk8 ?zqk9 ?zqkB ?_ ?zqc2 ?zqc3 ?zqc4 ?zqc5; (case zqkA => exact rfl); (case zqkF => exact rfl); (case zqkK => first | exact rfl | assumption); (case zqk1 => k_asm); (case zqk2 => k_asm); (case zqk3 => k_asm); (case zqk4 => k_asm); (case zqk5 => k_asm); (case zqk6 => k_is); (case zqk7 => k_is); (case zqk8 => (first | (dsimp only [ktrTop, Around.deeper]; omega) | ktr_room)); (case zqk9 => first | exact BindsTo.of_eq rfl | exact binds_K (by k_in) rfl (by k_is) rfl rfl rfl); (case zqc5 => decide); (case zqkB => exact locs rfl); (case zqc2 => exact rfl); (case zqc3 => exact rfl); (case zqc4 => exact rfl); k_whole; intro g' L' h' FG' F' N' B' X' T'; (try dsimp only); (try k_lift B'); (try k_fold))))
      k_with "mine ec" => ((with_reducible show wpAny _ _ (eval (Expr.Call (Expr.Name _ _) _ [] _) _) _ _ _); k_dflt (refine Call_ ?_))
      k_with "mine in" => ((with_reducible show wpAny _ _ (compareOp CmpOp.In (Value.int _ _) (Value.ref _)) _ _ _); k_dflt (refine' in30 ?zqt ?_; (case zqt => exact tupK (Frag.In.keeps (by k_asm) (Fr.keep (by k_asm))) (by k_is)); k_whole))
      k_with "mine seq" => ((with_reducible show wpAny _ _ (execs _ _) _ _ (Shared.mk _ _ _ (_ + _) _)); (try dsimp only); refine gen_toks ?_; intro tk9)
      k_with "mine raise" => (exfalso; (repeat (rename Fr _ _ _ _ => hz9; clear hz9)); (repeat (rename News _ _ _ _ => hz9; clear hz9)); (repeat (rename Below _ _ _ _ => hz9; clear hz9)); (repeat (rename Top _ _ _ _ _ _ => hz9; clear hz9)); (repeat (rename Frag.In _ _ => hz9; clear hz9)); (try clear qk ek); (try simp only [Int.fmod_eq_emod_of_nonneg, Int.fdiv_eq_ediv_of_nonneg, Int.reduceLE] at *); omega)
      unfold Cl RetI
      intros
      rename_i hret
      refine wpAny_call ?_
      k_dflt (refine' code_def ?zqk1 ?zqk2 ?zqk3 ?zqk4 ?zqk5 ?zqkA ?zqkF ?zqkK ?zqk6 ?zqk7 ?zqk8 ?zqk9 ?zqkB ?_ ?zqc2 ?zqc3 ?zqc4 ?zqc5; (case zqkA => exact rfl); (case zqkF => exact rfl); (case zqkK => first | exact rfl | assumption); (case zqk1 => k_asm); (case zqk2 => k_asm); (case zqk3 => k_asm); (case zqk4 => k_asm); (case zqk5 => k_asm); (case zqk6 => k_is); (case zqk7 => k_is); (case zqk8 => (first | (dsimp only [ktrTop, Around.deeper]; omega) | ktr_room)); (case zqk9 => first | exact BindsTo.of_eq rfl | exact binds_K (by k_in) rfl (by k_is) rfl rfl rfl); (case zqc5 => decide); (case zqkB => exact locs rfl); (case zqc2 => exact rfl); (case zqc3 => exact rfl); (case zqc4 => exact rfl); k_whole; intro g' L' h' FG' F' N' B' X' T'; (try dsimp only); (try k_lift B'); (try k_fold))
      k_steps
      all_goals (refine' cb_retI hret ?zqe1 ?zqe2 ?zqe3; (case zqe2 => assumption); (case zqe3 => first | assumption | (refine' cb_drop ?zqcbN ?zqcbS; (case zqcbN => assumption); (case zqcbS => (first | exact (fun _ hp => hp) | exact (fun _ hp => List.Mem.tail _ hp) | exact (fun _ hp => List.Mem.tail _ (List.Mem.tail _ hp)) | exact (fun _ hp => List.Mem.tail _ (List.Mem.tail _ (List.Mem.tail _ hp))) | kcj_all)))); (case zqe1 => clear hret; (repeat (rename Fr _ _ _ _ => hz9; clear hz9)); (repeat (rename News _ _ _ _ => hz9; clear hz9)); (repeat (rename Below _ _ _ _ => hz9; clear hz9)); (repeat (rename Top _ _ _ _ _ _ => hz9; clear hz9)); (repeat (rename Frag.In _ _ => hz9; clear hz9)); (try clear qk ek); unfold jdJ; (try simp only [Int.fmod_eq_emod_of_nonneg, Int.fdiv_eq_ediv_of_nonneg, Int.reduceLE] at *); (first | done | rfl | omega | cb_eq)))
  have c_from_jd_gregorian : ∀ (w : World) (p : Program) (loose : List Str) (mean : ExcName → Option Value) (mg mb : Str → Option Value) (news : List (Addr × Obj)) (j : Int) (t_j : Tok), Cl PySem.Challenge.rw_jk0006_01.row.prog w (Mine.holds.heap_1_39 w.params) p loose mean mg mb 100 news 8 [.int j t_j] (RetT news (yr j) (mo j) (dy j)) := by
    as_aux_lemma =>
      clear c_trunc c_jwday c_weekday_before c_law_first c_law_sunday c_law_epact c_law_western c_law_old c_legal_date_gregorian c_n_weeks c_to_jd_iso c_week1monday c_to_jd_julian
      intro w p loose mean mg mb news j t_j
      k_fill
      k_with_none
      k_with "mine call" => ((with_reducible show wpAny _ _ (call (Value.ref 22) _) _ _ _); k_dflt (refine' use_cl (c_isleap _ _ _ _ _ _ _ _ _ ) ?zqk1 ?zqk2 ?zqk3 ?zqk4 ?zqk5 ?zqkK ?zqkd ?zqku ?_); (case zqk1 => k_asm); (case zqk2 => k_asm); (case zqk3 => k_asm); (case zqk4 => k_asm); (case zqk5 => k_asm); (case zqkK => first | exact rfl | assumption); (case zqkd => (first | (dsimp only [ktrTop, Around.deeper]; omega) | ktr_room)); (case zqku => (first | (dsimp only [ktrTop, Around.deeper]; omega) | ktr_units)); intro t9 h9 tk9 F9 N9; (try dsimp only); (try k_sweep); (try k_fold))
      k_with "mine call" => ((with_reducible show wpAny _ _ (call (Value.ref 93) _) _ _ _); k_dflt (refine' use_cl (c_to_jd_gregorian _ _ _ _ _ _ _ _ _ _ _ _ _ ?zqp0 ?zqp1) ?zqk1 ?zqk2 ?zqk3 ?zqk4 ?zqk5 ?zqkK ?zqkd ?zqku ?_); (case zqp0 => first | assumption | omega | (exact ⟨by decide, by decide⟩) | k_dflt (k_extra "mine prem")); (case zqp1 => first | assumption | exact ⟨by omega, Int.le_trans (by omega) (dim_ge _ _)⟩ | k_extra "mine prem1"); (case zqk1 => k_asm); (case zqk2 => k_asm); (case zqk3 => k_asm); (case zqk4 => k_asm); (case zqk5 => k_asm); (case zqkK => first | exact rfl | assumption); (case zqkd => (first | (dsimp only [ktrTop, Around.deeper]; omega) | ktr_room)); (case zqku => (first | (dsimp only [ktrTop, Around.deeper]; omega) | ktr_units)); intro t9 h9 tk9 F9 N9; (try dsimp only); (try k_sweep); (try k_fold))
      k_with "mine ec" => ((with_reducible show wpAny _ _ (eval (Expr.Call (Expr.Name _ _) _ [] _) _) _ _ _); k_dflt (refine Call_ ?_))
      k_with "mine in" => ((with_reducible show wpAny _ _ (compareOp CmpOp.In (Value.int _ _) (Value.ref _)) _ _ _); k_dflt (refine' in30 ?zqt ?_; (case zqt => exact tupK (Frag.In.keeps (by k_asm) (Fr.keep (by k_asm))) (by k_is)); k_whole))
      k_with "mine seq" => ((with_reducible show wpAny _ _ (execs (Stmt.If _ (Stmt.AugAssign _ _ _ _ :: _) _ _ :: _) _) _ _ _); k_dflt (k_extra "mine cut1"))
      k_with "mine seq" => ((with_reducible show wpAny _ _ (execs (Stmt.If _ (Stmt.Assign _ _ _ :: _) _ _ :: _) _) _ _ _); k_dflt (k_extra "mine cut2"))
      k_with "mine and" => (k_dflt (k_extra "mine end"))
      k_with "mine seq" => ((with_reducible show wpAny _ _ (execs _ _) _ _ (Shared.mk _ _ _ (_ + _) _)); (try dsimp only); refine gen_toks ?_; intro tk9)
      k_with "mine prem" => (exact adj_p j)
      k_with "mine cut1" => (refine' cut_year (PySem.Str.ofString "year") (fun y => y = yr j) ?zqF ?zqN ?_ ?_; (case zqF => k_asm); (case zqN => k_asm); (focus ((try dsimp only); (try k_fold))); rotate_left; (intro h9 tk9 y9 t9 hR9 F9 N9; (subst hR9); (try dsimp only); (try k_sweep); (try k_fold)); rotate_right)
      k_with "mine cut2" => (refine' cut_year (PySem.Str.ofString "leap_adj") (fun y => y = adj j) ?zqF ?zqN ?_ ?_; (case zqF => k_asm); (case zqN => k_asm); (focus ((try dsimp only); (try k_fold))); rotate_left; (intro h9 tk9 y9 t9 hR9 F9 N9; (subst hR9); (try dsimp only); (try k_sweep); (try k_fold)); rotate_right)
      k_with "mine end" => (refine' ⟨rfl, _, _, _, _, _, rfl, ?zqR, ?zqX, ?zqZ, ?zqF, ?zqN⟩; (case zqF => assumption); (case zqX => with_unfolding_all rfl); (case zqZ => intro z hz; first | rfl | exact if_neg hz); (case zqN => first | assumption | (refine' cb_drop ?zqcbN ?zqcbS; (case zqcbN => assumption); (case zqcbS => (first | exact (fun _ hp => hp) | exact (fun _ hp => List.Mem.tail _ hp) | exact (fun _ hp => List.Mem.tail _ (List.Mem.tail _ hp)) | exact (fun _ hp => List.Mem.tail _ (List.Mem.tail _ (List.Mem.tail _ hp))) | kcj_all)))); (case zqR => first | exact rfl | exact yr_e1 j (by assumption) | exact yr_e2 j (by assumption) | exact yr_e3 j (by assumption) (by assumption) | exact adj_e1 j (by assumption) | exact adj_e2 j (by assumption) (by assumption) | exact adj_e3 j (by assumption) (by assumption)))
      unfold Cl RetT
      intros
      rename_i hret
      refine wpAny_call ?_
      k_dflt (refine' code_def ?zqk1 ?zqk2 ?zqk3 ?zqk4 ?zqk5 ?zqkA ?zqkF ?zqkK ?zqk6 ?zqk7 ?zqk8 ?zqk9 ?zqkB ?_ ?zqc2 ?zqc3 ?zqc4 ?zqc5; (case zqkA => exact rfl); (case zqkF => exact rfl); (case zqkK => first | exact rfl | assumption); (case zqk1 => k_asm); (case zqk2 => k_asm); (case zqk3 => k_asm); (case zqk4 => k_asm); (case zqk5 => k_asm); (case zqk6 => k_is); (case zqk7 => k_is); (case zqk8 => (first | (dsimp only [ktrTop, Around.deeper]; omega) | ktr_room)); (case zqk9 => first | exact BindsTo.of_eq rfl | exact binds_K (by k_in) rfl (by k_is) rfl rfl rfl); (case zqc5 => decide); (case zqkB => exact locs rfl); (case zqc2 => exact rfl); (case zqc3 => exact rfl); (case zqc4 => exact rfl); k_whole; intro g' L' h' FG' F' N' B' X' T'; (try dsimp only); (try k_lift B'); (try k_fold))
      k_steps
      all_goals (refine' retT hret ?zqktf ?zqktn ?zqkth ?zqktl ?zqkte; (case zqktf => assumption); (case zqktn => kcu_news); (case zqkth => (first | exact (fun _ hp => hp) | exact (fun _ hp => List.Mem.tail _ hp) | exact (fun _ hp => List.Mem.tail _ (List.Mem.tail _ hp)) | exact (fun _ hp => List.Mem.tail _ (List.Mem.tail _ (List.Mem.tail _ hp))) | kcj_all)); (case zqktl => first | assumption | exact And.right (by assumption) | exact And.right (And.right (by assumption)) | kcu_lt); (case zqkte => clear hret; (try clear c_isleap c_to_jd_gregorian); (repeat (rename Fr _ _ _ _ => hz9; clear hz9)); (repeat (rename News _ _ _ _ => hz9; clear hz9)); (repeat (rename Below _ _ _ _ => hz9; clear hz9)); (repeat (rename Top _ _ _ _ _ _ => hz9; clear hz9)); (repeat (rename Frag.In _ _ => hz9; clear hz9)); (try clear qk ek); exact adj_end j))
  have c_easter_o : ∀ (w : World) (p : Program) (loose : List Str) (mean : ExcName → Option Value) (mg mb : Str → Option Value) (news : List (Addr × Obj)) (y : Int) (t_y : Tok) (t_o : Tok) (hp0 : y % 19 = 0), Cl PySem.Challenge.rw_jk0006_01.row.prog w (Mine.holds.heap_1_39 w.params) p loose mean mg mb 151 news 14 [.int y t_y, .str (PySem.Str.ofString "orthodox") t_o] (RetT news (yr (jdE y 0)) (mo (jdE y 0)) (dy (jdE y 0))) := by
    as_aux_lemma =>
      clear c_isleap c_jwday c_weekday_before c_law_first c_law_sunday c_law_epact c_law_western c_law_old c_legal_date_gregorian c_to_jd_gregorian c_n_weeks c_to_jd_iso c_week1monday
      intro w p loose mean mg mb news y t_y t_o hp0
      k_fill
      k_with_none
      k_with "mine call" => ((with_reducible show wpAny _ _ (call (Value.ref 36) _) _ _ _); k_dflt (refine' use_cl (c_trunc _ _ _ _ _ _ _ _ _ _ _ ?zqp0 ?zqp1) ?zqk1 ?zqk2 ?zqk3 ?zqk4 ?zqk5 ?zqkK ?zqkd ?zqku ?_); (case zqp0 => first | assumption | ((try dsimp only); first | omega | ((try law_fm); omega)) | k_dflt (k_extra "mine prem") | l_fact); (case zqp1 => first | assumption | ((try dsimp only); first | omega | ((try law_fm); omega)) | k_dflt (k_extra "mine prem") | l_fact); (case zqk1 => k_asm); (case zqk2 => k_asm); (case zqk3 => k_asm); (case zqk4 => k_asm); (case zqk5 => k_asm); (case zqkK => first | exact rfl | assumption); (case zqkd => (first | (dsimp only [ktrTop, Around.deeper]; omega) | ktr_room)); (case zqku => (first | (dsimp only [ktrTop, Around.deeper]; omega) | ktr_units)); intro t9 h9 tk9 F9 N9; (try dsimp only); (try k_sweep); (try k_fold))
      k_with "mine call" => ((with_reducible show wpAny _ _ (call (Value.ref 136) _) _ _ _); k_dflt (refine' use_cl (c_to_jd_julian _ _ _ _ _ _ _ _ _ _ _ _ _ ?zqp0 ?zqp1) ?zqk1 ?zqk2 ?zqk3 ?zqk4 ?zqk5 ?zqkK ?zqkd ?zqku ?_); (case zqp0 => first | assumption | ((try dsimp only); first | omega | ((try law_fm); omega)) | k_dflt (k_extra "mine prem") | l_fact); (case zqp1 => first | assumption | ((try dsimp only); first | omega | ((try law_fm); omega)) | k_dflt (k_extra "mine prem") | l_fact); (case zqk1 => k_asm); (case zqk2 => k_asm); (case zqk3 => k_asm); (case zqk4 => k_asm); (case zqk5 => k_asm); (case zqkK => first | exact rfl | assumption); (case zqkd => (first | (dsimp only [ktrTop, Around.deeper]; omega) | ktr_room)); (case zqku => (first | (dsimp only [ktrTop, Around.deeper]; omega) | ktr_units)); intro t9 h9 tk9 F9 N9; (try dsimp only); (try k_sweep); (try k_fold))
      k_with "mine call" => ((with_reducible show wpAny _ _ (call (Value.ref 100) _) _ _ _); k_dflt (refine' use_cl (c_from_jd_gregorian _ _ _ _ _ _ _ _ _ ) ?zqk1 ?zqk2 ?zqk3 ?zqk4 ?zqk5 ?zqkK ?zqkd ?zqku ?_); (case zqk1 => k_asm); (case zqk2 => k_asm); (case zqk3 => k_asm); (case zqk4 => k_asm); (case zqk5 => k_asm); (case zqkK => first | exact rfl | assumption); (case zqkd => (first | (dsimp only [ktrTop, Around.deeper]; omega) | ktr_room)); (case zqku => (first | (dsimp only [ktrTop, Around.deeper]; omega) | ktr_units)); intro D9 t9 t9a t9b c9 h9 tk9 F9 N9 l9; (try simp only [AllLt, and_true] at l9); (try dsimp only); (try k_sweep); (try k_fold))
      k_with "mine call" => ((first | (with_reducible show wpAny _ _ (call (Value.ref 143) _ _) _ _ _) | (with_reducible show wpAny _ _ (call (Value.ref 166) _ _) _ _ _)); k_dflt (refine wpAny_call ?_; (refine' code_def ?zqk1 ?zqk2 ?zqk3 ?zqk4 ?zqk5 ?zqkA ?zqkF ?zqkK ?zqk6 ?zqk7 ?zqk8 ?zqk9 ?zqkB ?_ ?zqc2 ?zqc3 ?zqc4 ?zqc5; (case zqkA => exact rfl); (case zqkF => exact rfl); (case zqkK => first | exact rfl | assumption); (case zqk1 => k_asm); (case zqk2 => k_asm); (case zqk3 => k_asm); (case zqk4 => k_asm); (case zqk5 => k_asm); (case zqk6 => k_is); (case zqk7 => k_is); (case zqk8 => (first | (dsimp only [ktrTop, Around.deeper]; omega) | ktr_room)); (case zqk9 => first | exact BindsTo.of_eq rfl | exact binds_K (by k_in) rfl (by k_is) rfl rfl rfl); (case zqc5 => decide); (case zqkB => exact locs rfl); (case zqc2 => exact rfl); (case zqc3 => exact rfl); (case zqc4 => exact rfl); k_whole; intro g' L' h' FG' F' N' B' X' T'; (try dsimp only); (try k_lift B'); (try k_fold))))
      k_with "mine ec" => ((with_reducible show wpAny _ _ (eval (Expr.Call (Expr.Name _ _) _ [] _) _) _ _ _); k_dflt (refine Call_ ?_))
      k_with "mine in" => ((with_reducible show wpAny _ _ (compareOp CmpOp.In (Value.int _ _) (Value.ref _)) _ _ _); k_dflt (refine' in30 ?zqt ?_; (case zqt => exact tupK (Frag.In.keeps (by k_asm) (Fr.keep (by k_asm))) (by k_is)); k_whole))
      k_with "mine seq" => ((with_reducible show wpAny _ _ (execs _ _) _ _ (Shared.mk _ _ _ (_ + _) _)); (try dsimp only); refine gen_toks ?_; intro tk9)
      k_with "mine prem" => ((repeat (rename Fr _ _ _ _ => hz9; clear hz9)); (repeat (rename News _ _ _ _ => hz9; clear hz9)); (repeat (rename Below _ _ _ _ => hz9; clear hz9)); (repeat (rename Top _ _ _ _ _ _ => hz9; clear hz9)); (repeat (rename Frag.In _ _ => hz9; clear hz9)); (try clear qk ek); (try simp only [Int.fmod_eq_emod_of_nonneg, Int.fdiv_eq_ediv_of_nonneg, Int.reduceLE] at *); unfold truncL; (try simp only [Int.fmod_eq_emod_of_nonneg, Int.fdiv_eq_ediv_of_nonneg, Int.reduceLE] at *); (repeat' split) <;> omega)
      unfold Cl RetT
      intros
      rename_i hret
      refine wpAny_call ?_
      k_dflt (refine' code_def ?zqk1 ?zqk2 ?zqk3 ?zqk4 ?zqk5 ?zqkA ?zqkF ?zqkK ?zqk6 ?zqk7 ?zqk8 ?zqk9 ?zqkB ?_ ?zqc2 ?zqc3 ?zqc4 ?zqc5; (case zqkA => exact rfl); (case zqkF => exact rfl); (case zqkK => first | exact rfl | assumption); (case zqk1 => k_asm); (case zqk2 => k_asm); (case zqk3 => k_asm); (case zqk4 => k_asm); (case zqk5 => k_asm); (case zqk6 => k_is); (case zqk7 => k_is); (case zqk8 => (first | (dsimp only [ktrTop, Around.deeper]; omega) | ktr_room)); (case zqk9 => first | exact BindsTo.of_eq rfl | exact binds_K (by k_in) rfl (by k_is) rfl rfl rfl); (case zqc5 => decide); (case zqkB => exact locs rfl); (case zqc2 => exact rfl); (case zqc3 => exact rfl); (case zqc4 => exact rfl); k_whole; intro g' L' h' FG' F' N' B' X' T'; (try dsimp only); (try k_lift B'); (try k_fold))
      k_steps
      all_goals (refine' retT hret ?zqktf ?zqktn ?zqkth ?zqktl ?zqkte; (case zqktf => assumption); (case zqktn => kcu_news); (case zqkth => (first | exact (fun _ hp => hp) | exact (fun _ hp => List.Mem.tail _ hp) | exact (fun _ hp => List.Mem.tail _ (List.Mem.tail _ hp)) | exact (fun _ hp => List.Mem.tail _ (List.Mem.tail _ (List.Mem.tail _ hp))) | kcj_all)); (case zqktl => first | assumption | exact And.right (by assumption) | exact And.right (And.right (by assumption)) | kcu_lt); (case zqkte => clear hret; (try clear c_trunc c_to_jd_julian c_from_jd_gregorian); (repeat (rename Fr _ _ _ _ => hz9; clear hz9)); (repeat (rename News _ _ _ _ => hz9; clear hz9)); (repeat (rename Below _ _ _ _ => hz9; clear hz9)); (repeat (rename Top _ _ _ _ _ _ => hz9; clear hz9)); (repeat (rename Frag.In _ _ => hz9; clear hz9)); (try clear qk ek); (try simp only [Int.fmod_eq_emod_of_nonneg, Int.fdiv_eq_ediv_of_nonneg, Int.reduceLE] at *); refine east_end y 0 _ _ ?_ ?_; (· unfold mJ eJ truncL; (try simp only [Int.fmod_eq_emod_of_nonneg, Int.fdiv_eq_ediv_of_nonneg, Int.reduceLE] at *); (simp only [hp0, Int.reduceMul, Int.reduceAdd, Int.reduceMod, Int.mul_zero, Int.zero_add, Int.add_zero]); (repeat' split) <;> omega); (· unfold dJ eJ; (try simp only [Int.fmod_eq_emod_of_nonneg, Int.fdiv_eq_ediv_of_nonneg, Int.reduceLE] at *); (simp only [hp0, Int.reduceMul, Int.reduceAdd, Int.reduceMod, Int.mul_zero, Int.zero_add, Int.add_zero]); omega)))
  have c_easter_e : ∀ (w : World) (p : Program) (loose : List Str) (mean : ExcName → Option Value) (mg mb : Str → Option Value) (news : List (Addr × Obj)) (y : Int) (t_y : Tok) (t_o : Tok) (hp0 : y % 19 = 0), Cl PySem.Challenge.rw_jk0006_01.row.prog w (Mine.holds.heap_1_39 w.params) p loose mean mg mb 151 news 14 [.int y t_y, .str (PySem.Str.ofString "eastern") t_o] (RetT news (yr (jdE y 1)) (mo (jdE y 1)) (dy (jdE y 1))) := by
    as_aux_lemma =>
      clear c_isleap c_jwday c_weekday_before c_law_first c_law_sunday c_law_epact c_law_western c_law_old c_legal_date_gregorian c_to_jd_gregorian c_n_weeks c_to_jd_iso c_week1monday c_easter_o
      intro w p loose mean mg mb news y t_y t_o hp0
      k_fill
      k_with_none
      k_with "mine call" => ((with_reducible show wpAny _ _ (call (Value.ref 36) _) _ _ _); k_dflt (refine' use_cl (c_trunc _ _ _ _ _ _ _ _ _ _ _ ?zqp0 ?zqp1) ?zqk1 ?zqk2 ?zqk3 ?zqk4 ?zqk5 ?zqkK ?zqkd ?zqku ?_); (case zqp0 => first | assumption | ((try dsimp only); first | omega | ((try law_fm); omega)) | k_dflt (k_extra "mine prem") | l_fact); (case zqp1 => first | assumption | ((try dsimp only); first | omega | ((try law_fm); omega)) | k_dflt (k_extra "mine prem") | l_fact); (case zqk1 => k_asm); (case zqk2 => k_asm); (case zqk3 => k_asm); (case zqk4 => k_asm); (case zqk5 => k_asm); (case zqkK => first | exact rfl | assumption); (case zqkd => (first | (dsimp only [ktrTop, Around.deeper]; omega) | ktr_room)); (case zqku => (first | (dsimp only [ktrTop, Around.deeper]; omega) | ktr_units)); intro t9 h9 tk9 F9 N9; (try dsimp only); (try k_sweep); (try k_fold))
      k_with "mine call" => ((with_reducible show wpAny _ _ (call (Value.ref 136) _) _ _ _); k_dflt (refine' use_cl (c_to_jd_julian _ _ _ _ _ _ _ _ _ _ _ _ _ ?zqp0 ?zqp1) ?zqk1 ?zqk2 ?zqk3 ?zqk4 ?zqk5 ?zqkK ?zqkd ?zqku ?_); (case zqp0 => first | assumption | ((try dsimp only); first | omega | ((try law_fm); omega)) | k_dflt (k_extra "mine prem") | l_fact); (case zqp1 => first | assumption | ((try dsimp only); first | omega | ((try law_fm); omega)) | k_dflt (k_extra "mine prem") | l_fact); (case zqk1 => k_asm); (case zqk2 => k_asm); (case zqk3 => k_asm); (case zqk4 => k_asm); (case zqk5 => k_asm); (case zqkK => first | exact rfl | assumption); (case zqkd => (first | (dsimp only [ktrTop, Around.deeper]; omega) | ktr_room)); (case zqku => (first | (dsimp only [ktrTop, Around.deeper]; omega) | ktr_units)); intro t9 h9 tk9 F9 N9; (try dsimp only); (try k_sweep); (try k_fold))
      k_with "mine call" => ((with_reducible show wpAny _ _ (call (Value.ref 100) _) _ _ _); k_dflt (refine' use_cl (c_from_jd_gregorian _ _ _ _ _ _ _ _ _ ) ?zqk1 ?zqk2 ?zqk3 ?zqk4 ?zqk5 ?zqkK ?zqkd ?zqku ?_); (case zqk1 => k_asm); (case zqk2 => k_asm); (case zqk3 => k_asm); (case zqk4 => k_asm); (case zqk5 => k_asm); (case zqkK => first | exact rfl | assumption); (case zqkd => (first | (dsimp only [ktrTop, Around.deeper]; omega) | ktr_room)); (case zqku => (first | (dsimp only [ktrTop, Around.deeper]; omega) | ktr_units)); intro D9 t9 t9a t9b c9 h9 tk9 F9 N9 l9; (try simp only [AllLt, and_true] at l9); (try dsimp only); (try k_sweep); (try k_fold))
      k_with "mine call" => ((first | (with_reducible show wpAny _ _ (call (Value.ref 143) _ _) _ _ _) | (with_reducible show wpAny _ _ (call (Value.ref 166) _ _) _ _ _)); k_dflt (refine wpAny_call ?_; (refine' code_def ?zqk1 ?zqk2 ?zqk3 ?zqk4 ?zqk5 ?zqkA ?zqkF ?zqkK ?zqk6 ?zqk7 ?zqk8 ?zqk9 ?zqkB ?_ ?zqc2 ?zqc3 ?zqc4 ?zqc5; (case zqkA => exact rfl); (case zqkF => exact rfl); (case zqkK => first | exact rfl | assumption); (case zqk1 => k_asm); (case zqk2 => k_asm); (case zqk3 => k_asm); (case zqk4 => k_asm); (case zqk5 => k_asm); (case zqk6 => k_is); (case zqk7 => k_is); (case zqk8 => (first | (dsimp only [ktrTop, Around.deeper]; omega) | ktr_room)); (case zqk9 => first | exact BindsTo.of_eq rfl | exact binds_K (by k_in) rfl (by k_is) rfl rfl rfl); (case zqc5 => decide); (case zqkB => exact locs rfl); (case zqc2 => exact rfl); (case zqc3 => exact rfl); (case zqc4 => exact rfl); k_whole; intro g' L' h' FG' F' N' B' X' T'; (try dsimp only); (try k_lift B'); (try k_fold))))
      k_with "mine ec" => ((with_reducible show wpAny _ _ (eval (Expr.Call (Expr.Name _ _) _ [] _) _) _ _ _); k_dflt (refine Call_ ?_))
      k_with "mine in" => ((with_reducible show wpAny _ _ (compareOp CmpOp.In (Value.int _ _) (Value.ref _)) _ _ _); k_dflt (refine' in30 ?zqt ?_; (case zqt => exact tupK (Frag.In.keeps (by k_asm) (Fr.keep (by k_asm))) (by k_is)); k_whole))
      k_with "mine seq" => ((with_reducible show wpAny _ _ (execs _ _) _ _ (Shared.mk _ _ _ (_ + _) _)); (try dsimp only); refine gen_toks ?_; intro tk9)
      k_with "mine prem" => ((repeat (rename Fr _ _ _ _ => hz9; clear hz9)); (repeat (rename News _ _ _ _ => hz9; clear hz9)); (repeat (rename Below _ _ _ _ => hz9; clear hz9)); (repeat (rename Top _ _ _ _ _ _ => hz9; clear hz9)); (repeat (rename Frag.In _ _ => hz9; clear hz9)); (try clear qk ek); (try simp only [Int.fmod_eq_emod_of_nonneg, Int.fdiv_eq_ediv_of_nonneg, Int.reduceLE] at *); unfold truncL; (try simp only [Int.fmod_eq_emod_of_nonneg, Int.fdiv_eq_ediv_of_nonneg, Int.reduceLE] at *); (repeat' split) <;> omega)
      unfold Cl RetT
      intros
      rename_i hret
      refine wpAny_call ?_
      k_dflt (refine' code_def ?zqk1 ?zqk2 ?zqk3 ?zqk4 ?zqk5 ?zqkA ?zqkF ?zqkK ?zqk6 ?zqk7 ?zqk8 ?zqk9 ?zqkB ?_ ?zqc2 ?zqc3 ?zqc4 ?zqc5; (case zqkA => exact rfl); (case zqkF => exact rfl); (case zqkK => first | exact rfl | assumption); (case zqk1 => k_asm); (case zqk2 => k_asm); (case zqk3 => k_asm); (case zqk4 => k_asm); (case zqk5 => k_asm); (case zqk6 => k_is); (case zqk7 => k_is); (case zqk8 => (first | (dsimp only [ktrTop, Around.deeper]; omega) | ktr_room)); (case zqk9 => first | exact BindsTo.of_eq rfl | exact binds_K (by k_in) rfl (by k_is) rfl rfl rfl); (case zqc5 => decide); (case zqkB => exact locs rfl); (case zqc2 => exact rfl); (case zqc3 => exact rfl); (case zqc4 => exact rfl); k_whole; intro g' L' h' FG' F' N' B' X' T'; (try dsimp only); (try k_lift B'); (try k_fold))
      k_steps
      all_goals (refine' retT hret ?zqktf ?zqktn ?zqkth ?zqktl ?zqkte; (case zqktf => assumption); (case zqktn => kcu_news); (case zqkth => (first | exact (fun _ hp => hp) | exact (fun _ hp => List.Mem.tail _ hp) | exact (fun _ hp => List.Mem.tail _ (List.Mem.tail _ hp)) | exact (fun _ hp => List.Mem.tail _ (List.Mem.tail _ (List.Mem.tail _ hp))) | kcj_all)); (case zqktl => first | assumption | exact And.right (by assumption) | exact And.right (And.right (by assumption)) | kcu_lt); (case zqkte => clear hret; (try clear c_trunc c_to_jd_julian c_from_jd_gregorian); (repeat (rename Fr _ _ _ _ => hz9; clear hz9)); (repeat (rename News _ _ _ _ => hz9; clear hz9)); (repeat (rename Below _ _ _ _ => hz9; clear hz9)); (repeat (rename Top _ _ _ _ _ _ => hz9; clear hz9)); (repeat (rename Frag.In _ _ => hz9; clear hz9)); (try clear qk ek); (try simp only [Int.fmod_eq_emod_of_nonneg, Int.fdiv_eq_ediv_of_nonneg, Int.reduceLE] at *); refine east_end y 1 _ _ ?_ ?_; (· unfold mJ eJ truncL; (try simp only [Int.fmod_eq_emod_of_nonneg, Int.fdiv_eq_ediv_of_nonneg, Int.reduceLE] at *); (simp only [hp0, Int.reduceMul, Int.reduceAdd, Int.reduceMod, Int.mul_zero, Int.zero_add, Int.add_zero]); (repeat' split) <;> omega); (· unfold dJ eJ; (try simp only [Int.fmod_eq_emod_of_nonneg, Int.fdiv_eq_ediv_of_nonneg, Int.reduceLE] at *); (simp only [hp0, Int.reduceMul, Int.reduceAdd, Int.reduceMod, Int.mul_zero, Int.zero_add, Int.add_zero]); omega)))
  have c_easter_western : ∀ (w : World) (p : Program) (loose : List Str) (mean : ExcName → Option Value) (mg mb : Str → Option Value) (news : List (Addr × Obj)) (y : Int) (t_y : Tok) (hp0 : 1600 ≤ y) (hp1 : 27 ≤ wI1 y ∧ wI1 y ≤ 29), Cl PySem.Challenge.rw_jk0006_01.row.prog w (Mine.holds.heap_1_39 w.params) p loose mean mg mb 158 news 6 [.int y t_y] (RetT news y (wM y) (wD y)) := by
    as_aux_lemma =>
      clear c_isleap c_jwday c_weekday_before c_law_first c_law_sunday c_law_epact c_law_western c_law_old c_legal_date_gregorian c_to_jd_gregorian c_n_weeks c_to_jd_iso c_week1monday c_to_jd_julian c_from_jd_gregorian c_easter_o c_easter_e
      intro w p loose mean mg mb news y t_y hp0 hp1
      k_fill
      have hq1 : Builtin.Int.intBits (truncL (wI1 y) 28) ≤ 64 := PySem.intBits_le_64 (by unfold truncL; split <;> omega) (by unfold truncL; split <;> omega)
      have hq2 : Builtin.Int.intBits (truncL (21 - wN y) 11) ≤ 64 := PySem.intBits_le_64 (by unfold wN truncL; (repeat' split) <;> omega) (by unfold wN truncL; (repeat' split) <;> omega)
      k_with_none
      k_with "mine call" => ((with_reducible show wpAny _ _ (call (Value.ref 36) _) _ _ _); k_dflt (refine' use_cl (c_trunc _ _ _ _ _ _ _ _ _ _ _ ?zqp0 ?zqp1) ?zqk1 ?zqk2 ?zqk3 ?zqk4 ?zqk5 ?zqkK ?zqkd ?zqku ?_); (case zqp0 => first | assumption | ((try dsimp only); first | omega | ((try law_fm); omega)) | k_dflt (k_extra "mine prem") | l_fact); (case zqp1 => first | assumption | ((try dsimp only); first | omega | ((try law_fm); omega)) | k_dflt (k_extra "mine prem") | l_fact); (case zqk1 => k_asm); (case zqk2 => k_asm); (case zqk3 => k_asm); (case zqk4 => k_asm); (case zqk5 => k_asm); (case zqkK => first | exact rfl | assumption); (case zqkd => (first | (dsimp only [ktrTop, Around.deeper]; omega) | ktr_room)); (case zqku => (first | (dsimp only [ktrTop, Around.deeper]; omega) | ktr_units)); intro t9 h9 tk9 F9 N9; (try dsimp only); (try k_sweep); (try k_fold))
      k_with "mine ec" => ((with_reducible show wpAny _ _ (eval (Expr.Call (Expr.Name _ _) _ [] _) _) _ _ _); k_dflt (refine Call_ ?_))
      k_with "mine in" => ((with_reducible show wpAny _ _ (compareOp CmpOp.In (Value.int _ _) (Value.ref _)) _ _ _); k_dflt (refine' in30 ?zqt ?_; (case zqt => exact tupK (Frag.In.keeps (by k_asm) (Fr.keep (by k_asm))) (by k_is)); k_whole))
      k_with "mine mul" => (k_dflt (refine mul_int ?_ ?zqhm); (case zqhm => k_dflt (k_extra "mine mulp")))
      k_with "mine seq" => ((with_reducible show wpAny _ _ (execs _ _) _ _ (Shared.mk _ _ _ (_ + _) _)); (try dsimp only); refine gen_toks ?_; intro tk9)
      k_with "mine mulp" => (first | exact PySem.IntMulOk.of_left hq1 | exact PySem.IntMulOk.of_right hq2)
      k_with "mine prem" => (first | (show (0 : Int) < wI1 y + 1; omega) | (show wI1 y + 1 < 1000; omega))
      unfold Cl RetT
      intros
      rename_i hret
      refine wpAny_call ?_
      k_dflt (refine' code_def ?zqk1 ?zqk2 ?zqk3 ?zqk4 ?zqk5 ?zqkA ?zqkF ?zqkK ?zqk6 ?zqk7 ?zqk8 ?zqk9 ?zqkB ?_ ?zqc2 ?zqc3 ?zqc4 ?zqc5; (case zqkA => exact rfl); (case zqkF => exact rfl); (case zqkK => first | exact rfl | assumption); (case zqk1 => k_asm); (case zqk2 => k_asm); (case zqk3 => k_asm); (case zqk4 => k_asm); (case zqk5 => k_asm); (case zqk6 => k_is); (case zqk7 => k_is); (case zqk8 => (first | (dsimp only [ktrTop, Around.deeper]; omega) | ktr_room)); (case zqk9 => first | exact BindsTo.of_eq rfl | exact binds_K (by k_in) rfl (by k_is) rfl rfl rfl); (case zqc5 => decide); (case zqkB => exact locs rfl); (case zqc2 => exact rfl); (case zqc3 => exact rfl); (case zqc4 => exact rfl); k_whole; intro g' L' h' FG' F' N' B' X' T'; (try dsimp only); (try k_lift B'); (try k_fold))
      k_steps
      all_goals (refine' retT hret ?zqktf ?zqktn ?zqkth ?zqktl ?zqkte; (case zqktf => assumption); (case zqktn => kcu_news); (case zqkth => (first | exact (fun _ hp => hp) | exact (fun _ hp => List.Mem.tail _ hp) | exact (fun _ hp => List.Mem.tail _ (List.Mem.tail _ hp)) | exact (fun _ hp => List.Mem.tail _ (List.Mem.tail _ (List.Mem.tail _ hp))) | kcj_all)); (case zqktl => first | assumption | exact And.right (by assumption) | exact And.right (And.right (by assumption)) | kcu_lt); (case zqkte => clear hret; (try clear c_trunc); (repeat (rename Fr _ _ _ _ => hz9; clear hz9)); (repeat (rename News _ _ _ _ => hz9; clear hz9)); (repeat (rename Below _ _ _ _ => hz9; clear hz9)); (repeat (rename Top _ _ _ _ _ _ => hz9; clear hz9)); (repeat (rename Frag.In _ _ => hz9; clear hz9)); (try clear qk ek); exact ⟨rfl, rfl, rfl⟩))
  have c_easter_w : ∀ (w : World) (p : Program) (loose : List Str) (mean : ExcName → Option Value) (mg mb : Str → Option Value) (news : List (Addr × Obj)) (y : Int) (t_y : Tok) (hp0 : 1600 ≤ y) (hp1 : 27 ≤ wI1 y ∧ wI1 y ≤ 29), Cl PySem.Challenge.rw_jk0006_01.row.prog w (Mine.holds.heap_1_39 w.params) p loose mean mg mb 151 news 8 [.int y t_y] (RetT news y (wM y) (wD y)) := by
    as_aux_lemma =>
      clear c_trunc c_isleap c_jwday c_weekday_before c_law_first c_law_sunday c_law_epact c_law_western c_law_old c_legal_date_gregorian c_to_jd_gregorian c_n_weeks c_to_jd_iso c_week1monday c_to_jd_julian c_from_jd_gregorian c_easter_o c_easter_e
      intro w p loose mean mg mb news y t_y hp0 hp1
      k_fill
      k_with_none
      k_with "mine call" => ((with_reducible show wpAny _ _ (call (Value.ref 158) _) _ _ _); k_dflt (refine' use_cl (c_easter_western _ _ _ _ _ _ _ _ _ ?zqp0 ?zqp1) ?zqk1 ?zqk2 ?zqk3 ?zqk4 ?zqk5 ?zqkK ?zqkd ?zqku ?_); (case zqp0 => first | assumption | ((try dsimp only); first | omega | ((try law_fm); omega)) | k_dflt (k_extra "mine prem") | l_fact); (case zqp1 => first | assumption | ((try dsimp only); first | omega | ((try law_fm); omega)) | k_dflt (k_extra "mine prem") | l_fact); (case zqk1 => k_asm); (case zqk2 => k_asm); (case zqk3 => k_asm); (case zqk4 => k_asm); (case zqk5 => k_asm); (case zqkK => first | exact rfl | assumption); (case zqkd => (first | (dsimp only [ktrTop, Around.deeper]; omega) | ktr_room)); (case zqku => (first | (dsimp only [ktrTop, Around.deeper]; omega) | ktr_units)); intro D9 t9 t9a t9b c9 h9 tk9 F9 N9 l9; (try simp only [AllLt, and_true] at l9); (try dsimp only); (try k_sweep); (try k_fold))
      k_with "mine ec" => ((with_reducible show wpAny _ _ (eval (Expr.Call (Expr.Name _ _) _ [] _) _) _ _ _); k_dflt (refine Call_ ?_))
      k_with "mine in" => ((with_reducible show wpAny _ _ (compareOp CmpOp.In (Value.int _ _) (Value.ref _)) _ _ _); k_dflt (refine' in30 ?zqt ?_; (case zqt => exact tupK (Frag.In.keeps (by k_asm) (Fr.keep (by k_asm))) (by k_is)); k_whole))
      k_with "mine mul" => (k_dflt (refine mul_int ?_ ?zqhm); (case zqhm => k_dflt (k_extra "mine mulp")))
      k_with "mine seq" => ((with_reducible show wpAny _ _ (execs _ _) _ _ (Shared.mk _ _ _ (_ + _) _)); (try dsimp only); refine gen_toks ?_; intro tk9)
      unfold Cl RetT
      intros
      rename_i hret
      refine wpAny_call ?_
      k_dflt (refine' code_def ?zqk1 ?zqk2 ?zqk3 ?zqk4 ?zqk5 ?zqkA ?zqkF ?zqkK ?zqk6 ?zqk7 ?zqk8 ?zqk9 ?zqkB ?_ ?zqc2 ?zqc3 ?zqc4 ?zqc5; (case zqkA => exact rfl); (case zqkF => exact rfl); (case zqkK => first | exact rfl | assumption); (case zqk1 => k_asm); (case zqk2 => k_asm); (case zqk3 => k_asm); (case zqk4 => k_asm); (case zqk5 => k_asm); (case zqk6 => k_is); (case zqk7 => k_is); (case zqk8 => (first | (dsimp only [ktrTop, Around.deeper]; omega) | ktr_room)); (case zqk9 => first | exact BindsTo.of_eq rfl | exact binds_K (by k_in) rfl (by k_is) rfl rfl rfl); (case zqc5 => decide); (case zqkB => exact locs rfl); (case zqc2 => exact rfl); (case zqc3 => exact rfl); (case zqc4 => exact rfl); k_whole; intro g' L' h' FG' F' N' B' X' T'; (try dsimp only); (try k_lift B'); (try k_fold))
      k_steps
      all_goals (refine' retT hret ?zqktf ?zqktn ?zqkth ?zqktl ?zqkte; (case zqktf => assumption); (case zqktn => kcu_news); (case zqkth => (first | exact (fun _ hp => hp) | exact (fun _ hp => List.Mem.tail _ hp) | exact (fun _ hp => List.Mem.tail _ (List.Mem.tail _ hp)) | exact (fun _ hp => List.Mem.tail _ (List.Mem.tail _ (List.Mem.tail _ hp))) | kcj_all)); (case zqktl => first | assumption | exact And.right (by assumption) | exact And.right (And.right (by assumption)) | kcu_lt); (case zqkte => clear hret; (try clear c_easter_western); (repeat (rename Fr _ _ _ _ => hz9; clear hz9)); (repeat (rename News _ _ _ _ => hz9; clear hz9)); (repeat (rename Below _ _ _ _ => hz9; clear hz9)); (repeat (rename Top _ _ _ _ _ _ => hz9; clear hz9)); (repeat (rename Frag.In _ _ => hz9; clear hz9)); (try clear qk ek); exact ⟨rfl, rfl, rfl⟩))
  have c_law_date : ∀ (w : World) (p : Program) (loose : List Str) (mean : ExcName → Option Value) (mg mb : Str → Option Value) (news : List (Addr × Obj)) (n : Int) (t_n : Tok), Cl PySem.Challenge.rw_jk0006_01.row.prog w (Mine.holds.heap_1_39 w.params) p loose mean mg mb 229 news 5 [.int n t_n] (RetT news (yr n) (mo n) (dy n)) := by
    as_aux_lemma =>
      clear c_trunc c_isleap c_jwday c_weekday_before c_law_sunday c_law_epact c_law_western c_law_old c_legal_date_gregorian c_to_jd_gregorian c_n_weeks c_to_jd_iso c_week1monday c_to_jd_julian c_from_jd_gregorian c_easter_o c_easter_e c_easter_western c_easter_w
      intro w p loose mean mg mb news n t_n
      k_fill
      k_with_none
      k_with "mine call" => ((with_reducible show wpAny _ _ (call (Value.ref 222) _) _ _ _); k_dflt (refine' use_cl (c_law_first _ _ _ _ _ _ _ _ _ ) ?zqk1 ?zqk2 ?zqk3 ?zqk4 ?zqk5 ?zqkK ?zqkd ?zqku ?_); (case zqk1 => k_asm); (case zqk2 => k_asm); (case zqk3 => k_asm); (case zqk4 => k_asm); (case zqk5 => k_asm); (case zqkK => first | exact rfl | assumption); (case zqkd => (first | (dsimp only [ktrTop, Around.deeper]; omega) | ktr_room)); (case zqku => (first | (dsimp only [ktrTop, Around.deeper]; omega) | ktr_units)); intro t9 h9 tk9 F9 N9; (try dsimp only); (try k_sweep); (try k_fold))
      k_with "mine ec" => ((with_reducible show wpAny _ _ (eval (Expr.Call (Expr.Name _ _) _ [] _) _) _ _ _); k_dflt (refine Call_ ?_))
      k_with "mine in" => ((with_reducible show wpAny _ _ (compareOp CmpOp.In (Value.int _ _) (Value.ref _)) _ _ _); k_dflt (refine' in30 ?zqt ?_; (case zqt => exact tupK (Frag.In.keeps (by k_asm) (Fr.keep (by k_asm))) (by k_is)); k_whole))
      k_with "mine seq" => ((with_reducible show wpAny _ _ (execs _ _) _ _ (Shared.mk _ _ _ (_ + _) _)); (try dsimp only); refine gen_toks ?_; intro tk9)
      k_with "exec While Compare cons nil" => ((with_reducible show wpAny _ _ (exec (Stmt.While (Expr.Compare (Expr.Call _ _ _ _) [CmpOp.Gt] _ _) _ _ _) _) _ _ _); k_while (fun _ _ => True) (fun _ year => (year - yr n).toNat) "year")
      k_with "exec While Compare cons nil" => ((with_reducible show wpAny _ _ (exec (Stmt.While (Expr.Compare (Expr.Call _ _ _ _) [CmpOp.LtE] _ _) _ _ _) _) _ _ _); k_while (fun _ year => lawFirst year ≤ n) (fun _ year => (yr n - year).toNat) "year")
      k_with "exec While Compare cons nil" => ((with_reducible show wpAny _ _ (exec (Stmt.While (Expr.Compare (Expr.Name _ _) [CmpOp.Gt] _ _) _ _ _) _) _ _ _); k_while_given ["year"] (fun year _ day month => 1 ≤ month ∧ month ≤ 12 ∧ 1 ≤ day ∧ day + cum year month = n - firstN year + 1) (fun year _ day month => (13 - month).toNat) "day" "month")
      k_with "measure" => (first | exact meas1 (by assumption) | exact meas2 (by assumption) | omega)
      k_with "state" => (first | exact True.intro | exact st0 (by assumption) | exact st1 ⟨by assumption, by assumption, by assumption, by assumption⟩ (by assumption) (by assumption) | assumption | omega)
      k_with "subscriptTail Name BinOp ref int" => (refine' item_anyL ?zqk1 ?zqk2 ?zqk3 ?zqk4 ?zqk5 ?_; (case zqk1 => exact News.isList (by k_asm) (by k_mem)); (case zqk2 => l_ints); (case zqk3 => omega); (case zqk4 => simp only [List.length_cons, List.length_nil]; omega); (case zqk5 => omega); intro _)
      unfold Cl RetT
      intros
      rename_i hret
      refine wpAny_call ?_
      k_dflt (refine' code_def ?zqk1 ?zqk2 ?zqk3 ?zqk4 ?zqk5 ?zqkA ?zqkF ?zqkK ?zqk6 ?zqk7 ?zqk8 ?zqk9 ?zqkB ?_ ?zqc2 ?zqc3 ?zqc4 ?zqc5; (case zqkA => exact rfl); (case zqkF => exact rfl); (case zqkK => first | exact rfl | assumption); (case zqk1 => k_asm); (case zqk2 => k_asm); (case zqk3 => k_asm); (case zqk4 => k_asm); (case zqk5 => k_asm); (case zqk6 => k_is); (case zqk7 => k_is); (case zqk8 => (first | (dsimp only [ktrTop, Around.deeper]; omega) | ktr_room)); (case zqk9 => first | exact BindsTo.of_eq rfl | exact binds_K (by k_in) rfl (by k_is) rfl rfl rfl); (case zqc5 => decide); (case zqkB => exact locs rfl); (case zqc2 => exact rfl); (case zqc3 => exact rfl); (case zqc4 => exact rfl); k_whole; intro g' L' h' FG' F' N' B' X' T'; (try dsimp only); (try k_lift B'); (try k_fold))
      k_steps
      all_goals (refine' retT hret ?zqktf ?zqktn ?zqkth ?zqktl ?zqkte; (case zqktf => assumption); (case zqktn => kcu_news); (case zqkth => (first | exact (fun _ hp => hp) | exact (fun _ hp => List.Mem.tail _ hp) | exact (fun _ hp => List.Mem.tail _ (List.Mem.tail _ hp)) | exact (fun _ hp => List.Mem.tail _ (List.Mem.tail _ (List.Mem.tail _ hp))) | kcj_all)); (case zqktl => first | assumption | exact And.right (by assumption) | exact And.right (And.right (by assumption)) | kcu_lt); (case zqkte => clear hret; (try clear c_law_first); (repeat (rename Fr _ _ _ _ => hz9; clear hz9)); (repeat (rename News _ _ _ _ => hz9; clear hz9)); (repeat (rename Below _ _ _ _ => hz9; clear hz9)); (repeat (rename Top _ _ _ _ _ _ => hz9; clear hz9)); (repeat (rename Frag.In _ _ => hz9; clear hz9)); (try clear qk ek); first | exact st2 (by assumption) (by assumption) (by assumption) | exact st2 ⟨by assumption, by assumption, by assumption, by assumption⟩ (by assumption) (by assumption)))
  have c_month_length : ∀ (w : World) (p : Program) (loose : List Str) (mean : ExcName → Option Value) (mg mb : Str → Option Value) (news : List (Addr × Obj)) (y : Int) (t_y : Tok) (m : Int) (t_m : Tok) (hp0 : 1 ≤ m ∧ m ≤ 12), Cl PySem.Challenge.rw_jk0006_01.row.prog w (Mine.holds.heap_1_39 w.params) p loose mean mg mb 107 news 6 [.int y t_y, .int m t_m] (RetI news (dim y m)) := by
    as_aux_lemma =>
      clear c_trunc c_jwday c_weekday_before c_law_first c_law_sunday c_law_epact c_law_western c_law_old c_legal_date_gregorian c_to_jd_gregorian c_n_weeks c_to_jd_iso c_week1monday c_to_jd_julian c_from_jd_gregorian c_easter_o c_easter_e c_easter_western c_easter_w c_law_date
      intro w p loose mean mg mb news y t_y m t_m hp0
      k_fill
      k_with_none
      k_with "mine call" => ((with_reducible show wpAny _ _ (call (Value.ref 22) _) _ _ _); k_dflt (refine' use_cl (c_isleap _ _ _ _ _ _ _ _ _ ) ?zqk1 ?zqk2 ?zqk3 ?zqk4 ?zqk5 ?zqkK ?zqkd ?zqku ?_); (case zqk1 => k_asm); (case zqk2 => k_asm); (case zqk3 => k_asm); (case zqk4 => k_asm); (case zqk5 => k_asm); (case zqkK => first | exact rfl | assumption); (case zqkd => (first | (dsimp only [ktrTop, Around.deeper]; omega) | ktr_room)); (case zqku => (first | (dsimp only [ktrTop, Around.deeper]; omega) | ktr_units)); intro t9 h9 tk9 F9 N9; (try dsimp only); (try k_sweep); (try k_fold))
      k_with "mine call" => ((first | (with_reducible show wpAny _ _ (call (Value.ref 29) _ _) _ _ _)); k_dflt (refine wpAny_call ?_; (refine' code_def ?zqk1 ?zqk2 ?zqk3 ?zqk4 ?zqk5 ?zqkA ?zqkF ?zqkK ?zqk6 ?zqk7 ?zqk8 ?zqk9 ?zqkB ?_ ?zqc2 ?zqc3 ?zqc4 ?zqc5; (case zqkA => exact rfl); (case zqkF => exact rfl); (case zqkK => first | exact rfl | assumption); (case zqk1 => k_asm); (case zqk2 => k_asm); (case zqk3 => k_asm); (case zqk4 => k_asm); (case zqk5 => k_asm); (case zqk6 => k_is); (case zqk7 => k_is); (case zqk8 => (first | (dsimp only [ktrTop, Around.deeper]; omega) | ktr_room)); (case zqk9 => first | exact BindsTo.of_eq rfl | exact binds_K (by k_in) rfl (by k_is) rfl rfl rfl); (case zqc5 => decide); (case zqkB => exact locs rfl); (case zqc2 => exact rfl); (case zqc3 => exact rfl); (case zqc4 => exact rfl); k_whole; intro g' L' h' FG' F' N' B' X' T'; (try dsimp only); (try k_lift B'); (try k_fold))))
      k_with "mine ec" => ((with_reducible show wpAny _ _ (eval (Expr.Call (Expr.Name _ _) _ [] _) _) _ _ _); k_dflt (refine Call_ ?_))
      k_with "mine in" => ((with_reducible show wpAny _ _ (compareOp CmpOp.In (Value.int _ _) (Value.ref _)) _ _ _); k_dflt (refine' in30 ?zqt ?_; (case zqt => exact tupK (Frag.In.keeps (by k_asm) (Fr.keep (by k_asm))) (by k_is)); k_whole))
      k_with "mine slice" => ((with_reducible show wpAny _ _ (subscriptTail _ (PySem.Expr.Slice none (some _) none _) (Value.ref _) (Value.ref _)) _ _ _); k_dflt (refine' slice_tuple_upto ?zqF ?zqN ?zql ?zqk ?zqb ?zqe ?_ ?zqs ?zqt ?zqz; (case zqF => k_asm); (case zqN => k_asm); (case zql => exact tupK (Frag.In.keeps (by k_asm) (Fr.keep (by k_asm))) (by k_is)); (case zqk => omega); (case zqb => simp only [List.size_toArray, List.length_cons, List.length_nil]; omega); (case zqe => exact rfl); (case zqs => with_unfolding_all rfl); (case zqt => (intro _; with_unfolding_all rfl)); (case zqz => exact Nat.le_of_ble_eq_true rfl)); intro D' h' F' N' l1'; (try k_sweep))
      k_with "mine iter" => ((with_reducible show wpAny _ _ (pyIter (Value.ref _)) (fun it s₂ => LoopAtV _ _ _ _ _ _ _ _ _ it s₂) _ _); (rename Fr _ _ _ _ => lF'); (rename News _ _ _ _ => lN'); k_dflt (refine' iter_tupAcc (y := PySem.Str.ofString "first") ?zqhh ?zqht ?zqhi lF' (fun p hp => lN' p (List.mem_cons_of_mem _ hp)) ?zqhne ?zqhlt ?zqhy ?zqhxy ?_ ?_; (case zqhh => exact rfl); (case zqht => exact News.isTup lN' (List.Mem.head _)); (case zqhi => exact IntsAre.take (by repeat constructor) _); (case zqhne => exact (lN' _ (List.Mem.head _)).2.1); (case zqhlt => assumption); (case zqhy => with_unfolding_all rfl); (case zqhxy => decide)); clear lF' lN'; (all_goals intros); (all_goals (try k_fold)))
      k_with "mine for" => ((rename Fr _ _ _ _ => lF'); (with_unfolding_all refine' For_invVF lF' ?zqk1 ?zqk2 ?_; (case zqk1 => exact rfl); (case zqk2 => exact rfl); k_whole))
      k_with "mine and" => (k_dflt (exact ⟨rfl, _, _, _, _, rfl, by assumption, by assumption⟩))
      k_with "mine seq" => ((with_reducible show wpAny _ _ (execs _ _) _ _ (Shared.mk _ _ _ (_ + _) _)); (try dsimp only); refine gen_toks ?_; intro tk9)
      unfold Cl RetI
      intros
      rename_i hret
      refine wpAny_call ?_
      k_dflt (refine' code_def ?zqk1 ?zqk2 ?zqk3 ?zqk4 ?zqk5 ?zqkA ?zqkF ?zqkK ?zqk6 ?zqk7 ?zqk8 ?zqk9 ?zqkB ?_ ?zqc2 ?zqc3 ?zqc4 ?zqc5; (case zqkA => exact rfl); (case zqkF => exact rfl); (case zqkK => first | exact rfl | assumption); (case zqk1 => k_asm); (case zqk2 => k_asm); (case zqk3 => k_asm); (case zqk4 => k_asm); (case zqk5 => k_asm); (case zqk6 => k_is); (case zqk7 => k_is); (case zqk8 => (first | (dsimp only [ktrTop, Around.deeper]; omega) | ktr_room)); (case zqk9 => first | exact BindsTo.of_eq rfl | exact binds_K (by k_in) rfl (by k_is) rfl rfl rfl); (case zqc5 => decide); (case zqkB => exact locs rfl); (case zqc2 => exact rfl); (case zqc3 => exact rfl); (case zqc4 => exact rfl); k_whole; intro g' L' h' FG' F' N' B' X' T'; (try dsimp only); (try k_lift B'); (try k_fold))
      k_steps
      all_goals (refine' cb_retI hret ?zqe1 ?zqe2 ?zqe3; (case zqe2 => assumption); (case zqe3 => first | assumption | (refine' cb_drop ?zqcbN ?zqcbS; (case zqcbN => assumption); (case zqcbS => (first | exact (fun _ hp => hp) | exact (fun _ hp => List.Mem.tail _ hp) | exact (fun _ hp => List.Mem.tail _ (List.Mem.tail _ hp)) | exact (fun _ hp => List.Mem.tail _ (List.Mem.tail _ (List.Mem.tail _ hp))) | kcj_all)))); (case zqe1 => clear hret; (try clear c_isleap); (repeat (rename Fr _ _ _ _ => hz9; clear hz9)); (repeat (rename News _ _ _ _ => hz9; clear hz9)); (repeat (rename Below _ _ _ _ => hz9; clear hz9)); (repeat (rename Top _ _ _ _ _ _ => hz9; clear hz9)); (repeat (rename Frag.In _ _ => hz9; clear hz9)); (try clear qk ek); (try simp only [Int.fmod_eq_emod_of_nonneg, Int.fdiv_eq_ediv_of_nonneg, Int.reduceLE] at *); refine dim_end hp0.1 hp0.2 ?_; (first | exact Or.inl ⟨by assumption, by assumption, rfl⟩ | exact Or.inr (Or.inl ⟨by assumption, by assumption, rfl⟩) | exact Or.inr (Or.inr ⟨by omega, rfl⟩))))
  have c_from_gregorian : ∀ (w : World) (p : Program) (loose : List Str) (mean : ExcName → Option Value) (mg mb : Str → Option Value) (news : List (Addr × Obj)) (y : Int) (t_y : Tok) (m : Int) (t_m : Tok) (d : Int) (t_d : Tok) (hp0 : 1 ≤ y ∧ y ≤ 9999) (hp1 : 1 ≤ m ∧ m ≤ 12) (hp2 : 1 ≤ d ∧ d ≤ dim y m), Cl PySem.Challenge.rw_jk0006_01.row.prog w (Mine.holds.heap_1_39 w.params) p loose mean mg mb 194 news 10 [.int y t_y, .int m t_m, .int d t_d] (RetT news (isoY (num y m d)) (isoW (num y m d)) (isoD (num y m d))) := by
    as_aux_lemma =>
      clear c_trunc c_isleap c_jwday c_weekday_before c_law_first c_law_sunday c_law_epact c_law_western c_law_old c_legal_date_gregorian c_n_weeks c_to_jd_iso c_to_jd_julian c_from_jd_gregorian c_easter_o c_easter_e c_easter_western c_easter_w c_law_date
      intro w p loose mean mg mb news y t_y m t_m d t_d hp0 hp1 hp2
      k_fill
      k_with_none
      k_with "mine call" => ((with_reducible show wpAny _ _ (call (Value.ref 93) _) _ _ _); k_dflt (refine' use_cl (c_to_jd_gregorian _ _ _ _ _ _ _ _ _ _ _ _ _ ?zqp0 ?zqp1) ?zqk1 ?zqk2 ?zqk3 ?zqk4 ?zqk5 ?zqkK ?zqkd ?zqku ?_); (case zqp0 => first | assumption | omega | (exact ⟨by decide, by decide⟩) | k_dflt (k_extra "mine prem")); (case zqp1 => first | assumption | exact ⟨by omega, Int.le_trans (by omega) (dim_ge _ _)⟩ | k_extra "mine prem1"); (case zqk1 => k_asm); (case zqk2 => k_asm); (case zqk3 => k_asm); (case zqk4 => k_asm); (case zqk5 => k_asm); (case zqkK => first | exact rfl | assumption); (case zqkd => (first | (dsimp only [ktrTop, Around.deeper]; omega) | ktr_room)); (case zqku => (first | (dsimp only [ktrTop, Around.deeper]; omega) | ktr_units)); intro t9 h9 tk9 F9 N9; (try dsimp only); (try k_sweep); (try k_fold))
      k_with "mine call" => ((with_reducible show wpAny _ _ (call (Value.ref 187) _) _ _ _); k_dflt (refine' use_cl (c_week1monday _ _ _ _ _ _ _ _ _ ) ?zqk1 ?zqk2 ?zqk3 ?zqk4 ?zqk5 ?zqkK ?zqkd ?zqku ?_); (case zqk1 => k_asm); (case zqk2 => k_asm); (case zqk3 => k_asm); (case zqk4 => k_asm); (case zqk5 => k_asm); (case zqkK => first | exact rfl | assumption); (case zqkd => (first | (dsimp only [ktrTop, Around.deeper]; omega) | ktr_room)); (case zqku => (first | (dsimp only [ktrTop, Around.deeper]; omega) | ktr_units)); intro t9 h9 tk9 F9 N9; (try dsimp only); (try k_sweep); (try k_fold))
      k_with "mine call" => ((with_reducible show wpAny _ _ (call (Value.ref 107) _) _ _ _); k_dflt (refine' use_cl (c_month_length _ _ _ _ _ _ _ _ _ _ _ ?zqp0) ?zqk1 ?zqk2 ?zqk3 ?zqk4 ?zqk5 ?zqkK ?zqkd ?zqku ?_); (case zqp0 => first | assumption | ((try dsimp only); first | omega | ((try law_fm); omega)) | k_dflt (k_extra "mine prem") | l_fact); (case zqk1 => k_asm); (case zqk2 => k_asm); (case zqk3 => k_asm); (case zqk4 => k_asm); (case zqk5 => k_asm); (case zqkK => first | exact rfl | assumption); (case zqkd => (first | (dsimp only [ktrTop, Around.deeper]; omega) | ktr_room)); (case zqku => (first | (dsimp only [ktrTop, Around.deeper]; omega) | ktr_units)); intro t9 h9 tk9 F9 N9; (try dsimp only); (try k_sweep); (try k_fold))
      k_with "mine ec" => ((with_reducible show wpAny _ _ (eval (Expr.Call (Expr.Name _ _) _ [] _) _) _ _ _); k_dflt (refine Call_ ?_))
      k_with "mine in" => ((with_reducible show wpAny _ _ (compareOp CmpOp.In (Value.int _ _) (Value.ref _)) _ _ _); k_dflt (refine' in30 ?zqt ?_; (case zqt => exact tupK (Frag.In.keeps (by k_asm) (Fr.keep (by k_asm))) (by k_is)); k_whole))
      k_with "mine seq" => ((with_reducible show wpAny _ _ (execs _ _) _ _ (Shared.mk _ _ _ (_ + _) _)); (try dsimp only); refine gen_toks ?_; intro tk9)
      k_with "mine raise" => (exfalso; (repeat (rename Fr _ _ _ _ => hz9; clear hz9)); (repeat (rename News _ _ _ _ => hz9; clear hz9)); (repeat (rename Below _ _ _ _ => hz9; clear hz9)); (repeat (rename Top _ _ _ _ _ _ => hz9; clear hz9)); (repeat (rename Frag.In _ _ => hz9; clear hz9)); (try clear qk ek); (try simp only [Int.fmod_eq_emod_of_nonneg, Int.fdiv_eq_ediv_of_nonneg, Int.reduceLE] at *); omega)
      unfold Cl RetT
      intros
      rename_i hret
      refine wpAny_call ?_
      k_dflt (refine' code_def ?zqk1 ?zqk2 ?zqk3 ?zqk4 ?zqk5 ?zqkA ?zqkF ?zqkK ?zqk6 ?zqk7 ?zqk8 ?zqk9 ?zqkB ?_ ?zqc2 ?zqc3 ?zqc4 ?zqc5; (case zqkA => exact rfl); (case zqkF => exact rfl); (case zqkK => first | exact rfl | assumption); (case zqk1 => k_asm); (case zqk2 => k_asm); (case zqk3 => k_asm); (case zqk4 => k_asm); (case zqk5 => k_asm); (case zqk6 => k_is); (case zqk7 => k_is); (case zqk8 => (first | (dsimp only [ktrTop, Around.deeper]; omega) | ktr_room)); (case zqk9 => first | exact BindsTo.of_eq rfl | exact binds_K (by k_in) rfl (by k_is) rfl rfl rfl); (case zqc5 => decide); (case zqkB => exact locs rfl); (case zqc2 => exact rfl); (case zqc3 => exact rfl); (case zqc4 => exact rfl); k_whole; intro g' L' h' FG' F' N' B' X' T'; (try dsimp only); (try k_lift B'); (try k_fold))
      k_steps
      all_goals (refine' retT hret ?zqktf ?zqktn ?zqkth ?zqktl ?zqkte; (case zqktf => assumption); (case zqktn => kcu_news); (case zqkth => (first | exact (fun _ hp => hp) | exact (fun _ hp => List.Mem.tail _ hp) | exact (fun _ hp => List.Mem.tail _ (List.Mem.tail _ hp)) | exact (fun _ hp => List.Mem.tail _ (List.Mem.tail _ (List.Mem.tail _ hp))) | kcj_all)); (case zqktl => first | assumption | exact And.right (by assumption) | exact And.right (And.right (by assumption)) | kcu_lt); (case zqkte => clear hret; (try clear c_to_jd_gregorian c_week1monday c_month_length); (repeat (rename Fr _ _ _ _ => hz9; clear hz9)); (repeat (rename News _ _ _ _ => hz9; clear hz9)); (repeat (rename Below _ _ _ _ => hz9; clear hz9)); (repeat (rename Top _ _ _ _ _ _ => hz9; clear hz9)); (repeat (rename Frag.In _ _ => hz9; clear hz9)); (try clear qk ek); (have hn9 := num_range hp1 hp2); (try simp only [Int.fmod_eq_emod_of_nonneg, Int.fdiv_eq_ediv_of_nonneg, Int.reduceLE] at *); (first | exact iso_p1 hn9 (by omega) | exact iso_p2 hn9 (by omega) | exact iso_p3 hn9 (by omega) (by omega))))
  have c_from_jd_iso : ∀ (w : World) (p : Program) (loose : List Str) (mean : ExcName → Option Value) (mg mb : Str → Option Value) (news : List (Addr × Obj)) (n : Int) (t_n : Tok) (hp0 : 1 ≤ yr n ∧ yr n ≤ 9999), Cl PySem.Challenge.rw_jk0006_01.row.prog w (Mine.holds.heap_1_39 w.params) p loose mean mg mb 180 news 14 [.int n t_n] (RetT news (isoY n) (isoW n) (isoD n)) := by
    as_aux_lemma =>
      clear c_trunc c_isleap c_jwday c_weekday_before c_law_first c_law_sunday c_law_epact c_law_western c_law_old c_legal_date_gregorian c_to_jd_gregorian c_n_weeks c_to_jd_iso c_week1monday c_to_jd_julian c_easter_o c_easter_e c_easter_western c_easter_w c_law_date c_month_length
      intro w p loose mean mg mb news n t_n hp0
      k_fill
      k_with_none
      k_with "mine call" => ((with_reducible show wpAny _ _ (call (Value.ref 100) _) _ _ _); k_dflt (refine' use_cl (c_from_jd_gregorian _ _ _ _ _ _ _ _ _ ) ?zqk1 ?zqk2 ?zqk3 ?zqk4 ?zqk5 ?zqkK ?zqkd ?zqku ?_); (case zqk1 => k_asm); (case zqk2 => k_asm); (case zqk3 => k_asm); (case zqk4 => k_asm); (case zqk5 => k_asm); (case zqkK => first | exact rfl | assumption); (case zqkd => (first | (dsimp only [ktrTop, Around.deeper]; omega) | ktr_room)); (case zqku => (first | (dsimp only [ktrTop, Around.deeper]; omega) | ktr_units)); intro D9 t9 t9a t9b c9 h9 tk9 F9 N9 l9; (try simp only [AllLt, and_true] at l9); (try dsimp only); (try k_sweep); (try k_fold))
      k_with "mine call" => ((with_reducible show wpAny _ _ (call (Value.ref 194) _) _ _ _); k_dflt (refine' use_cl (c_from_gregorian _ _ _ _ _ _ _ _ _ _ _ _ _ ?zqp0 ?zqp1 ?zqp2) ?zqk1 ?zqk2 ?zqk3 ?zqk4 ?zqk5 ?zqkK ?zqkd ?zqku ?_); (case zqp0 => first | assumption | ((try dsimp only); first | omega | ((try law_fm); omega)) | k_dflt (k_extra "mine prem") | l_fact); (case zqp1 => first | assumption | ((try dsimp only); first | omega | ((try law_fm); omega)) | k_dflt (k_extra "mine prem") | l_fact); (case zqp2 => first | assumption | ((try dsimp only); first | omega | ((try law_fm); omega)) | k_dflt (k_extra "mine prem") | l_fact); (case zqk1 => k_asm); (case zqk2 => k_asm); (case zqk3 => k_asm); (case zqk4 => k_asm); (case zqk5 => k_asm); (case zqkK => first | exact rfl | assumption); (case zqkd => (first | (dsimp only [ktrTop, Around.deeper]; omega) | ktr_room)); (case zqku => (first | (dsimp only [ktrTop, Around.deeper]; omega) | ktr_units)); intro D9 t9 t9a t9b c9 h9 tk9 F9 N9 l9; (try simp only [AllLt, and_true] at l9); (try dsimp only); (try k_sweep); (try k_fold))
      k_with "mine ec" => ((with_reducible show wpAny _ _ (eval (Expr.Call (Expr.Name _ _) _ [] _) _) _ _ _); k_dflt (refine Call_ ?_))
      k_with "mine in" => ((with_reducible show wpAny _ _ (compareOp CmpOp.In (Value.int _ _) (Value.ref _)) _ _ _); k_dflt (refine' in30 ?zqt ?_; (case zqt => exact tupK (Frag.In.keeps (by k_asm) (Fr.keep (by k_asm))) (by k_is)); k_whole))
      k_with "mine seq" => ((with_reducible show wpAny _ _ (execs _ _) _ _ (Shared.mk _ _ _ (_ + _) _)); (try dsimp only); refine gen_toks ?_; intro tk9)
      k_with "mine prem" => (first | exact mo_range n | exact dy_spec n)
      unfold Cl RetT
      intros
      rename_i hret
      refine wpAny_call ?_
      k_dflt (refine' code_def ?zqk1 ?zqk2 ?zqk3 ?zqk4 ?zqk5 ?zqkA ?zqkF ?zqkK ?zqk6 ?zqk7 ?zqk8 ?zqk9 ?zqkB ?_ ?zqc2 ?zqc3 ?zqc4 ?zqc5; (case zqkA => exact rfl); (case zqkF => exact rfl); (case zqkK => first | exact rfl | assumption); (case zqk1 => k_asm); (case zqk2 => k_asm); (case zqk3 => k_asm); (case zqk4 => k_asm); (case zqk5 => k_asm); (case zqk6 => k_is); (case zqk7 => k_is); (case zqk8 => (first | (dsimp only [ktrTop, Around.deeper]; omega) | ktr_room)); (case zqk9 => first | exact BindsTo.of_eq rfl | exact binds_K (by k_in) rfl (by k_is) rfl rfl rfl); (case zqc5 => decide); (case zqkB => exact locs rfl); (case zqc2 => exact rfl); (case zqc3 => exact rfl); (case zqc4 => exact rfl); k_whole; intro g' L' h' FG' F' N' B' X' T'; (try dsimp only); (try k_lift B'); (try k_fold))
      k_steps
      all_goals (refine' retT hret ?zqktf ?zqktn ?zqkth ?zqktl ?zqkte; (case zqktf => assumption); (case zqktn => kcu_news); (case zqkth => (first | exact (fun _ hp => hp) | exact (fun _ hp => List.Mem.tail _ hp) | exact (fun _ hp => List.Mem.tail _ (List.Mem.tail _ hp)) | exact (fun _ hp => List.Mem.tail _ (List.Mem.tail _ (List.Mem.tail _ hp))) | kcj_all)); (case zqktl => first | assumption | exact And.right (by assumption) | exact And.right (And.right (by assumption)) | kcu_lt); (case zqkte => clear hret; (try clear c_from_jd_gregorian c_from_gregorian); (repeat (rename Fr _ _ _ _ => hz9; clear hz9)); (repeat (rename News _ _ _ _ => hz9; clear hz9)); (repeat (rename Below _ _ _ _ => hz9; clear hz9)); (repeat (rename Top _ _ _ _ _ _ => hz9; clear hz9)); (repeat (rename Frag.In _ _ => hz9; clear hz9)); (try clear qk ek); rw [date_num]; exact ⟨rfl, rfl, rfl⟩))
  have c_to_jd_positivist : ∀ (w : World) (p : Program) (loose : List Str) (mean : ExcName → Option Value) (mg mb : Str → Option Value) (news : List (Addr × Obj)) (y : Int) (t_y : Tok) (t_m : Tok) (t_d : Tok) (hp0 : 1 ≤ y) (hp1 : leapB (y + 1789 - 1) = true), Cl PySem.Challenge.rw_jk0006_01.row.prog w (Mine.holds.heap_1_39 w.params) p loose mean mg mb 208 news 8 [.int y t_y, .int 14 t_m, .int 2 t_d] (RetI news (firstN (y + 1789 - 1) + 365)) := by
    as_aux_lemma =>
      clear c_trunc c_jwday c_weekday_before c_law_first c_law_sunday c_law_epact c_law_western c_law_old c_legal_date_gregorian c_to_jd_gregorian c_n_weeks c_to_jd_iso c_week1monday c_to_jd_julian c_from_jd_gregorian c_easter_o c_easter_e c_easter_western c_easter_w c_law_date c_month_length c_from_gregorian c_from_jd_iso
      intro w p loose mean mg mb news y t_y t_m t_d hp0 hp1
      k_fill
      k_with_none
      k_with "mine call" => ((with_reducible show wpAny _ _ (call (Value.ref 22) _) _ _ _); k_dflt (refine' use_cl (c_isleap _ _ _ _ _ _ _ _ _ ) ?zqk1 ?zqk2 ?zqk3 ?zqk4 ?zqk5 ?zqkK ?zqkd ?zqku ?_); (case zqk1 => k_asm); (case zqk2 => k_asm); (case zqk3 => k_asm); (case zqk4 => k_asm); (case zqk5 => k_asm); (case zqkK => first | exact rfl | assumption); (case zqkd => (first | (dsimp only [ktrTop, Around.deeper]; omega) | ktr_room)); (case zqku => (first | (dsimp only [ktrTop, Around.deeper]; omega) | ktr_units)); intro t9 h9 tk9 F9 N9; (try dsimp only); (try k_sweep); (try k_fold))
      k_with "mine call" => ((first | (with_reducible show wpAny _ _ (call (Value.ref 201) _ _) _ _ _)); k_dflt (refine wpAny_call ?_; (refine' code_def ?zqk1 ?zqk2 ?zqk3 ?zqk4 ?zqk5 ?zqkA ?zqkF ?zqkK ?zqk6 ?zqk7 ?zqk8 ?zqk9 ?zqkB ?_ ?zqc2 ?zqc3 ?zqc4 ?zqc5; (case zqkA => exact rfl); (case zqkF => exact rfl); (case zqkK => first | exact rfl | assumption); (case zqk1 => k_asm); (case zqk2 => k_asm); (case zqk3 => k_asm); (case zqk4 => k_asm); (case zqk5 => k_asm); (case zqk6 => k_is); (case zqk7 => k_is); (case zqk8 => (first | (dsimp only [ktrTop, Around.deeper]; omega) | ktr_room)); (case zqk9 => first | exact BindsTo.of_eq rfl | exact binds_K (by k_in) rfl (by k_is) rfl rfl rfl); (case zqc5 => decide); (case zqkB => exact locs rfl); (case zqc2 => exact rfl); (case zqc3 => exact rfl); (case zqc4 => exact rfl); k_whole; intro g' L' h' FG' F' N' B' X' T'; (try dsimp only); (try k_lift B'); (try k_fold))))
      k_with "mine ec" => ((with_reducible show wpAny _ _ (eval (Expr.Call (Expr.Name _ _) _ [] _) _) _ _ _); k_dflt (refine Call_ ?_))
      k_with "mine in" => ((with_reducible show wpAny _ _ (compareOp CmpOp.In (Value.int _ _) (Value.ref _)) _ _ _); k_dflt (refine' in30 ?zqt ?_; (case zqt => exact tupK (Frag.In.keeps (by k_asm) (Fr.keep (by k_asm))) (by k_is)); k_whole))
      k_with "mine seq" => ((with_reducible show wpAny _ _ (execs _ _) _ _ (Shared.mk _ _ _ (_ + _) _)); (try dsimp only); refine gen_toks ?_; intro tk9)
      unfold Cl RetI
      intros
      rename_i hret
      refine wpAny_call ?_
      k_dflt (refine' code_def ?zqk1 ?zqk2 ?zqk3 ?zqk4 ?zqk5 ?zqkA ?zqkF ?zqkK ?zqk6 ?zqk7 ?zqk8 ?zqk9 ?zqkB ?_ ?zqc2 ?zqc3 ?zqc4 ?zqc5; (case zqkA => exact rfl); (case zqkF => exact rfl); (case zqkK => first | exact rfl | assumption); (case zqk1 => k_asm); (case zqk2 => k_asm); (case zqk3 => k_asm); (case zqk4 => k_asm); (case zqk5 => k_asm); (case zqk6 => k_is); (case zqk7 => k_is); (case zqk8 => (first | (dsimp only [ktrTop, Around.deeper]; omega) | ktr_room)); (case zqk9 => first | exact BindsTo.of_eq rfl | exact binds_K (by k_in) rfl (by k_is) rfl rfl rfl); (case zqc5 => decide); (case zqkB => exact locs rfl); (case zqc2 => exact rfl); (case zqc3 => exact rfl); (case zqc4 => exact rfl); k_whole; intro g' L' h' FG' F' N' B' X' T'; (try dsimp only); (try k_lift B'); (try k_fold))
      k_steps
      all_goals (refine' cb_retI hret ?zqe1 ?zqe2 ?zqe3; (case zqe2 => assumption); (case zqe3 => first | assumption | (refine' cb_drop ?zqcbN ?zqcbS; (case zqcbN => assumption); (case zqcbS => (first | exact (fun _ hp => hp) | exact (fun _ hp => List.Mem.tail _ hp) | exact (fun _ hp => List.Mem.tail _ (List.Mem.tail _ hp)) | exact (fun _ hp => List.Mem.tail _ (List.Mem.tail _ (List.Mem.tail _ hp))) | kcj_all)))); (case zqe1 => clear hret; (try clear c_isleap); (repeat (rename Fr _ _ _ _ => hz9; clear hz9)); (repeat (rename News _ _ _ _ => hz9; clear hz9)); (repeat (rename Below _ _ _ _ => hz9; clear hz9)); (repeat (rename Top _ _ _ _ _ _ => hz9; clear hz9)); (repeat (rename Frag.In _ _ => hz9; clear hz9)); (try clear qk ek); unfold firstN; (try simp only [Int.fmod_eq_emod_of_nonneg, Int.fdiv_eq_ediv_of_nonneg, Int.reduceLE] at *); (first | done | rfl | omega | cb_eq)))
  have c_from_jd_positivist : ∀ (w : World) (p : Program) (loose : List Str) (mean : ExcName → Option Value) (mg mb : Str → Option Value) (news : List (Addr × Obj)) (n : Int) (t_n : Tok) (hp0 : 2374480 ≤ n), Cl PySem.Challenge.rw_jk0006_01.row.prog w (Mine.holds.heap_1_39 w.params) p loose mean mg mb 215 news 8 [.int n t_n] (RetT news (posY n) (posM n) (posD n)) := by
    as_aux_lemma =>
      clear c_trunc c_isleap c_jwday c_weekday_before c_law_first c_law_sunday c_law_epact c_law_western c_law_old c_legal_date_gregorian c_to_jd_gregorian c_n_weeks c_to_jd_iso c_week1monday c_to_jd_julian c_from_jd_gregorian c_easter_o c_easter_e c_easter_western c_easter_w c_law_date c_month_length c_from_gregorian c_from_jd_iso c_to_jd_positivist
      intro w p loose mean mg mb news n t_n hp0
      k_fill
      k_with_none
      k_with "mine ec" => ((with_reducible show wpAny _ _ (eval (Expr.Call (Expr.Name _ _) _ [] _) _) _ _ _); k_dflt (refine Call_ ?_))
      k_with "mine in" => ((with_reducible show wpAny _ _ (compareOp CmpOp.In (Value.int _ _) (Value.ref _)) _ _ _); k_dflt (refine' in30 ?zqt ?_; (case zqt => exact tupK (Frag.In.keeps (by k_asm) (Fr.keep (by k_asm))) (by k_is)); k_whole))
      k_with "mine seq" => ((with_reducible show wpAny _ _ (execs _ _) _ _ (Shared.mk _ _ _ (_ + _) _)); (try dsimp only); refine gen_toks ?_; intro tk9)
      unfold Cl RetT
      intros
      rename_i hret
      refine wpAny_call ?_
      k_dflt (refine' code_def ?zqk1 ?zqk2 ?zqk3 ?zqk4 ?zqk5 ?zqkA ?zqkF ?zqkK ?zqk6 ?zqk7 ?zqk8 ?zqk9 ?zqkB ?_ ?zqc2 ?zqc3 ?zqc4 ?zqc5; (case zqkA => exact rfl); (case zqkF => exact rfl); (case zqkK => first | exact rfl | assumption); (case zqk1 => k_asm); (case zqk2 => k_asm); (case zqk3 => k_asm); (case zqk4 => k_asm); (case zqk5 => k_asm); (case zqk6 => k_is); (case zqk7 => k_is); (case zqk8 => (first | (dsimp only [ktrTop, Around.deeper]; omega) | ktr_room)); (case zqk9 => first | exact BindsTo.of_eq rfl | exact binds_K (by k_in) rfl (by k_is) rfl rfl rfl); (case zqc5 => decide); (case zqkB => exact locs rfl); (case zqc2 => exact rfl); (case zqc3 => exact rfl); (case zqc4 => exact rfl); k_whole; intro g' L' h' FG' F' N' B' X' T'; (try dsimp only); (try k_lift B'); (try k_fold))
      k_steps
      all_goals (refine' retT hret ?zqktf ?zqktn ?zqkth ?zqktl ?zqkte; (case zqktf => assumption); (case zqktn => kcu_news); (case zqkth => (first | exact (fun _ hp => hp) | exact (fun _ hp => List.Mem.tail _ hp) | exact (fun _ hp => List.Mem.tail _ (List.Mem.tail _ hp)) | exact (fun _ hp => List.Mem.tail _ (List.Mem.tail _ (List.Mem.tail _ hp))) | kcj_all)); (case zqktl => first | assumption | exact And.right (by assumption) | exact And.right (And.right (by assumption)) | kcu_lt); (case zqkte => clear hret; (repeat (rename Fr _ _ _ _ => hz9; clear hz9)); (repeat (rename News _ _ _ _ => hz9; clear hz9)); (repeat (rename Below _ _ _ _ => hz9; clear hz9)); (repeat (rename Top _ _ _ _ _ _ => hz9; clear hz9)); (repeat (rename Frag.In _ _ => hz9; clear hz9)); (try clear qk ek); (try simp only [Int.fmod_eq_emod_of_nonneg, Int.fdiv_eq_ediv_of_nonneg, Int.reduceLE] at *); (first | exact pos_end4 (by assumption) | exact pos_end0 (by assumption))))
  clear c_trunc c_jwday c_weekday_before c_law_sunday c_legal_date_gregorian c_to_jd_gregorian c_n_weeks c_week1monday c_to_jd_julian c_easter_western c_month_length c_from_gregorian
  k_with_none
  k_with "mine comp" => (k_dflt (refine' Assign_comp_any (F₀ := by k_asm) (by rfl) ?zqh1 ?zqh2 ?zqh3 ?zqh4 ?zqh5 ?zqh6 ?zqh7 ?zqh8 ?_; (case zqh1 => with_unfolding_all rfl); (case zqh2 => with_unfolding_all rfl); (case zqh3 => decide); (case zqh4 => rfl); (case zqh5 => decide); (case zqh6 => rfl); (case zqh7 => rfl); (case zqh8 => rfl)))
  k_with "mine in" => (k_dflt (refine' in_tuple_ints ?zqt ?zqi ?_; (case zqt => exact News.isTup (by k_asm) (by k_mem)); (case zqi => repeat constructor); k_whole); (try dsimp only))
  k_with "mine seq" => ((with_reducible show wpAny _ _ (execs (Stmt.If _ _ _ _ :: _) (envOfC _ _ _ _ _)) _ _ _); (try dsimp only); k_dflt (refine' cut_if ?zqF ?zqN ?_ ?_; (case zqF => k_asm); (case zqN => k_asm)); (focus ((try dsimp only); (try k_fold))); rotate_left; (intro h' tk' F' N'; (try dsimp only); (try k_sweep); (try k_fold)); rotate_right; walk_say "CUT")
  k_with "mine seq" => ((with_reducible show wpAny _ _ (execs (Stmt.If _ (Stmt.AugAssign _ _ _ _ :: _) _ _ :: _) (envOfC _ _ _ _ _)) _ _ _); k_dflt (k_extra "mine year"))
  k_with "mine try" => (w_top on; refine wpAny_Try_except ?_)
  k_with "mine noted" => ((rename Heap.NewExc _ _ _ _ => nx); k_dflt (refine' caught_first (T' := "AssertionError") ?zqR ?zqF ?zqN ?zqK ?zqXB ?zqTB ?zqex PyProof.Rows.Boot.«AssertionError» ?zqhn PySem.F.isExc_AssertionError PySem.F.notTuple_AssertionError ?zqhs ?_; (case zqR => exact nx); (case zqF => assumption); (case zqN => k_asm); (case zqK => assumption); (case zqXB => assumption); (case zqTB => assumption); (case zqex => k_is); (case zqhn => decide); (case zqhs => kts_sub); k_whole); clear nx; intro h' g' tk' oe' vs' oc' od' o2' hU' F' N' K' X' P'; (try k_lift K'); (try k_sweep); (try dsimp only); (try k_fold))
  k_with "mine noted" => ((rename RaisedN _ _ _ _ _ _ => rnX); k_dflt (refine' caught_X0 (T' := "ValueError") ?zqK ?zqF ?zqU ?zqR ?zqXB ?zqTB ?zqex PyProof.Rows.Boot.«ValueError» ?zqhn PySem.F.isExc_ValueError PySem.F.notTuple_ValueError ?zqhs ?_; (case zqR => exact rnX); (case zqF => assumption); (case zqU => assumption); (case zqK => assumption); (case zqXB => assumption); (case zqTB => k_asm); (case zqex => k_is); (case zqhn => decide); (case zqhs => kts_sub); k_whole); clear rnX; intro h' F' N'; (try k_sweep); (try dsimp only); (try k_fold))
  k_with "mine raise" => ((with_reducible show wpAny _ _ (exec (Stmt.Raise (some (Expr.Call (Expr.Name _ _) _ [] _)) (some _) _) _) _ _ _); k_dflt (refine' Raise_fromB (X := "AssertionError") PySem.F.excCall_ValueError PySem.F.excRaise_ValueError PySem.F.excRaise_AssertionError ?zqhh ?_ ?zqhe ?zqhp ?zqhk ?zqhl ?zqhd; (case zqhh => exact rfl); (case zqhe => exact rfl); (case zqhp => exact rfl); (case zqhk => exact rfl); (case zqhl => exact rfl); (case zqhd => decide)))
  k_with "mine ec" => ((with_reducible show wpAny _ _ (eval (Expr.Call (Expr.Name _ _) _ [] _) _) _ _ _); k_dflt (refine Call_ ?_))
  k_with "mine seq" => ((with_reducible show wpAny _ _ (execs _ _) _ _ (Shared.mk _ _ _ (_ + _) _)); (try dsimp only); refine gen_toks ?_; intro tk9)
  k_with "mine call" => ((with_reducible show wpAny _ _ (call (Value.ref 22) _) _ _ _); k_dflt (refine' use_cl (c_isleap _ _ _ _ _ _ _ _ _ ) ?zqk1 ?zqk2 ?zqk3 ?zqk4 ?zqk5 ?zqkK ?zqkd ?zqku ?_); (case zqk1 => k_asm); (case zqk2 => k_asm); (case zqk3 => k_asm); (case zqk4 => k_asm); (case zqk5 => k_asm); (case zqkK => first | exact rfl | assumption); (case zqkd => (first | (dsimp only [ktrTop, Around.deeper]; omega) | ktr_room)); (case zqku => (first | (dsimp only [ktrTop, Around.deeper]; omega) | ktr_units)); intro t9 h9 tk9 F9 N9; (try dsimp only); (try k_sweep); (try k_fold))
  k_with "mine call" => ((with_reducible show wpAny _ _ (call (Value.ref 222) _) _ _ _); k_dflt (refine' use_cl (c_law_first _ _ _ _ _ _ _ _ _ ) ?zqk1 ?zqk2 ?zqk3 ?zqk4 ?zqk5 ?zqkK ?zqkd ?zqku ?_); (case zqk1 => k_asm); (case zqk2 => k_asm); (case zqk3 => k_asm); (case zqk4 => k_asm); (case zqk5 => k_asm); (case zqkK => first | exact rfl | assumption); (case zqkd => (first | (dsimp only [ktrTop, Around.deeper]; omega) | ktr_room)); (case zqku => (first | (dsimp only [ktrTop, Around.deeper]; omega) | ktr_units)); intro t9 h9 tk9 F9 N9; (try dsimp only); (try k_sweep); (try k_fold))
  k_with "mine call" => ((with_reducible show wpAny _ _ (call (Value.ref 243) _) _ _ _); k_dflt (refine' use_cl (c_law_epact _ _ _ _ _ _ _ _ _ ) ?zqk1 ?zqk2 ?zqk3 ?zqk4 ?zqk5 ?zqkK ?zqkd ?zqku ?_); (case zqk1 => k_asm); (case zqk2 => k_asm); (case zqk3 => k_asm); (case zqk4 => k_asm); (case zqk5 => k_asm); (case zqkK => first | exact rfl | assumption); (case zqkd => (first | (dsimp only [ktrTop, Around.deeper]; omega) | ktr_room)); (case zqku => (first | (dsimp only [ktrTop, Around.deeper]; omega) | ktr_units)); intro t9 h9 tk9 F9 N9; (try dsimp only); (try k_sweep); (try k_fold))
  k_with "mine call" => ((with_reducible show wpAny _ _ (call (Value.ref 250) _) _ _ _); k_dflt (refine' use_cl (c_law_western _ _ _ _ _ _ _ _ _ ) ?zqk1 ?zqk2 ?zqk3 ?zqk4 ?zqk5 ?zqkK ?zqkd ?zqku ?_); (case zqk1 => k_asm); (case zqk2 => k_asm); (case zqk3 => k_asm); (case zqk4 => k_asm); (case zqk5 => k_asm); (case zqkK => first | exact rfl | assumption); (case zqkd => (first | (dsimp only [ktrTop, Around.deeper]; omega) | ktr_room)); (case zqku => (first | (dsimp only [ktrTop, Around.deeper]; omega) | ktr_units)); intro t9 h9 tk9 F9 N9; (try dsimp only); (try k_sweep); (try k_fold))
  k_with "mine call" => ((with_reducible show wpAny _ _ (call (Value.ref 257) _) _ _ _); k_dflt (refine' use_cl (c_law_old _ _ _ _ _ _ _ _ _ _ _ ) ?zqk1 ?zqk2 ?zqk3 ?zqk4 ?zqk5 ?zqkK ?zqkd ?zqku ?_); (case zqk1 => k_asm); (case zqk2 => k_asm); (case zqk3 => k_asm); (case zqk4 => k_asm); (case zqk5 => k_asm); (case zqkK => first | exact rfl | assumption); (case zqkd => (first | (dsimp only [ktrTop, Around.deeper]; omega) | ktr_room)); (case zqku => (first | (dsimp only [ktrTop, Around.deeper]; omega) | ktr_units)); intro t9 h9 tk9 F9 N9; (try dsimp only); (try k_sweep); (try k_fold))
  k_with "mine call" => ((with_reducible show wpAny _ _ (call (Value.ref 173) _) _ _ _); k_dflt (refine' use_cl (c_to_jd_iso _ _ _ _ _ _ _ _ _ _ _ _ _ ?zqp0) ?zqk1 ?zqk2 ?zqk3 ?zqk4 ?zqk5 ?zqkK ?zqkd ?zqku ?_); (case zqp0 => first | assumption | ((try dsimp only); first | omega | ((try law_fm); omega)) | k_dflt (k_extra "mine prem") | l_fact); (case zqk1 => k_asm); (case zqk2 => k_asm); (case zqk3 => k_asm); (case zqk4 => k_asm); (case zqk5 => k_asm); (case zqkK => first | exact rfl | assumption); (case zqkd => (first | (dsimp only [ktrTop, Around.deeper]; omega) | ktr_room)); (case zqku => (first | (dsimp only [ktrTop, Around.deeper]; omega) | ktr_units)); intro t9 h9 tk9 F9 N9; (try dsimp only); (try k_sweep); (try k_fold))
  k_with "mine call" => ((with_reducible show wpAny _ _ (call (Value.ref 100) _) _ _ _); k_dflt (refine' use_cl (c_from_jd_gregorian _ _ _ _ _ _ _ _ _ ) ?zqk1 ?zqk2 ?zqk3 ?zqk4 ?zqk5 ?zqkK ?zqkd ?zqku ?_); (case zqk1 => k_asm); (case zqk2 => k_asm); (case zqk3 => k_asm); (case zqk4 => k_asm); (case zqk5 => k_asm); (case zqkK => first | exact rfl | assumption); (case zqkd => (first | (dsimp only [ktrTop, Around.deeper]; omega) | ktr_room)); (case zqku => (first | (dsimp only [ktrTop, Around.deeper]; omega) | ktr_units)); intro D9 t9 t9a t9b c9 h9 tk9 F9 N9 l9; (try simp only [AllLt, and_true] at l9); (try dsimp only); (try k_sweep); (try k_fold))
  k_with "mine call" => ((with_reducible show wpAny _ _ (call (Value.ref 151) _) _ _ _); k_dflt (refine' use_cl (c_easter_o _ _ _ _ _ _ _ _ _ _ ?zqp0) ?zqk1 ?zqk2 ?zqk3 ?zqk4 ?zqk5 ?zqkK ?zqkd ?zqku ?_); (case zqp0 => first | assumption | ((try dsimp only); first | omega | ((try law_fm); omega)) | k_dflt (k_extra "mine prem") | l_fact); (case zqk1 => k_asm); (case zqk2 => k_asm); (case zqk3 => k_asm); (case zqk4 => k_asm); (case zqk5 => k_asm); (case zqkK => first | exact rfl | assumption); (case zqkd => (first | (dsimp only [ktrTop, Around.deeper]; omega) | ktr_room)); (case zqku => (first | (dsimp only [ktrTop, Around.deeper]; omega) | ktr_units)); intro D9 t9 t9a t9b c9 h9 tk9 F9 N9 l9; (try simp only [AllLt, and_true] at l9); (try dsimp only); (try k_sweep); (try k_fold))
  k_with "mine call" => ((with_reducible show wpAny _ _ (call (Value.ref 151) _) _ _ _); k_dflt (refine' use_cl (c_easter_e _ _ _ _ _ _ _ _ _ _ ?zqp0) ?zqk1 ?zqk2 ?zqk3 ?zqk4 ?zqk5 ?zqkK ?zqkd ?zqku ?_); (case zqp0 => first | assumption | ((try dsimp only); first | omega | ((try law_fm); omega)) | k_dflt (k_extra "mine prem") | l_fact); (case zqk1 => k_asm); (case zqk2 => k_asm); (case zqk3 => k_asm); (case zqk4 => k_asm); (case zqk5 => k_asm); (case zqkK => first | exact rfl | assumption); (case zqkd => (first | (dsimp only [ktrTop, Around.deeper]; omega) | ktr_room)); (case zqku => (first | (dsimp only [ktrTop, Around.deeper]; omega) | ktr_units)); intro D9 t9 t9a t9b c9 h9 tk9 F9 N9 l9; (try simp only [AllLt, and_true] at l9); (try dsimp only); (try k_sweep); (try k_fold))
  k_with "mine call" => ((with_reducible show wpAny _ _ (call (Value.ref 151) _) _ _ _); k_dflt (refine' use_cl (c_easter_w _ _ _ _ _ _ _ _ _ ?zqp0 ?zqp1) ?zqk1 ?zqk2 ?zqk3 ?zqk4 ?zqk5 ?zqkK ?zqkd ?zqku ?_); (case zqp0 => first | assumption | ((try dsimp only); first | omega | ((try law_fm); omega)) | k_dflt (k_extra "mine prem") | l_fact); (case zqp1 => first | assumption | ((try dsimp only); first | omega | ((try law_fm); omega)) | k_dflt (k_extra "mine prem") | l_fact); (case zqk1 => k_asm); (case zqk2 => k_asm); (case zqk3 => k_asm); (case zqk4 => k_asm); (case zqk5 => k_asm); (case zqkK => first | exact rfl | assumption); (case zqkd => (first | (dsimp only [ktrTop, Around.deeper]; omega) | ktr_room)); (case zqku => (first | (dsimp only [ktrTop, Around.deeper]; omega) | ktr_units)); intro D9 t9 t9a t9b c9 h9 tk9 F9 N9 l9; (try simp only [AllLt, and_true] at l9); (try dsimp only); (try k_sweep); (try k_fold))
  k_with "mine call" => ((with_reducible show wpAny _ _ (call (Value.ref 229) _) _ _ _); k_dflt (refine' use_cl (c_law_date _ _ _ _ _ _ _ _ _ ) ?zqk1 ?zqk2 ?zqk3 ?zqk4 ?zqk5 ?zqkK ?zqkd ?zqku ?_); (case zqk1 => k_asm); (case zqk2 => k_asm); (case zqk3 => k_asm); (case zqk4 => k_asm); (case zqk5 => k_asm); (case zqkK => first | exact rfl | assumption); (case zqkd => (first | (dsimp only [ktrTop, Around.deeper]; omega) | ktr_room)); (case zqku => (first | (dsimp only [ktrTop, Around.deeper]; omega) | ktr_units)); intro D9 t9 t9a t9b c9 h9 tk9 F9 N9 l9; (try simp only [AllLt, and_true] at l9); (try dsimp only); (try k_sweep); (try k_fold))
  k_with "mine call" => ((with_reducible show wpAny _ _ (call (Value.ref 180) _) _ _ _); k_dflt (refine' use_cl (c_from_jd_iso _ _ _ _ _ _ _ _ _ ?zqp0) ?zqk1 ?zqk2 ?zqk3 ?zqk4 ?zqk5 ?zqkK ?zqkd ?zqku ?_); (case zqp0 => first | assumption | ((try dsimp only); first | omega | ((try law_fm); omega)) | k_dflt (k_extra "mine prem") | l_fact); (case zqk1 => k_asm); (case zqk2 => k_asm); (case zqk3 => k_asm); (case zqk4 => k_asm); (case zqk5 => k_asm); (case zqkK => first | exact rfl | assumption); (case zqkd => (first | (dsimp only [ktrTop, Around.deeper]; omega) | ktr_room)); (case zqku => (first | (dsimp only [ktrTop, Around.deeper]; omega) | ktr_units)); intro D9 t9 t9a t9b c9 h9 tk9 F9 N9 l9; (try simp only [AllLt, and_true] at l9); (try dsimp only); (try k_sweep); (try k_fold))
  k_with "mine call" => ((with_reducible show wpAny _ _ (call (Value.ref 208) _) _ _ _); k_dflt (refine' use_cl (c_to_jd_positivist _ _ _ _ _ _ _ _ _ _ _ ?zqp0 ?zqp1) ?zqk1 ?zqk2 ?zqk3 ?zqk4 ?zqk5 ?zqkK ?zqkd ?zqku ?_); (case zqp0 => first | assumption | ((try dsimp only); first | omega | ((try law_fm); omega)) | k_dflt (k_extra "mine prem") | l_fact); (case zqp1 => first | assumption | ((try dsimp only); first | omega | ((try law_fm); omega)) | k_dflt (k_extra "mine prem") | l_fact); (case zqk1 => k_asm); (case zqk2 => k_asm); (case zqk3 => k_asm); (case zqk4 => k_asm); (case zqk5 => k_asm); (case zqkK => first | exact rfl | assumption); (case zqkd => (first | (dsimp only [ktrTop, Around.deeper]; omega) | ktr_room)); (case zqku => (first | (dsimp only [ktrTop, Around.deeper]; omega) | ktr_units)); intro t9 h9 tk9 F9 N9; (try dsimp only); (try k_sweep); (try k_fold))
  k_with "mine call" => ((with_reducible show wpAny _ _ (call (Value.ref 215) _) _ _ _); k_dflt (refine' use_cl (c_from_jd_positivist _ _ _ _ _ _ _ _ _ ?zqp0) ?zqk1 ?zqk2 ?zqk3 ?zqk4 ?zqk5 ?zqkK ?zqkd ?zqku ?_); (case zqp0 => first | assumption | ((try dsimp only); first | omega | ((try law_fm); omega)) | k_dflt (k_extra "mine prem") | l_fact); (case zqk1 => k_asm); (case zqk2 => k_asm); (case zqk3 => k_asm); (case zqk4 => k_asm); (case zqk5 => k_asm); (case zqkK => first | exact rfl | assumption); (case zqkd => (first | (dsimp only [ktrTop, Around.deeper]; omega) | ktr_room)); (case zqku => (first | (dsimp only [ktrTop, Around.deeper]; omega) | ktr_units)); intro D9 t9 t9a t9b c9 h9 tk9 F9 N9 l9; (try simp only [AllLt, and_true] at l9); (try dsimp only); (try k_sweep); (try k_fold))
  k_with "mine src" => (refine' SrcAny.intro 100 ?zqs1 ?zqs2 ?zqs3 ?zqs4 ?zqs5 ?zqs6 ?_; (case zqs1 => rfl); (case zqs2 => k_asm); (case zqs3 => k_asm); (case zqs4 => assumption); (case zqs5 => omega); (case zqs6 => exact Nat.le_of_ble_eq_true rfl); intro g9; refine' comp_filter P1 (fun k => k) trivial (fun k t I oI C oC D m2 ys h tk E' hlo hhi hC hx F N off ne => ?_) (fun ys ms hI hlen hmem hex => ?_); (try simp only [LCg.Off3, and_true] at off); (focus ((try dsimp only); (try k_fold))); rotate_left; (try dsimp only); (have hp9 := rare1_all _ hmem); (have hl9 := rare1_ne _ hex); (have hy9 := IntsAre.length hI); clear hmem hex; rotate_right)
  k_with "mine src" => (refine' SrcAny.intro 28 ?zqs1 ?zqs2 ?zqs3 ?zqs4 ?zqs5 ?zqs6 ?_; (case zqs1 => rfl); (case zqs2 => k_asm); (case zqs3 => k_asm); (case zqs4 => assumption); (case zqs5 => omega); (case zqs6 => exact Nat.le_of_ble_eq_true rfl); intro g9; refine' comp_filter (P2 (532 * nth sc 2)) (fun k => 532 * nth sc 2 + 19 * k) trivial (fun k t I oI C oC D m2 ys h tk E' hlo hhi hC hx F N off ne => ?_) (fun ys ms hI hlen hmem hex => ?_); (try simp only [LCg.Off3, and_true] at off); (focus ((try dsimp only); (try k_fold))); rotate_left; (try dsimp only); (have hp9 := rare2_all _ hmem); (have hl9 := rare2_ne _ hex); (have hy9 := IntsAre.length hI); clear hmem hex; rotate_right)
  k_with "mine turn" => (first | exact ⟨_, _, _, rfl, rfl, (by first | exact p1_t (by assumption) | exact p1_f (by assumption) | exact p1_f' (by assumption) | exact p2_t (by assumption) | exact p2_f (by assumption) | exact p2_f' (by assumption)), by assumption, by first | assumption | (refine' cb_drop ?zqcbN ?zqcbS; (case zqcbN => assumption); (case zqcbS => (first | exact (fun _ hp => hp) | exact (fun _ hp => List.Mem.tail _ hp) | exact (fun _ hp => List.Mem.tail _ (List.Mem.tail _ hp)) | exact (fun _ hp => List.Mem.tail _ (List.Mem.tail _ (List.Mem.tail _ hp))) | kcj_all)))⟩ | exact ⟨_, _, rfl, (by first | exact p1_t (by assumption) | exact p1_f (by assumption) | exact p1_f' (by assumption) | exact p2_t (by assumption) | exact p2_f (by assumption) | exact p2_f' (by assumption)), by assumption, by first | assumption | (refine' cb_drop ?zqcbN ?zqcbS; (case zqcbN => assumption); (case zqcbS => (first | exact (fun _ hp => hp) | exact (fun _ hp => List.Mem.tail _ hp) | exact (fun _ hp => List.Mem.tail _ (List.Mem.tail _ hp)) | exact (fun _ hp => List.Mem.tail _ (List.Mem.tail _ (List.Mem.tail _ hp))) | kcj_all)))⟩)
  k_with "mine item" => (refine' item_memL ?zqk1 ?zqk2 ?zqk3 ?zqk4 ?zqk5 ?zqk6 ?_; (case zqk1 => exact News.isList (by k_asm) (by k_mem)); (case zqk2 => assumption); (case zqk3 => assumption); (case zqk4 => exact fm_lo (by omega)); (case zqk5 => exact Int.lt_of_lt_of_le (fm_hi (by omega)) (by omega)); (case zqk6 => exact Int.lt_trans (fm_hi (by omega)) (by omega)); intro y9 t9 hy9; (first | (unfold E1 at hy9; obtain ⟨e1, e2, e3, e4, e5⟩ := hy9) | (unfold E2 at hy9; obtain ⟨e1, e2, e3⟩ := hy9)))
  k_with "mine and" => (first | exact ⟨rfl, _, _, rfl, by assumption, by first | assumption | (refine' cb_drop ?zqcbN ?zqcbS; (case zqcbN => assumption); (case zqcbS => (first | exact (fun _ hp => hp) | exact (fun _ hp => List.Mem.tail _ hp) | exact (fun _ hp => List.Mem.tail _ (List.Mem.tail _ hp)) | exact (fun _ hp => List.Mem.tail _ (List.Mem.tail _ (List.Mem.tail _ hp))) | kcj_all)))⟩ | ((with_reducible show (Flow.ret _ = Flow.next) ∧ _); exfalso; (first | exact tri_f (by assumption) e3 e4 e5 | exact tri_f (by assumption) (congrArg yr e2) (congrArg mo e2) (congrArg dy e2) | exact tri_f (by assumption) (congrArg yr e3) (congrArg mo e3) (congrArg dy e3) | exact tri_f (by assumption) (f31 (by assumption)).1.symm (f31 (by assumption)).2.1.symm (f31 (by assumption)).2.2.symm | exact tri_f (by assumption) (f32 (by assumption)).1.symm (f32 (by assumption)).2.1.symm (f32 (by assumption)).2.2.symm | exact tri_f (by assumption) f33.symm f34.symm f35.symm | exact tri_f (by assumption) f41 f42 f43 | exact absurd f45 (by assumption) | exact absurd g3 (by assumption) | exact tri_f (by assumption) (g5 (by assumption)).symm (g6 (by assumption)).symm (g7 (by assumption)).symm)))
  k_with "mine year" => ((try dsimp only); refine' cut_year (PySem.Str.ofString "year") (fun y => E5 y (nth sc 4)) ?zqF ?zqN ?_ ?_; (case zqF => k_asm); (case zqN => k_asm); (focus ((try dsimp only); (try k_fold))); rotate_left; (intro h' tk' y t hR F' N'; (unfold E5 at hR); (obtain ⟨g1, g2, g3, g4, g5, g6, g7, g8, g9⟩ := hR); (try dsimp only); (try k_sweep); (try k_fold)); rotate_right)
  k_with "mine and" => (refine' ⟨rfl, _, _, _, _, _, rfl, ?zqR, ?zqX, ?zqZ, ?zqF, ?zqN⟩; (case zqF => assumption); (case zqX => with_unfolding_all rfl); (case zqZ => intro z hz; first | rfl | exact if_neg hz); (case zqN => first | assumption | (refine' cb_drop ?zqcbN ?zqcbS; (case zqcbN => assumption); (case zqcbS => (first | exact (fun _ hp => hp) | exact (fun _ hp => List.Mem.tail _ hp) | exact (fun _ hp => List.Mem.tail _ (List.Mem.tail _ hp)) | exact (fun _ hp => List.Mem.tail _ (List.Mem.tail _ (List.Mem.tail _ hp))) | kcj_all)))); (case zqR => first | exact law5a _ _ ⟨by assumption, by assumption⟩ | exact law5b _ _ (by omega)))
  k_with "mine and" => (refine' ⟨?zqle, _, _, _, _, ?zqF, ?zqv, ?zqg, ?zqc, ?zqd, ?zqz, ?_⟩; (case zqF => k_asm); (case zqle => exact Nat.le_of_ble_eq_true rfl); (case zqv => with_unfolding_all rfl); (case zqg => exact News.get (by k_asm) (by k_mem)); (case zqc => assumption); (case zqd => assumption); (case zqz => assumption); intro t9 e9 h9 q4 q2 q3; (have q5 : _ := (rfl : (Value.type "ValueError") = Value.type "ValueError")); (have q6 := True.intro); (have q7 := True.intro); (have q8 := True.intro); (try k_unfold); (try dsimp only); refine' suite_leaves ?zqK ?zqF ?zqN ?zqhn ?zqhk ?zqhe ?zqhc ?zqhd ?zqh1 ?zqh0 ?zqhE ?_; (case zqhE => exact fun s'' hz => hz); (case zqhe => exact q4); (case zqhn => exact q3); (case zqhk => exact q2); (case zqhc => rfl); (case zqhd => rfl); (case zqh1 => rfl); (case zqh0 => rfl); (case zqK => assumption); (case zqF => k_asm); (case zqN => k_asm); (intro h8 tk8 R8 U8); (rename (∀ (x : Heap), Heap.UpToSlots _ x → Heap.UpToSlots _ x) => hU8); (have U9 := hU8 _ U8); clear q2 q3 q4 q5 q6 q7 q8; (try dsimp only); (try k_fold))
  k_with "mine fmt" => (k_dflt (show wpAny _ _ (call (Value.builtin "str.format") [Value.str _ _, Value.int _ _, Value.int _ _, Value.int _ _]) _ _ _); k_dflt (refine' format3 ?zqhh ?zqhb ?zqhbd ?zqhb2 ?zqhn ?_ ?_; (case zqhh => exact rfl); (case zqhb => exact News.get (by k_asm) (by k_mem)); (case zqhbd => assumption); (case zqhb2 => assumption); (case zqhn => exact Heap.NoDigits.keeps (Top.nodigits (by k_asm)) (Fr.keep (by k_asm)))); rotate_left; (intro h9 tk9 e9 hx9; obtain ⟨q2, q3, oe9, vs9, a9, q4, q5, q6, q7, q8⟩ := hx9; (try k_unfold); (try dsimp only); refine' suite_leaves ?zqK ?zqF ?zqN ?zqhn ?zqhk ?zqhe ?zqhc ?zqhd ?zqh1 ?zqh0 ?zqhE ?_; (case zqhE => exact fun s'' hz => hz); (case zqhe => exact q4); (case zqhn => exact q3); (case zqhk => exact q2); (case zqhc => exact q5); (case zqhd => exact q6); (case zqh1 => exact q8); (case zqh0 => exact q7); (case zqK => assumption); (case zqF => k_asm); (case zqN => k_asm); (intro h8 tk8 R8 U8); (rename (∀ (x : Heap), Heap.UpToSlots _ x → Heap.UpToSlots _ x) => hU8); (have U9 := hU8 _ U8); clear q2 q3 q4 q5 q6 q7 q8; (try dsimp only); (try k_fold)); rotate_right; (intro x9 t9 k9; (try dsimp only)))
  k_go0
  rename List Int => sc
  obtain ⟨f31, f32, f33, f34, f35⟩ := law3 (nth sc 3)
  obtain ⟨f41, f42, f43, f44, f45⟩ := law4 (lawFirst ((nth sc 3).fmod 9997 + 2) + (nth sc 4).fmod 7 - 3)
  have f46 : 1 ≤ yr (lawFirst ((nth sc 3).fmod 9997 + 2) + (nth sc 4).fmod 7 - 3) ∧ yr (lawFirst ((nth sc 3).fmod 9997 + 2) + (nth sc 4).fmod 7 - 3) ≤ 9999 := law4r _ _
  (all_goals try k_fold)
  repeat' (first | (k_unfold; (try dsimp only)) | walk1 | (dsimp only; walk1) | ((try dsimp only); (show GoodW _ _ _ _ _ (.ok (.ret (.bool true))) _); exact goodW_bool (by assumption) (by assumption) (fin_raises _) (fin_post _)))
  all_goals w_report
end Mine
theorem PySem.Challenge.cw_jk0006_01_holds : PySem.Challenge.rw_jk0006_01.Holds :=
  Mine.holds
