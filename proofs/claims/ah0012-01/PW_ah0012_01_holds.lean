import PyProof.Rows.All
import Wide.All
import OpenK.AllK
import Wide.FinOn
import PySem.Challenge.RW_ah0012_01
open PySem PySem.W PyProof.Rows
set_option Elab.async false
namespace Mine
set_option maxRecDepth 100000 in
set_option maxHeartbeats 8000000 in
open_top hd for PySem.Challenge.rw_ah0012_01
def leapF (y : Int) : Bool := (y.fmod 4 == 0) && ((y.fmod 100 != 0) || (y.fmod 400 == 0))
def jdF (y mo d : Int) : Int := 1721426 - 1 + 365 * (y - 1) + (y - 1).fdiv 4 + -((y - 1).fdiv 100) + (y - 1).fdiv 400 + ((367 * mo - 362).fdiv 12 + (if mo ≤ 2 then 0 else if leapF y = true then -1 else -2) + d)
def IsDay (jd y k : Int) : Prop := jd = jdF y 1 1 + k ∧ 0 ≤ k ∧ k ≤ 364 + (if leapF y = true then 1 else 0)
theorem fdv (a : Int) {b : Int} (h : 0 ≤ b) : a.fdiv b = a / b := Int.fdiv_eq_ediv_of_nonneg a h
theorem fmd (a : Int) {b : Int} (h : 0 ≤ b) : a.fmod b = a % b := Int.fmod_eq_emod_of_nonneg a h
theorem leap_iff (y : Int) : leapF y = true ↔ (y % 4 = 0 ∧ (y % 100 ≠ 0 ∨ y % 400 = 0)) := by
  unfold leapF
  rw [fmd y (by decide : (0 : Int) ≤ 4), fmd y (by decide : (0 : Int) ≤ 100), fmd y (by decide : (0 : Int) ≤ 400)]
  simp
theorem jan1 (y : Int) : jdF y 1 1 = 1721426 + 365 * (y - 1) + (y - 1) / 4 - (y - 1) / 100 + (y - 1) / 400 := by
  unfold jdF
  rw [fdv _ (by decide : (0 : Int) ≤ 4), fdv _ (by decide : (0 : Int) ≤ 100), fdv _ (by decide : (0 : Int) ≤ 400), show (367 * 1 - 362 : Int).fdiv 12 = 0 from by decide, if_pos (by decide)]
  omega
/-- the year's place in its cycle -/
theorem place (y : Int) : ∃ a b c e : Int, y - 1 = 400 * a + 100 * b + 4 * c + e ∧ 0 ≤ b ∧ b ≤ 3 ∧ 0 ≤ c ∧ c ≤ 24 ∧ 0 ≤ e ∧ e ≤ 3 ∧ jdF y 1 1 = 1721426 + 146097 * a + 36524 * b + 1461 * c + 365 * e ∧ (leapF y = true ↔ (e = 3 ∧ (c ≠ 24 ∨ b = 3))) := by
  refine ⟨(y - 1) / 400, (y - 1) % 400 / 100, (y - 1) % 100 / 4, (y - 1) % 4, ?_, ?_, ?_, ?_, ?_, ?_, ?_, ?_, ?_⟩
  · omega
  · omega
  · omega
  · omega
  · omega
  · omega
  · omega
  · rw [jan1]; omega
  · rw [leap_iff]; omega
theorem steps {a b c e k : Int} (hb : 0 ≤ b) (hb' : b ≤ 3) (hc : 0 ≤ c) (hc' : c ≤ 24) (he : 0 ≤ e) (he' : e ≤ 3) (hk : 0 ≤ k) (hk' : k ≤ 365) (hl : k = 365 → e = 3 ∧ (c ≠ 24 ∨ b = 3)) {D : Int} (hD : D = 146097 * a + 36524 * b + 1461 * c + 365 * e + k) :
    D / 146097 = a ∧ ((D % 146097 / 36524 = 4 ∧ b = 3 ∧ c = 24 ∧ e = 3 ∧ D % 146097 % 36524 / 1461 = 0 ∧ D % 146097 % 36524 % 1461 / 365 = 0) ∨ (D % 146097 / 36524 = b ∧ D % 146097 % 36524 / 1461 = c ∧ ((k = 365 ∧ D % 146097 % 36524 % 1461 / 365 = 4) ∨ (k ≠ 365 ∧ D % 146097 % 36524 % 1461 / 365 = e)))) := by
  have h1 : D / 146097 = a := by omega
  have h2 : D % 146097 = 36524 * b + 1461 * c + 365 * e + k := by omega
  refine ⟨h1, ?_⟩
  rw [h2]
  by_cases hx : k = 365 ∧ c = 24
  · left
    have : b = 3 := by omega
    have : e = 3 := by omega
    obtain ⟨hx1, hx2⟩ := hx
    subst_vars
    decide
  · right
    have h3 : 1461 * c + 365 * e + k < 36524 := by omega
    have h4 : (36524 * b + 1461 * c + 365 * e + k) / 36524 = b := by omega
    have h5 : (36524 * b + 1461 * c + 365 * e + k) % 36524 = 1461 * c + 365 * e + k := by omega
    rw [h4, h5]
    have h6 : 365 * e + k < 1461 := by omega
    have h7 : (1461 * c + 365 * e + k) / 1461 = c := by omega
    have h8 : (1461 * c + 365 * e + k) % 1461 = 365 * e + k := by omega
    rw [h7, h8]
    refine ⟨rfl, rfl, ?_⟩
    by_cases hk5 : k = 365
    · left; omega
    · right; omega
def EF (jd : Int) : Int := (jd - 1721426).fdiv 146097 * 400 + ((jd - 1721426).fmod 146097).fdiv 36524 * 100 + (((jd - 1721426).fmod 146097).fmod 36524).fdiv 1461 * 4 + ((((jd - 1721426).fmod 146097).fmod 36524).fmod 1461).fdiv 365
theorem yr {jd y k : Int} (h : IsDay jd y k) :
    (((jd - 1721426).fmod 146097).fdiv 36524 = 4 → EF jd = y) ∧ (((jd - 1721426).fmod 146097).fdiv 36524 ≠ 4 → ((((jd - 1721426).fmod 146097).fmod 36524).fmod 1461).fdiv 365 = 4 → EF jd = y) ∧ (((jd - 1721426).fmod 146097).fdiv 36524 ≠ 4 → ((((jd - 1721426).fmod 146097).fmod 36524).fmod 1461).fdiv 365 ≠ 4 → EF jd + 1 = y) := by
  obtain ⟨hj, hk, hk'⟩ := h
  obtain ⟨a, b, c, e, hy, hb, hb', hc, hc', he, he', hjan, hleap⟩ := place y
  have hk5 : k ≤ 365 := by split at hk' <;> omega
  have hl : k = 365 → e = 3 ∧ (c ≠ 24 ∨ b = 3) := by
    intro h5
    split at hk'
    · rename_i hl; exact hleap.mp hl
    · omega
  have hD : jd - 1721426 = 146097 * a + 36524 * b + 1461 * c + 365 * e + k := by omega
  obtain ⟨h1, h2⟩ := steps hb hb' hc hc' he he' hk hk5 hl hD
  unfold EF
  simp only [fdv _ (by decide : (0 : Int) ≤ 146097), fmd _ (by decide : (0 : Int) ≤ 146097), fdv _ (by decide : (0 : Int) ≤ 36524), fmd _ (by decide : (0 : Int) ≤ 36524), fdv _ (by decide : (0 : Int) ≤ 1461), fmd _ (by decide : (0 : Int) ≤ 1461), fdv _ (by decide : (0 : Int) ≤ 365)]
  rw [h1]
  generalize (jd - 1721426) % 146097 / 36524 = C at *
  generalize (jd - 1721426) % 146097 % 36524 / 1461 = Q at *
  generalize (jd - 1721426) % 146097 % 36524 % 1461 / 365 = Y at *
  clear hj hD hjan h1
  refine ⟨?_, ?_, ?_⟩
  · intro hC
    rcases h2 with h2 | h2 <;> omega
  · intro hC hY
    rcases h2 with h2 | ⟨h2, h3, h4 | h4⟩
    · omega
    · have := hl h4.1; omega
    · omega
  · intro hC hY
    rcases h2 with h2 | ⟨h2, h3, h4 | h4⟩ <;> omega
def in30 (m : Int) : Bool := m == 4 || m == 6 || m == 9 || m == 11
def mlF (y m : Int) : Int := if m = 2 then (if leapF y = true then 29 else 28) else if in30 m = true then 30 else 31
def gmF (l : Bool) (k : Int) : Int := ((k + (if k < 58 + (if l = true then 1 else 0) then 0 else if l = true then 1 else 2)) * 12 + 373).fdiv 367
theorem fj_mo0 {E y jd k : Int} (hE : E = y) (h : IsDay jd y k) (c : jd - jdF E 1 1 < 58 + (if leapF E = true then 1 else 0)) : ((jd - jdF E 1 1 + 0) * 12 + 373).fdiv 367 = gmF (leapF y) k := by
  subst hE
  have e : jd - jdF E 1 1 = k := by have := h.1; omega
  rw [e] at c ⊢
  unfold gmF
  rw [if_pos c]
theorem fj_mo1 {E y jd k : Int} (hE : E = y) (h : IsDay jd y k) (c : ¬ jd - jdF E 1 1 < 58 + (if leapF E = true then 1 else 0)) (l : leapF E = true) : ((jd - jdF E 1 1 + 1) * 12 + 373).fdiv 367 = gmF (leapF y) k := by
  subst hE
  have e : jd - jdF E 1 1 = k := by have := h.1; omega
  rw [e] at c ⊢
  unfold gmF
  rw [if_neg c, if_pos l]
theorem fj_mo2 {E y jd k : Int} (hE : E = y) (h : IsDay jd y k) (c : ¬ jd - jdF E 1 1 < 58 + (if leapF E = true then 1 else 0)) (l : leapF E = false) : ((jd - jdF E 1 1 + 2) * 12 + 373).fdiv 367 = gmF (leapF y) k := by
  subst hE
  have e : jd - jdF E 1 1 = k := by have := h.1; omega
  rw [e] at c ⊢
  unfold gmF
  rw [if_neg c, if_neg (by rw [l]; decide)]
theorem jd_lin (y m d : Int) : jdF y m d = jdF y m 1 + d - 1 := by unfold jdF; omega
theorem jd_mo (y m : Int) : jdF y m 1 - jdF y 1 1 = (367 * m - 362) / 12 + (if m ≤ 2 then 0 else if leapF y = true then -1 else -2) := by
  unfold jdF
  rw [fdv (367 * m - 362) (by decide : (0 : Int) ≤ 12), show (367 * 1 - 362 : Int).fdiv 12 = 0 from by decide, if_pos (show (1 : Int) ≤ 2 by decide)]
  omega
theorem month_ok {y jd k : Int} (h : IsDay jd y k) : 1 ≤ gmF (leapF y) k ∧ gmF (leapF y) k ≤ 12 ∧ 0 < jd - jdF y (gmF (leapF y) k) 1 + 1 ∧ jd - jdF y (gmF (leapF y) k) 1 + 1 ≤ mlF y (gmF (leapF y) k) ∧ jdF y (gmF (leapF y) k) (jd - jdF y (gmF (leapF y) k) 1 + 1) = jd := by
  obtain ⟨hj, hk, hk'⟩ := h
  have hlin := jd_lin y (gmF (leapF y) k) (jd - jdF y (gmF (leapF y) k) 1 + 1)
  have hmo := jd_mo y (gmF (leapF y) k)
  have key : 1 ≤ gmF (leapF y) k ∧ gmF (leapF y) k ≤ 12 ∧ 0 < jd - jdF y (gmF (leapF y) k) 1 + 1 ∧ jd - jdF y (gmF (leapF y) k) 1 + 1 ≤ mlF y (gmF (leapF y) k) := by
    generalize hJ : jdF y (gmF (leapF y) k) 1 = J at *
    generalize jdF y 1 1 = J1 at *
    have hg : gmF (leapF y) k = ((k + (if k < 58 + (if leapF y = true then 1 else 0) then 0 else if leapF y = true then 1 else 2)) * 12 + 373) / 367 := by
      unfold gmF; rw [fdv _ (by decide : (0 : Int) ≤ 367)]
    generalize gmF (leapF y) k = g at *
    clear hJ hlin
    have h12 : 1 ≤ g ∧ g ≤ 12 := by
      cases hl : leapF y <;> simp only [hl, if_true, if_false, Bool.false_eq_true] at hg hk' <;> split at hg <;> omega
    have hc : g = 1 ∨ g = 2 ∨ g = 3 ∨ g = 4 ∨ g = 5 ∨ g = 6 ∨ g = 7 ∨ g = 8 ∨ g = 9 ∨ g = 10 ∨ g = 11 ∨ g = 12 := by omega
    refine ⟨h12.1, h12.2, ?_⟩
    clear h12
    unfold mlF
    cases hl : leapF y <;> simp only [hl, if_true, if_false, Bool.false_eq_true] at hg hk' hmo ⊢ <;>
      rcases hc with rfl | rfl | rfl | rfl | rfl | rfl | rfl | rfl | rfl | rfl | rfl | rfl <;> simp [in30] at hmo ⊢ <;> split at hg <;> omega
  exact ⟨key.1, key.2.1, key.2.2.1, key.2.2.2, by omega⟩
def isoJdF (y wk d : Int) : Int := d + (7 * wk + (jdF (y - 1) 12 28 + -1 - (jdF (y - 1) 12 28 + -1 - 6).fmod 7))
def w1F (y : Int) : Int := if 3 < (jdF y 1 1).fmod 7 then jdF y 1 1 - (jdF y 1 1).fmod 7 + 7 else jdF y 1 1 - (jdF y 1 1).fmod 7
def wkF (y : Int) : Int := if (jdF y 1 1).fmod 7 = 3 ∨ ((jdF y 1 1).fmod 7 = 2 ∧ leapF y = true) then 53 else 52
theorem w1_eq (y : Int) : w1F y = jdF y 1 1 - jdF y 1 1 % 7 + (if 3 < jdF y 1 1 % 7 then 7 else 0) := by
  unfold w1F
  rw [fmd _ (by decide : (0 : Int) ≤ 7)]
  split <;> omega
theorem w1_near (y : Int) : w1F y % 7 = 0 ∧ jdF y 1 1 - 3 ≤ w1F y ∧ w1F y ≤ jdF y 1 1 + 3 := by
  rw [w1_eq]; split <;> omega
theorem year_len (y : Int) : jdF (y + 1) 1 1 = jdF y 1 1 + 365 + (if leapF y = true then 1 else 0) := by
  obtain ⟨a, b, c, e, hy, hb, hb', hc, hc', he, he', hjan, hleap⟩ := place y
  rw [jan1 y, jan1 (y + 1)]
  have : (y + 1 - 1) = y := by omega
  rw [this]
  by_cases h : leapF y = true
  · rw [if_pos h]; rw [leap_iff] at h; omega
  · rw [if_neg h]; rw [leap_iff] at h; omega
theorem jan_mono {y z : Int} (h : y < z) : jdF y 1 1 + 365 ≤ jdF z 1 1 := by
  rw [jan1, jan1]; omega
theorem w1_mono {y z : Int} (h : y < z) : w1F y + 359 ≤ w1F z := by
  have h1 := (w1_near y).2.2
  have h2 := (w1_near z).2.1
  have h3 := jan_mono h
  omega
theorem w1_succ (y : Int) : w1F y + 364 ≤ w1F (y + 1) := by
  have h1 := w1_near y
  have h2 := w1_near (y + 1)
  have h3 : w1F y + 359 ≤ w1F (y + 1) := w1_mono (by omega)
  omega
theorem dec28 (y : Int) : jdF (y - 1) 12 28 = jdF y 1 1 - 4 := by
  have h := year_len (y - 1)
  have h2 := jd_mo (y - 1) 12
  have h3 := jd_lin (y - 1) 12 28
  rw [show y - 1 + 1 = y by omega] at h
  by_cases hl : leapF (y - 1) = true
  · rw [if_pos hl] at h h2; rw [if_neg (by decide)] at h2; omega
  · rw [if_neg hl] at h h2; rw [if_neg (by decide)] at h2; omega
theorem isoJd_eq (y wk d : Int) : isoJdF y wk d = w1F y + 7 * (wk - 1) + (d - 1) := by
  unfold isoJdF
  rw [dec28, fmd _ (by decide : (0 : Int) ≤ 7), w1_eq]
  split <;> omega
theorem jan400 (y : Int) : jdF (y + 400) 1 1 = jdF y 1 1 + 146097 := by
  rw [jan1, jan1]; omega
theorem leap400 (y : Int) : leapF (y + 400) = leapF y := by
  rw [Bool.eq_iff_iff, leap_iff, leap_iff]; omega
theorem w1_400 (y : Int) : w1F (y + 400) = w1F y + 146097 := by
  rw [w1_eq, w1_eq, jan400]
  have : (jdF y 1 1 + 146097) % 7 = jdF y 1 1 % 7 := by omega
  rw [this]; omega
/-- the ISO date of a day -/
def IsIso (t Y W D : Int) : Prop := t = w1F Y + 7 * (W - 1) + (D - 1) ∧ 1 ≤ D ∧ D ≤ 7 ∧ 1 ≤ W ∧ t < w1F (Y + 1)
theorem iso_lt {t Y W D z : Int} (h : IsIso t Y W D) (hz : t < w1F z) : Y < z := by
  obtain ⟨h1, h2, h3, h4, h5⟩ := h
  refine Int.not_le.mp fun hle => ?_
  rcases Int.lt_or_eq_of_le hle with h' | h'
  · have := w1_mono h'; omega
  · subst h'; omega
theorem iso_ge {t Y W D z : Int} (h : IsIso t Y W D) (hz : w1F z ≤ t) : z ≤ Y := by
  obtain ⟨h1, h2, h3, h4, h5⟩ := h
  refine Int.not_lt.mp fun hlt => ?_
  have h' : Y + 1 ≤ z := hlt
  rcases Int.lt_or_eq_of_le h' with h' | h'
  · have := w1_mono h'; omega
  · rw [h'] at h5; omega
theorem iso_exists (t y : Int) (h1 : jdF y 1 1 ≤ t) (h2 : t < jdF (y + 1) 1 1) : ∃ Y W D, IsIso t Y W D := by
  have n0 := w1_near (y - 1)
  have n1 := w1_near y
  have n2 := w1_near (y + 1)
  have n3 := w1_near (y + 2)
  have m0 := jan_mono (show y - 1 < y by omega)
  have m1 := jan_mono (show y + 1 < y + 2 by omega)
  have mk : ∀ Y, w1F Y ≤ t → t < w1F (Y + 1) → ∃ Y W D, IsIso t Y W D := fun Y ha hb =>
    ⟨Y, (t - w1F Y) / 7 + 1, (t - w1F Y) % 7 + 1, by omega, by omega, by omega, by omega, hb⟩
  by_cases c1 : t < w1F y
  · refine mk (y - 1) (by omega) ?_
    rw [show y - 1 + 1 = y by omega]; exact c1
  · by_cases c2 : t < w1F (y + 1)
    · exact mk y (by omega) c2
    · refine mk (y + 1) (by omega) ?_
      rw [show y + 1 + 1 = y + 2 by omega]; omega
theorem iso400 {t Y W D : Int} (h : IsIso t Y W D) : IsIso (t + 146097) (Y + 400) W D := by
  obtain ⟨h1, h2, h3, h4, h5⟩ := h
  refine ⟨by rw [w1_400]; omega, h2, h3, h4, ?_⟩
  have := w1_400 (Y + 1)
  rw [show Y + 1 + 400 = Y + 400 + 1 by omega] at this
  omega
theorem day400 {jd y k : Int} (h : IsDay jd y k) : IsDay (jd + 146097) (y + 400) k := by
  obtain ⟨h1, h2, h3⟩ := h
  exact ⟨by rw [jan400]; omega, h2, by rw [leap400]; exact h3⟩
theorem day_in {jd y k : Int} (h : IsDay jd y k) : jdF y 1 1 ≤ jd ∧ jd < jdF (y + 1) 1 1 := by
  obtain ⟨h1, h2, h3⟩ := h
  have := year_len y
  split at this <;> simp_all <;> omega
/-- what the three ways of from_gregorian give -/
theorem fg_a {t y Y W D : Int} (h : IsIso t Y W D) (h1 : jdF y 1 1 ≤ t) (c : (t - w1F y).fdiv 7 < 0) : y - 1 = Y ∧ (t - w1F (y - 1)).fdiv 7 + 1 = W ∧ (t - w1F (y - 1)).fmod 7 + 1 = D := by
  rw [fdv _ (by decide : (0 : Int) ≤ 7)] at c
  have ht : t < w1F y := by omega
  have l := iso_lt h ht
  have g : w1F (y - 1) ≤ t := by
    have n0 := w1_near (y - 1)
    have m0 := jan_mono (show y - 1 < y by omega)
    omega
  have g' := iso_ge h g
  have e : Y = y - 1 := by omega
  subst e
  rw [fdv _ (by decide : (0 : Int) ≤ 7), fmd _ (by decide : (0 : Int) ≤ 7)]
  obtain ⟨q1, q2, q3, q4, q5⟩ := h
  exact ⟨rfl, by omega, by omega⟩
theorem fg_b {t y Y W D : Int} (h : IsIso t Y W D) (h2 : t < jdF (y + 1) 1 1) (c : w1F (y + 1) ≤ t) : y + 1 = Y ∧ 0 + 1 = W ∧ (t - w1F y).fmod 7 + 1 = D := by
  have g' := iso_ge h c
  have n1 := w1_near y
  have n2 := w1_near (y + 1)
  have n3 := w1_near (y + 1 + 1)
  have m1 := jan_mono (show y + 1 < y + 1 + 1 by omega)
  have l := iso_lt h (show t < w1F (y + 1 + 1) by omega)
  have e : Y = y + 1 := by omega
  subst e
  rw [fmd _ (by decide : (0 : Int) ≤ 7)]
  obtain ⟨q1, q2, q3, q4, q5⟩ := h
  exact ⟨rfl, by omega, by omega⟩
theorem fg_c {t y Y W D : Int} (h : IsIso t Y W D) (c : ¬ (t - w1F y).fdiv 7 < 0) (c2 : t < w1F (y + 1)) : y = Y ∧ (t - w1F y).fdiv 7 + 1 = W ∧ (t - w1F y).fmod 7 + 1 = D := by
  rw [fdv _ (by decide : (0 : Int) ≤ 7)] at c
  have l := iso_lt h c2
  have g' := iso_ge h (show w1F y ≤ t by omega)
  have e : Y = y := by omega
  subst e
  rw [fdv _ (by decide : (0 : Int) ≤ 7), fmd _ (by decide : (0 : Int) ≤ 7)]
  obtain ⟨q1, q2, q3, q4, q5⟩ := h
  exact ⟨rfl, by omega, by omega⟩
theorem fg_c52 {t y : Int} (c : ¬ 52 ≤ (t - w1F y).fdiv 7) : t < w1F (y + 1) := by
  rw [fdv _ (by decide : (0 : Int) ≤ 7)] at c
  have := w1_succ y
  omega
theorem yr_a {jd y k : Int} (h : IsDay jd y k) (c : ((jd - 1721426).fmod 146097).fdiv 36524 = 4) : (jd - 1721426).fdiv 146097 * 400 + ((jd - 1721426).fmod 146097).fdiv 36524 * 100 + (((jd - 1721426).fmod 146097).fmod 36524).fdiv 1461 * 4 + ((((jd - 1721426).fmod 146097).fmod 36524).fmod 1461).fdiv 365 = y := (yr h).1 c
theorem yr_b {jd y k : Int} (h : IsDay jd y k) (c : ((jd - 1721426).fmod 146097).fdiv 36524 ≠ 4) (c2 : ((((jd - 1721426).fmod 146097).fmod 36524).fmod 1461).fdiv 365 = 4) : (jd - 1721426).fdiv 146097 * 400 + ((jd - 1721426).fmod 146097).fdiv 36524 * 100 + (((jd - 1721426).fmod 146097).fmod 36524).fdiv 1461 * 4 + ((((jd - 1721426).fmod 146097).fmod 36524).fmod 1461).fdiv 365 = y := (yr h).2.1 c c2
theorem yr_c {jd y k : Int} (h : IsDay jd y k) (c : ((jd - 1721426).fmod 146097).fdiv 36524 ≠ 4) (c2 : ((((jd - 1721426).fmod 146097).fmod 36524).fmod 1461).fdiv 365 ≠ 4) : (jd - 1721426).fdiv 146097 * 400 + ((jd - 1721426).fmod 146097).fdiv 36524 * 100 + (((jd - 1721426).fmod 146097).fmod 36524).fdiv 1461 * 4 + ((((jd - 1721426).fmod 146097).fmod 36524).fmod 1461).fdiv 365 + 1 = y := (yr h).2.2 c c2
theorem gd_eq {E y M g jd : Int} (h1 : E = y) (h2 : M = g) : jd - jdF E M 1 + 1 = jd - jdF y g 1 + 1 := by rw [h1, h2]
def IsGreg (y mo d Y W D : Int) : Prop := 1 ≤ y ∧ y ≤ 9999 ∧ 1 ≤ mo ∧ mo ≤ 12 ∧ (0 < d ∧ d ≤ mlF y mo) ∧ jdF y 1 1 ≤ jdF y mo d ∧ jdF y mo d < jdF (y + 1) 1 1 ∧ IsIso (jdF y mo d) Y W D
theorem greg_of {jd y k Y W Z : Int} (h : IsDay jd y k) (h1 : 1 ≤ y) (h2 : y ≤ 9999) (hi : IsIso jd Y W Z) : IsGreg y (gmF (leapF y) k) (jd - jdF y (gmF (leapF y) k) 1 + 1) Y W Z := by
  obtain ⟨m1, m2, m3, m4, m5⟩ := month_ok h
  have hd := day_in h
  exact ⟨h1, h2, m1, m2, ⟨m3, m4⟩, by rw [m5]; exact hd.1, by rw [m5]; exact hd.2, by rw [m5]; exact hi⟩
/-- the loop's two letters after i years -/
def sumF (a : Int) : Nat → Int
  | 0 => 0
  | i + 1 => sumF a i + wkF (a + i)
def lastO (a : Int) : Nat → Option Int
  | 0 => none
  | i + 1 => if wkF (a + i) = 53 then some (a + i) else lastO a i
theorem wk_two (y : Int) : wkF y = 52 ∨ wkF y = 53 := by unfold wkF; split <;> simp
/-- a year's weeks, by its place in the cycle of 400 years -/
def wkB (r : Nat) : Bool :=
  let j := (365 * r + r / 4 - r / 100 + r / 400) % 7
  j == 3 || (j == 2 && ((r + 1) % 4 == 0 && ((r + 1) % 100 != 0 || (r + 1) % 400 == 0)))
theorem wk_B (y : Int) (r : Nat) (hr : (y - 1) % 400 = r) (h4 : r < 400) : wkF y = if wkB r = true then 53 else 52 := by
  have e : (wkB r = true) = ((jdF y 1 1).fmod 7 = 3 ∨ ((jdF y 1 1).fmod 7 = 2 ∧ leapF y = true)) := by
    rw [leap_iff, fmd _ (by decide : (0 : Int) ≤ 7), jan1]
    have ej : (1721426 + 365 * (y - 1) + (y - 1) / 4 - (y - 1) / 100 + (y - 1) / 400) % 7 = ((365 * r + r / 4 - r / 100 + r / 400 : Nat) % 7 : Nat) := by
      obtain ⟨a, ha⟩ : ∃ a, y - 1 = 400 * a + r := ⟨(y - 1) / 400, by omega⟩
      rw [ha]
      have q1 : (400 * a + (r : Int)) / 4 = 100 * a + (r / 4 : Nat) := by omega
      have q2 : (400 * a + (r : Int)) / 100 = 4 * a + (r / 100 : Nat) := by omega
      have q3 : (400 * a + (r : Int)) / 400 = a + (r / 400 : Nat) := by omega
      rw [q1, q2, q3]
      have hle : r / 100 ≤ r / 4 := by omega
      generalize r / 4 = c at *
      generalize r / 100 = d at *
      generalize r / 400 = e at *
      omega
    rw [ej]
    unfold wkB
    simp only [Bool.or_eq_true, Bool.and_eq_true, beq_iff_eq, bne_iff_ne, ne_eq]
    generalize (365 * r + r / 4 - r / 100 + r / 400) % 7 = j
    apply propext
    constructor
    · rintro (h | ⟨h, h1, h2⟩)
      · left; omega
      · right; refine ⟨by omega, by omega, ?_⟩
        rcases h2 with h2 | h2
        · left; omega
        · right; omega
    · rintro (h | ⟨h, h1, h2⟩)
      · left; omega
      · right; refine ⟨by omega, by omega, ?_⟩
        rcases h2 with h2 | h2
        · left; omega
        · right; omega
  unfold wkF
  by_cases h : wkB r = true
  · rw [if_pos h, if_pos (e ▸ h)]
  · rw [if_neg h, if_neg (fun x => h (e ▸ x))]
/-- the year's place -/
def plc (y : Int) : Nat := ((y - 1) % 400).toNat
theorem wk_plc (y : Int) : wkF y = if wkB (plc y) = true then 53 else 52 := by
  refine wk_B y (plc y) ?_ ?_ <;> unfold plc <;> omega
theorem plc_add (y : Int) (i : Nat) : plc (y + i) = (plc y + i) % 400 := by unfold plc; omega
theorem plc_lt (y : Int) : plc y < 400 := by unfold plc; omega
def tot : Nat → Nat
  | 0 => 0
  | i + 1 => tot i + (if wkB (i % 400) = true then 53 else 52)
theorem tot_add (i : Nat) : ∀ j, tot (i + j) = tot i + (tot (i + j) - tot i) ∧ tot i ≤ tot (i + j)
  | 0 => by simp
  | j + 1 => by
    have h := (tot_add i j).2
    have e : tot (i + (j + 1)) = tot (i + j) + (if wkB ((i + j) % 400) = true then 53 else 52) := rfl
    refine ⟨?_, ?_⟩ <;> split at e <;> omega
theorem sum_tot (a : Int) : ∀ i : Nat, sumF a i = ((tot (plc a + i) - tot (plc a) : Nat) : Int)
  | 0 => by simp [sumF]
  | i + 1 => by
    have ih := sum_tot a i
    have e : tot (plc a + (i + 1)) = tot (plc a + i) + (if wkB ((plc a + i) % 400) = true then 53 else 52) := rfl
    have h := (tot_add (plc a) i).2
    unfold sumF
    rw [ih, wk_plc, plc_add]
    split at e <;> rename_i hb
    · rw [if_pos hb]; omega
    · rw [if_neg hb]; omega
theorem tot_shift (c : Nat) (hc : c % 400 = 0) : ∀ i : Nat, tot (c + i) = tot c + tot i
  | 0 => by simp [tot]
  | i + 1 => by
    have ih := tot_shift c hc i
    have e : tot (c + (i + 1)) = tot (c + i) + (if wkB ((c + i) % 400) = true then 53 else 52) := rfl
    have e2 : tot (i + 1) = tot i + (if wkB (i % 400) = true then 53 else 52) := rfl
    rw [e, ih, e2, show (c + i) % 400 = i % 400 by omega]
    omega
theorem tot_400 : tot 400 = 20871 := by decide +kernel
theorem sum_400 (a : Int) : sumF a 400 = 20871 := by
  rw [sum_tot, Nat.add_comm, tot_shift 400 rfl, tot_400]
  omega
/-- of two years of 53 weeks with none between, the later stands 5 to 7 behind -/
def gapB (r : Nat) : Bool := !(wkB (r % 400)) || (!wkB ((r + 1) % 400) && !wkB ((r + 2) % 400) && !wkB ((r + 3) % 400) && !wkB ((r + 4) % 400) && (wkB ((r + 5) % 400) || wkB ((r + 6) % 400) || wkB ((r + 7) % 400)))
theorem gap_all : ∀ r, r < 400 → gapB r = true := by decide +kernel
theorem last_spec (a : Int) : ∀ (i : Nat) (l : Int), lastO a i = some l → ∃ j : Nat, j < i ∧ l = a + j ∧ wkB ((plc a + j) % 400) = true ∧ ∀ q : Nat, j < q → q < i → wkB ((plc a + q) % 400) = false
  | 0, l, h => by simp [lastO] at h
  | i + 1, l, h => by
    unfold lastO at h
    by_cases c : wkF (a + i) = 53
    · rw [if_pos c] at h
      refine ⟨i, by omega, by simpa using h.symm, ?_, fun q h1 h2 => by omega⟩
      rw [wk_plc, plc_add] at c
      by_cases hb : wkB ((plc a + i) % 400) = true
      · exact hb
      · rw [if_neg hb] at c; omega
    · rw [if_neg c] at h
      obtain ⟨j, h1, h2, h3, h4⟩ := last_spec a i l h
      refine ⟨j, by omega, h2, h3, fun q hq1 hq2 => ?_⟩
      by_cases hq : q = i
      · subst hq
        rw [wk_plc, plc_add] at c
        cases hb : wkB ((plc a + q) % 400) with
        | true => rw [hb] at c; simp at c
        | false => rfl
      · exact h4 q hq1 (by omega)
theorem gap_ok (a : Int) (i : Nat) (l : Int) (h : lastO a i = some l) : wkF (a + i) = 52 ∨ (5 ≤ a + i - l ∧ a + i - l ≤ 7) := by
  obtain ⟨j, h1, h2, h3, h4⟩ := last_spec a i l h
  by_cases c : wkB ((plc a + i) % 400) = true
  · right
    have hg := gap_all ((plc a + j) % 400) (Nat.mod_lt _ (by decide))
    have md : ∀ d, ((plc a + j) % 400 + d) % 400 = (plc a + (j + d)) % 400 := fun d => by omega
    unfold gapB at hg
    rw [show (plc a + j) % 400 % 400 = (plc a + j) % 400 by omega, h3] at hg
    simp only [md, Bool.not_true, Bool.false_or, Bool.and_eq_true, Bool.or_eq_true, Bool.not_eq_true'] at hg
    obtain ⟨⟨⟨⟨g1, g2⟩, g3⟩, g4⟩, g5⟩ := hg
    have n1 : i ≠ j + 1 := fun e => by rw [← e] at g1; rw [g1] at c; cases c
    have n2 : i ≠ j + 2 := fun e => by rw [← e] at g2; rw [g2] at c; cases c
    have n3 : i ≠ j + 3 := fun e => by rw [← e] at g3; rw [g3] at c; cases c
    have n4 : i ≠ j + 4 := fun e => by rw [← e] at g4; rw [g4] at c; cases c
    have n5 : i ≤ j + 7 := by
      refine Nat.not_lt.mp fun hlt => ?_
      rcases g5 with (g5 | g5) | g5
      · rw [h4 (j + 5) (by omega) (by omega)] at g5; cases g5
      · rw [h4 (j + 6) (by omega) (by omega)] at g5; cases g5
      · rw [h4 (j + 7) (by omega) (by omega)] at g5; cases g5
    omega
  · left
    rw [wk_plc, plc_add, if_neg c]
theorem day_exists (v0 v1 : Int) : ∃ y k Y W Z, IsDay (jdF (1 + v0.fmod 9598) 1 1 + v1.fmod 366) y k ∧ 1 ≤ y ∧ y ≤ 9599 ∧ IsIso (jdF (1 + v0.fmod 9598) 1 1 + v1.fmod 366) Y W Z := by
  rw [fmd _ (by decide : (0 : Int) ≤ 9598), fmd _ (by decide : (0 : Int) ≤ 366)]
  generalize hy : 1 + v0 % 9598 = y
  generalize hk : v1 % 366 = k
  have hy1 : 1 ≤ y ∧ y ≤ 9598 := by omega
  have hk1 : 0 ≤ k ∧ k ≤ 365 := by omega
  clear hy hk
  have hl := year_len y
  by_cases c : k ≤ 364 + (if leapF y = true then 1 else 0)
  · have hd : IsDay (jdF y 1 1 + k) y k := ⟨rfl, hk1.1, c⟩
    obtain ⟨Y, W, Z, hi⟩ := iso_exists _ y (day_in hd).1 (day_in hd).2
    exact ⟨y, k, Y, W, Z, hd, by omega, by omega, hi⟩
  · have hd : IsDay (jdF y 1 1 + k) (y + 1) 0 := by
      refine ⟨?_, by omega, ?_⟩
      · split at hl <;> rename_i hb
        · rw [if_pos hb] at c; omega
        · rw [if_neg hb] at c; omega
      · split <;> omega
    obtain ⟨Y, W, Z, hi⟩ := iso_exists _ (y + 1) (day_in hd).1 (day_in hd).2
    exact ⟨y + 1, 0, Y, W, Z, hd, by omega, by omega, hi⟩
noncomputable abbrev loose1 : List Str := looseW hd.view_39 [Str.ofString "to_jd_gregorian", Str.ofString "from_jd_gregorian", Str.ofString "to_jd_iso", Str.ofString "from_jd_iso"]
theorem ml_cases {y m d : Int} (h : d ≤ mlF y m) : (m = 2 ∧ leapF y = true ∧ d ≤ 29) ∨ (m = 2 ∧ leapF y = false ∧ d ≤ 28) ∨ (m ≠ 2 ∧ in30 m = true ∧ d ≤ 30) ∨ (m ≠ 2 ∧ in30 m = false ∧ d ≤ 31) := by
  unfold mlF at h
  split at h
  · split at h <;> simp_all
  · split at h <;> simp_all
theorem ml_ge {y m : Int} : 28 ≤ mlF y m := by
  unfold mlF; split
  · split <;> decide
  · split <;> decide
theorem one_legal {y mo : Int} : 0 < (1 : Int) ∧ (1 : Int) ≤ mlF y mo := by
  have := @ml_ge y mo; omega
theorem d28_legal {y mo : Int} : 0 < (28 : Int) ∧ (28 : Int) ≤ mlF y mo := by
  have := @ml_ge y mo; omega
section
variable {prog : Program} {w : World} {A : Around} {E : Value → Shared → Prop} {s : Shared}
theorem in30_step {t : Addr} {items : Array Value} {x : Int} {u : Tok} {Q : Value → Shared → Prop} (ht : IsTup s.heap t items) (hi : IntsAre items.toList [4, 6, 9, 11])
    (h : Q (.bool (in30 x)) s) : wpAny (model prog w) A (compareOp .In (.int x u) (.ref t)) Q E s := by
  refine in_tuple_ints ht hi ?_
  have e : ([4, 6, 9, 11] : List Int).any (· == x) = in30 x := by
    simp only [List.any_cons, List.any_nil, in30, Bool.or_false, Bool.or_assoc]
    simp only [BEq.comm (a := x)]
  rw [e]; exact h
end
section
variable {prog : Program} {w : World} {A : Around} {E : Value → Shared → Prop} {s : Shared}
theorem adjust_to (b n : Nat) (hb : b ≤ n) : Builtin.Slice.sliceAdjust none (some (b : Int)) 1 (n : Int) = (0, (b : Int)) := by
  unfold Builtin.Slice.sliceAdjust
  have h1 : ¬ ((1 : Int) < 0) := by omega
  have h2 : ¬ ((b : Int) < 0) := by omega
  simp only [h1, h2, if_false]
  congr 1
  omega
theorem places_to (b : Nat) : Builtin.Slice.slicePlaces (0 : Int) (b : Int) 1 = b := by
  unfold Builtin.Slice.slicePlaces
  have h1 : (1 : Int) > 0 := by omega
  simp only [h1, if_true, Int.ediv_one]
  split <;> omega
theorem sliceApplied_to {sl : Addr} {b n : Nat} {u : Tok} {Q : Int × Int × Nat → Shared → Prop} (hs : s.heap.IsSliceOf sl .none (.int b u) .none) (hb : b ≤ n) (h : Q (0, 1, b) s) :
    wpAny (model prog w) A (Builtin.Slice.sliceApplied (.ref sl) (pure (n : Int))) Q E s := by
  obtain ⟨os, hos, hcs, hds⟩ := id hs
  unfold Builtin.Slice.sliceApplied Builtin.Slice.sliceFields
  refine wpAny_bind (wpAny_bind (wpAny_field hos hds (x := .none) rfl (wpAny_bind (wpAny_field hos hds (x := .int b u) rfl (wpAny_bind (wpAny_field hos hds (x := .none) rfl (wpAny_pure ?_)))))))
  refine wpAny_bind (slicePart_none ?_)
  show wpAny _ _ (if ((1 : Int) == 0) = true then _ else _) _ _ s
  rw [if_neg (by decide)]
  refine wpAny_bind (slicePart_none (wpAny_bind (slicePart_int (wpAny_bind (wpAny_pure ?_)))))
  show wpAny _ _ (match Builtin.Slice.sliceAdjust none (some (b : Int)) 1 (n : Int) with | (lo, hi) => pure (lo, (1 : Int), Builtin.Slice.slicePlaces lo hi 1)) _ _ s
  rw [adjust_to b n hb]
  show wpAny _ _ (pure ((0 : Int), (1 : Int), Builtin.Slice.slicePlaces (0 : Int) (b : Int) 1)) _ _ s
  rw [places_to b]
  exact wpAny_pure h
theorem pick_to (xs : Array Value) (b : Nat) : ((List.range b).filterMap fun (k : Nat) => xs[((0 : Int) + (k : Int) * 1).toNat]?).toArray = (xs.toList.take b).toArray := by
  have e : (fun (k : Nat) => xs[((0 : Int) + (k : Int) * 1).toNat]?) = fun k => xs[0 + k]? := by
    funext k
    have : ((0 : Int) + (k : Int) * 1).toNat = 0 + k := by omega
    rw [this]
  rw [e]
  have := pick_run xs 0 b
  rw [List.filterMap_map] at this
  have e2 : ((fun x => xs[x]?) ∘ fun x => 0 + x) = fun k => xs[0 + k]? := rfl
  rw [e2] at this
  rw [this, List.drop_zero]
theorem getItem_tuple_to {t sl : Addr} {items : Array Value} {b : Nat} {u : Tok} {Q : Value → Shared → Prop} (ht : IsTup s.heap t items) (hs : s.heap.IsSliceOf sl .none (.int b u) .none) (hb : b < items.size)
    (h : Q (.ref s.heap.objs.size) { s with heap := s.heap.push { cls := .type "tuple", data := .seq (items.toList.take b).toArray } })
    (hsz : items.size ≤ sizeLine) : wpAny (model prog w) A (getItem (.ref t) (.ref sl)) Q E s := by
  have hdrop : sizeOk (.seq (items.toList.take b).toArray) := by
    show (items.toList.take b).toArray.size ≤ sizeLine
    rw [List.size_toArray, List.length_take, Array.length_toList]
    omega
  obtain ⟨os, hos, hcs, hds⟩ := id hs
  have hTs : s.TypeIs (.ref sl) "slice" := ⟨os, hos, hcs⟩
  unfold getItem
  try with_reducible refine wpAny_holding ?_
  first | refine wpAny_bind (wpAny_pure ?_) | skip
  refine wpAny_bind (wpAny_sequenceKey ht.typeIs (by decide) ?_)
  refine wpAny_bind (wpAny_callSpecial?_slot (name := Str.ofString "__getitem__") ht.typeIs slot_tuple_getitem
    (wpAny_call_entry slot_tuple_getitem ht.typeIs entry_tuple_getitem ?_ (args_tuple_getitem _ _)))
  show wpAny _ _ (Builtin.Tuple.tupleItemsOf (.ref t) >>= _) _ _ s
  refine wpAny_bind (tupleItemsOf_ ht ?_)
  refine wpAny_bind (wpAny_typeOf hTs ?_)
  rw [if_pos (by decide)]
  refine wpAny_bind (sliceApplied_to hs (Nat.le_of_lt hb) ?_)
  have hno : ¬ (((0 : Int) == 0 && (1 : Int) == 1 && b == items.size) = true) := by
    have : (b == items.size) = false := by rw [beq_eq_false_iff_ne]; omega
    rw [this]; simp
  show wpAny _ _ (if ((0 : Int) == 0 && (1 : Int) == 1 && b == items.size) = true then _ else _) _ _ s
  rw [if_neg hno, pick_to items b]
  first
    | exact wpAny_bind (m := Builtin.Tuple.tupleExact _) (wpAny_newObj_type (wpAny_pure ⟨_, rfl, wpAny_pure h⟩) hdrop)
    | exact wpAny_bind (m := Builtin.Tuple.tupleExact _) (wpAny_newObj_type (wpAny_bind (wpAny_pure (wpAny_pure ⟨_, rfl, wpAny_pure h⟩))) hdrop)
    | exact wpAny_bind (wpAny_bind (m := Builtin.Tuple.tupleExact _) (wpAny_newObj_type (wpAny_pure (wpAny_pure ⟨_, rfl, wpAny_pure h⟩)) hdrop))
    | exact wpAny_bind (wpAny_bind (m := Builtin.Tuple.tupleExact _) (wpAny_newObj_type (wpAny_pure ⟨_, rfl, wpAny_pure h⟩) hdrop))
end
section
variable {prog : Program} {w : World} {A : Around} {E : Value → Shared → Prop} {s : Shared} {h₀ : Heap} {L : Addr} {m : Str → Option Value} {news : List (Addr × Obj)}
theorem slice_tuple_to {value slice : Expr} {t : Addr} {items : Array Value} {bi : Int} {b : Nat} {u : Tok} {its : List Value} {Q : Value → Shared → Prop}
    (F : Fr h₀ L s.heap m) (N : News h₀ L s.heap news) (ht : IsTup s.heap t items) (hbi : bi = (b : Int)) (hb : b < items.size) (he : (items.toList.take b) = its)
    (h : ∀ D h', Fr h₀ L h' m → News h₀ L h' ((D, { cls := .type "tuple", data := .seq its.toArray }) :: news) → (∀ p ∈ news, p.1 < D) → Q (.ref D) { s with heap := h' })
    (hs : subscripted slice false (.ref t) (.ref s.heap.objs.size) = operate [.ref s.heap.objs.size, .ref t] (getItem (.ref t) (.ref s.heap.objs.size)))
    (hg : ∀ r, letTemporaryGo value (.ref t) r = pure ())
    (hsz : items.size ≤ sizeLine) :
    wpAny (model prog w) A (subscriptTail value slice (.ref t) (.ref s.heap.objs.size)) Q E { s with heap := s.heap.push { cls := .type "slice", data := .fields #[.none, .int bi u, .none] } } := by
  subst hbi; subst he
  have ht' : IsTup (s.heap.push { cls := .type "slice", data := .fields #[.none, .int (b : Int) u, .none] }) t items := ht.keeps fun _ _ e => Heap.get?_push_of_some _ e
  refine subscriptTail_ops (s := { s with heap := s.heap.push { cls := .type "slice", data := .fields #[.none, .int (b : Int) u, .none] } }) ht'.typeIs slot_tuple_getitem.lookup
    (getItem_tuple_to ht' (Heap.IsSliceOf.new ..) hb ?_ hsz) hs hg
  have N1 := News.push (F.push { cls := .type "slice", data := .fields #[.none, .int (b : Int) u, .none] }) (N.grown fun _ _ e => Heap.get?_push_of_some _ e) { cls := .type "tuple", data := .seq (items.toList.take b).toArray }
  rw [Heap.size_push] at N1
  show Q (.ref (s.heap.push _).objs.size) _
  rw [Heap.size_push]
  have hF := (F.push { cls := .type "slice", data := .fields #[.none, .int (b : Int) u, .none] }).push { cls := .type "tuple", data := .seq (items.toList.take b).toArray }
  exact h _ _ hF N1 fun p hp => Nat.lt_succ_of_lt (Heap.lt_size (N p hp).1)
end
section
variable {prog : Program} {w : World} {A A₀ : Around} {E : Value → Shared → Prop} {s : Shared} {K : Frag} {C L : Addr} {h₀ base : Heap} {m mg mb : Str → Option Value} {p : Program} {loose : List Str} {mean : ExcName → Option Value} {Q : Value → Shared → Prop}
/-- a def entered with an empty ledger; at its end every object of the caller's heap stands -/
theorem code_apart {env : Env} {outer : List Env} {R : Result → Shared → Prop} {name qual : Str} {params : Arguments} {body : List Stmt} {scope : Scope} {dV kV doc pm cdv ct oc : Value} {an od : Option Addr} {osl : Array (Option Value)} {f : Addr} {args : Args} {binds : List (Str × Value)}
    (B : Below A₀ base outer h₀) (F : Fr h₀ L s.heap m) (X₀ : K.In h₀) (T : Top p loose mean mg mb h₀) (hA : A.frames = some (env :: outer)) (hf : env.frame = some L) (hke : env.scope.kind = .function)
    (ho : K.lookup f = some ⟨oc, od, .func (fnOf name qual params body scope dV kV doc pm an cdv ct), osl⟩) (hcd : codeIn K cdv qual = true) (hroom : A.depth < recursionLimit)
    (hbind : BindsTo s (fnOf name qual params body scope dV kV doc pm an cdv ct) args binds) (hloc : ∀ y ∈ binds, scope.names.lookup y.1 = some .local)
    (h : ∀ g L' h₁, (∀ b o, s.heap.get? b = some o → g.get? b = some o) → Fr h₀ L g m → Fr g L' h₁ (fun y => binds.reverse.lookup y) → News g L' h₁ [] → Below A base (env :: outer) g → K.In g → Top p loose mean mg mb g →
      wpAny (model prog w) (A.deeper (envOf qual scope L' f cdv)) (execs body (envOf qual scope L' f cdv))
        (fun fl s' => LeaveK h₀ L m g (fun r s₂ => (∀ b o, s.heap.get? b = some o → s₂.heap.get? b = some o) → R r s₂) (match fl with | .ret v => v | _ => .none) s')
        (fun e s' => wpAny (model prog w) (A.deeper (envOf qual scope L' f cdv)) (leaving (envOf qual scope L' f cdv) e) (fun _ s'' => R (.error e) s'') (fun e' s'' => R (.error e') s'') s')
        { s with heap := h₁, toks := s.toks + binds.length })
    (hco : scope.isCoroutine = false) (hgen : scope.isGenerator = false) (hk : scope.kind = .function)
    (hcell : ∀ x ∈ scope.names, x.2 ≠ .cell) : codeAny (model prog w) A (.call (.ref f) args) R s := by
  obtain ⟨FG, BG, st, lv⟩ := groundX (R := R) (news := []) B F News.nil hA hf hke
  have hsub : ∀ b o, s.heap.get? b = some o → (hideAll s.heap []).get? b = some o := fun b o e => hideAll_get _ e (fun hm => nomatch hm)
  refine codeAny_call_def (fd := fnX name qual params body scope [] dV kV doc pm an cdv ct) (body := body) (binds := binds) hroom ((X₀.keeps F.keep) _ _ ho) rfl (T.nolimit.keeps F.keep) (codeRec_of (X₀.keeps F.keep) hcd) rfl hbind hcell hloc (fun h₁ hns hk₁ => ?_) hco hgen hk
  refine wpAny_mono (h _ s.heap.objs.size h₁ hsub FG ⟨hns, fun b o e => hk₁ b o (of_hideAll _ e), Nat.le_of_eq (hideAll_size _ _)⟩ News.nil BG (X₀.keeps st) (T.keeps st)) (fun fl s' hl => lv _ _ ?_) fun _ _ y => y
  obtain ⟨L', m', news', F', N', k⟩ := hl
  exact ⟨L', m', news', F', N', fun a b => k a b fun b o e => F'.keep b o (hsub b o e)⟩
theorem ret_apart {h' : Heap} {t : Tok} {tk' : Nat} {x y : Int} {news : List (Addr × Obj)} (hret : ∀ (t : Tok) (h' : Heap) (tk' : Nat), Fr h₀ L h' m → News h₀ L h' news → Q (.int x t) { s with heap := h', toks := tk' }) (e : y = x)
    (F : Fr h₀ L h' m) (N : News h₀ L s.heap news) (hs : ∀ b o, s.heap.get? b = some o → h'.get? b = some o) : Q (.int y t) { s with heap := h', toks := tk' } := by
  subst e
  exact hret t h' tk' F (N.grown hs)
end
def Again (a b : Str) (m₀ : Str → Option Value) (news : List (Addr × Obj)) (m' : Str → Option Value) (n' : List (Addr × Obj)) : Prop :=
  (∃ (dv : Option Value) (x : Int) (tx : Tok), m' = fun y => if y = b then dv else if y = a then some (.int x tx) else m₀ y) ∧ n' = news
theorem again_of {a b : Str} {m₀ : Str → Option Value} {news : List (Addr × Obj)} {x : Int} {tx : Tok} {v : Value} {dv : Option Value} {w : Option Value} (hab : a ≠ b) :
    Again a b m₀ news (fun y => if y = a then some (.int x tx) else if y = b then some v else if y = b then dv else if y = a then w else m₀ y) news := by
  refine ⟨⟨some v, x, tx, ?_⟩, rfl⟩
  funext y
  by_cases h1 : y = a
  · have h2 : y ≠ b := fun e => hab (h1.symm.trans e)
    simp [h1, hab]
  · by_cases h2 : y = b
    · subst h2; simp [h1]
    · simp [h1, h2]
section
variable {prog : Program} {w : World} {A : Around} {E : Value → Shared → Prop} {s : Shared} {env : Env} {h₀ : Heap} {target : Expr} {body : List Stmt} {Q : Flow → Shared → Prop}
theorem items_again {I ax : Addr} {lo : Obj} {a b : Str} {m₀ : Str → Option Value}
    (step : ∀ n t x tx dv h tk o, o.cls = .type "tuple_iterator" → Fr h₀ env.locals h (fun y => if y = b then dv else if y = a then some (.int x tx) else m₀ y) → News h₀ env.locals h [(I, o), (ax, lo)] →
      wpAny (model prog w) A (assign target env (.int n t)) (fun _ s₂ => wpAny (model prog w) A (execs body env) (UnrPostW h₀ env.locals { s with heap := h, toks := tk } [(I, o)] (fun m' n' => SubL [(ax, lo)] n' ∧ Again a b m₀ [(ax, lo)] m' n') Q) E s₂) E { s with heap := h, toks := tk })
    (fin : ∀ x tx dv h tk, Fr h₀ env.locals h (fun y => if y = b then dv else if y = a then some (.int x tx) else m₀ y) → News h₀ env.locals h [(ax, lo)] → Q .next { s with heap := h, toks := tk }) :
    ∀ (vs : List Value) (_hv : ∀ v ∈ vs, ∃ n t, v = .int n t) (x : Int) (tx : Tok) (dv : Option Value), ItemsRest prog w A E h₀ env target body Q s [(I, "tuple_iterator")] [(ax, lo)] (vs.map .val) (fun y => if y = b then dv else if y = a then some (.int x tx) else m₀ y) [(ax, lo)]
  | [], _, x, tx, dv => fun h tk F N => fin x tx dv h tk F N
  | v :: r, hv, x, tx, dv => by
    obtain ⟨n, t, rfl⟩ := hv v (List.mem_cons_self ..)
    have ih := items_again step fin r (fun v h => hv v (List.mem_cons_of_mem _ h))
    refine ItemsRest.val fun h tk F => AllObj.cons fun o hc => AllObj.nil fun N => ?_
    refine wpAny_mono (step n t x tx dv h tk o hc F N) (fun _ s₂ h₂ => wpAny_mono h₂ (fun f s₃ p => ?_) fun _ _ e => e) fun _ _ e => e
    have up : ∀ s₃, UnrEndW h₀ env.locals { s with heap := h, toks := tk } [(I, o)] (fun m' n' => SubL [(ax, lo)] n' ∧ Again a b m₀ [(ax, lo)] m' n') s₃ →
        UnrEndW h₀ env.locals { s with heap := h, toks := tk } [(I, o)] (fun m' n' => SubL [(ax, lo)] n' ∧ ItemsRest prog w A E h₀ env target body Q s [(I, "tuple_iterator")] [(ax, lo)] (r.map .val) m' n') s₃ := by
      rintro s₃ ⟨h', tk', m', news', e, F', N', ho, hk, ⟨⟨dv', x', tx', rfl⟩, rfl⟩⟩
      exact ⟨h', tk', _, _, e, F', N', ho, hk, ih x' tx' dv'⟩
    cases f with
    | ret v => exact p
    | brk => exact p
    | next => exact up _ p
    | cont => exact up _ p
theorem iter_again {ax : Addr} {vs : List Value} {n : Nat} {m₀ : Str → Option Value} (a b : Str) {x₀ : Int} {t₀ : Tok} (hab : a ≠ b) (hm₀ : m₀ a = some (.int x₀ t₀)) (hh : A.handled = none) (F : Fr h₀ env.locals s.heap m₀) (N : News h₀ env.locals s.heap [(ax, { cls := .type "tuple", data := .seq vs.toArray n })])
    (hv : ∀ v ∈ vs, ∃ n t, v = .int n t)
    (step : ∀ I : Addr, @LT.lt Nat _ ax I → ∀ n' t x tx dv h tk o, o.cls = .type "tuple_iterator" → Fr h₀ env.locals h (fun y => if y = b then dv else if y = a then some (.int x tx) else m₀ y) → News h₀ env.locals h [(I, o), (ax, { cls := .type "tuple", data := .seq vs.toArray n })] →
      wpAny (model prog w) A (assign target env (.int n' t)) (fun _ s₂ => wpAny (model prog w) A (execs body env) (UnrPostW h₀ env.locals { s with heap := h, toks := tk } [(I, o)] (fun m' n' => SubL [(ax, { cls := .type "tuple", data := .seq vs.toArray n })] n' ∧ Again a b m₀ [(ax, { cls := .type "tuple", data := .seq vs.toArray n })] m' n') Q) E s₂) E { s with heap := h, toks := tk })
    (fin : ∀ x tx dv h tk, Fr h₀ env.locals h (fun y => if y = b then dv else if y = a then some (.int x tx) else m₀ y) → News h₀ env.locals h [(ax, { cls := .type "tuple", data := .seq vs.toArray n })] → Q .next { s with heap := h, toks := tk }) :
    wpAny (model prog w) A (pyIter (.ref ax)) (fun it s₂ => TurnsAt prog w A h₀ env target body Q E it s₂) E s := by
  refine iter_tupTurns (vs := vs) hh F N (List.Mem.head _) rfl rfl fun I hI => ?_
  have e : m₀ = fun y => if y = b then m₀ b else if y = a then some (.int x₀ t₀) else m₀ y := by
    funext y
    by_cases h1 : y = a
    · subst h1; simp [hab, hm₀]
    · by_cases h2 : y = b
      · subst h2; simp
      · simp [h1, h2]
  have := items_again (I := I) (fun n' t x tx dv h tk o hc F N => step I (hI _ (List.Mem.head _)) n' t x tx dv h tk o hc F N) fin vs hv x₀ t₀ (m₀ b)
  rw [← e] at this
  exact this
end
theorem take_ints {ns : List Int} {vs : List Value} (h : IntsAre vs ns) (k : Nat) : ∀ v ∈ vs.take k, ∃ n t, v = .int n t := by
  intro v hv
  have hw := List.mem_of_mem_take hv
  clear hv
  induction h with
  | nil => cases hw
  | cons n t _ ih =>
    rcases List.mem_cons.mp hw with rfl | hw
    · exact ⟨n, t, rfl⟩
    · exact ih hw
theorem ml_a {y mo : Int} (h1 : 1 ≤ mo) (h2 : mo ≤ 12) (h3 : mo ≠ 2) : ([0, 31, 28, 31, 30, 31, 30, 31, 31, 30, 31, 30, 31] : List Int).getD mo.toNat 0 + 0 = mlF y mo := by
  have hc : mo = 1 ∨ mo = 3 ∨ mo = 4 ∨ mo = 5 ∨ mo = 6 ∨ mo = 7 ∨ mo = 8 ∨ mo = 9 ∨ mo = 10 ∨ mo = 11 ∨ mo = 12 := by omega
  rcases hc with rfl | rfl | rfl | rfl | rfl | rfl | rfl | rfl | rfl | rfl | rfl <;> rfl
theorem ml_b {y mo : Int} (h1 : mo = 2) (h2 : leapF y = true) : ([0, 31, 28, 31, 30, 31, 30, 31, 31, 30, 31, 30, 31] : List Int).getD mo.toNat 0 + 1 = mlF y mo := by
  subst h1; unfold mlF; rw [if_pos rfl, if_pos h2]; rfl
theorem ml_c {y mo : Int} (h1 : mo = 2) (h2 : leapF y = false) : ([0, 31, 28, 31, 30, 31, 30, 31, 31, 30, 31, 30, 31] : List Int).getD mo.toNat 0 + 0 = mlF y mo := by
  subst h1; unfold mlF; rw [if_pos rfl, h2]; rfl
theorem wk_a {y : Int} (h : (jdF y 1 1).fmod 7 = 3) : 53 = wkF y := by unfold wkF; rw [if_pos (Or.inl h)]
theorem wk_b {y : Int} (h : (jdF y 1 1).fmod 7 = 2) (h' : leapF y = true) : 53 = wkF y := by unfold wkF; rw [if_pos (Or.inr ⟨h, h'⟩)]
theorem wk_c {y : Int} (h : (jdF y 1 1).fmod 7 ≠ 3) (h' : (jdF y 1 1).fmod 7 ≠ 2) : 52 = wkF y := by unfold wkF; rw [if_neg (fun x => x.elim h fun x => h' x.1)]
theorem wk_d {y : Int} (h : (jdF y 1 1).fmod 7 ≠ 3) (h' : leapF y = false) : 52 = wkF y := by unfold wkF; rw [if_neg (fun x => x.elim h fun x => Bool.noConfusion (h'.symm.trans x.2))]
theorem ret_tup {s : Shared} {h₀ h' : Heap} {L D : Addr} {m : Str → Option Value} {news : List (Addr × Obj)} {Q : Value → Shared → Prop} {a b c a' b' c' : Int} {t t2 t3 : Tok} {c₀ tk : Nat}
    (hret : ∀ (D : Addr) (c₀ : Nat) (t t2 t3 : Tok) (h' : Heap) (tk' : Nat), Fr h₀ L h' m → News h₀ L h' ((D, ({ cls := .type "tuple", data := .seq #[.int a t, .int b t2, .int c t3] c₀ } : Obj)) :: news) → Q (.ref D) { s with heap := h', toks := tk' })
    (e : a' = a ∧ b' = b ∧ c' = c) (F : Fr h₀ L h' m) (N : News h₀ L h' ((D, ({ cls := .type "tuple", data := .seq #[.int a' t, .int b' t2, .int c' t3] c₀ } : Obj)) :: news)) : Q (.ref D) { s with heap := h', toks := tk } := by
  obtain ⟨e1, e2, e3⟩ := e
  subst e1; subst e2; subst e3
  exact hret D c₀ t t2 t3 h' tk F N
local macro_rules | `(tactic| walk_at "compareOp In int ref") => `(tactic| (k_here; (with_reducible show wpAny _ _ (compareOp CmpOp.In (Value.int _ _) (Value.ref 72)) _ _ _); k_dflt (refine' in30_step ?k1 ?k2 ?_; (case k1 => (with_unfolding_all exact Fr.tup (by k_asm) (tupK (by k_asm) (by k_is)))); (case k2 => repeat constructor)); (try dsimp only)))
local macro_rules | `(tactic| walk_at "exec Raise some none") => `(tactic| (exfalso; first | omega | ((rename _ ∧ _ ≤ mlF _ _ => hq); obtain ⟨hq1, hq2⟩ := hq; rcases ml_cases hq2 with ⟨h1, h2, h3⟩ | ⟨h1, h2, h3⟩ | ⟨h1, h2, h3⟩ | ⟨h1, h2, h3⟩ <;> first | omega | simp_all | (simp_all; omega))))
local macro_rules | `(tactic| walk_at "call ref") => `(tactic| (k_here; k_dflt (refine wpAny_call ?_; refine' code_def ?k1 ?k2 ?k3 ?k4 ?k5 ?kA ?kF ?kK ?k6 ?k7 ?k8 ?k9 ?kB ?_ ?c2 ?c3 ?c4 ?c5; (case kA => exact rfl); (case kF => exact rfl); (case kK => exact rfl); (case k1 => k_asm); (case k2 => k_asm); (case k3 => k_asm); (case k4 => k_asm); (case k5 => k_asm); (case k6 => k_is); (case k7 => k_is); (case k8 => ktr_room); (case k9 => exact BindsTo.of_eq rfl); (case c5 => decide); (case kB => exact locs rfl); (case c2 => exact rfl); (case c3 => exact rfl); (case c4 => exact rfl); k_whole; intro g' L' h' FG' F' N' B' X' T'; (try dsimp only); (try k_lift B'); (try k_fold))))
local macro_rules | `(tactic| walk_at "exec For Name Subscript cons nil") => `(tactic| (k_here; (rename Fr _ _ _ _ => lF'); (with_unfolding_all refine' For_turns lF' ?_; k_whole)))
local macro_rules | `(tactic| walk_at "subscriptTail Name Slice ref ref") => `(tactic| (k_here; (with_reducible show wpAny _ _ (subscriptTail _ (PySem.Expr.Slice none _ none _) (Value.ref 15) (Value.ref _)) _ _ _); k_dflt (refine' slice_tuple_to ?k1 ?k2 ?k3 ?k4 ?k5 ?k6 ?_ ?k7 ?k8 ?k9; (case k1 => k_asm); (case k2 => k_asm); (case k3 => (with_unfolding_all exact Fr.tup (by k_asm) (tupK (by k_asm) (by k_is)))); (case k4 => exact (Int.toNat_of_nonneg (by omega)).symm); (case k5 => (show _ < 13; omega)); (case k6 => exact rfl); (case k7 => with_unfolding_all rfl); (case k8 => (intro _; with_unfolding_all rfl)); (case k9 => decide); k_whole); intro D' h' F' N' l1; (try dsimp only)))
local macro_rules | `(tactic| walk_at "pyIter ref") => `(tactic| (k_here; (with_reducible show wpAny _ _ (pyIter (Value.ref _)) (fun it s₂ => TurnsAt _ _ _ _ _ _ _ _ _ it s₂) _ _); k_dflt (refine' iter_again (Str.ofString "first") (Str.ofString "days") ?k1 ?k2 ?k3 ?k4 ?k5 ?k6 ?_ ?_; (case k1 => decide); (case k4 => k_asm); (case k5 => k_asm); (case k2 => exact rfl); (case k3 => exact rfl); (case k6 => exact take_ints (by repeat constructor) _)); (intro I' l1 n' t' x' tx' dv' h' tk' o' hc' F' N'); (try dsimp only); rotate_left; (intro x' tx' dv' h' tk' F' N'); (try dsimp only); rotate_left))
local macro_rules | `(tactic| walk_at "Again") => `(tactic| (k_dflt exact again_of (by decide)))
set_option maxRecDepth 100000 in
set_option maxHeartbeats 8000000 in
theorem c_isleap {w : World} {mean : ExcName → Option Value} {mg mb : Str → Option Value} (y : Int) (ty : Tok) 
    {dp un : Nat} {gd : Option (List Code)} {cn : Str} {cs : Scope} {a₀ : Addr} {ccd : Value} {cl : List (Str × Addr)} {outer : List Env} {A₀ : Around} {base h₀ : Heap} {L : Addr} {m : Str → Option Value} {news : List (Addr × Obj)} {s : Shared} {Q E : Value → Shared → Prop}
    (B : Below A₀ base outer h₀) (F : Fr h₀ L s.heap m) (X : (hd.heap_39 w.params).In h₀) (N : News h₀ L s.heap news) (T : Top hd.view_39 loose1 mean mg mb h₀) (hk : cs.kind = .function) (hd₁ : dp + 1 < recursionLimit) (hu₁ : un + 8 < cLine)
    (hret : ∀ (t : Tok) (h' : Heap) (tk' : Nat), Fr h₀ L h' m → News h₀ L h' news → Q (.bool (leapF y)) { s with heap := h', toks := tk' }) :
    wpAny (model PySem.Challenge.rw_ah0012_01.row.prog w) (ktrTop dp un gd cn cs L a₀ ccd cl outer) (call (.ref 22) [.int y ty]) Q E s := by
  revert X; k_fill; intro X
  w_strict (
    refine wpAny_call ?_
    k_dflt cell_enter
    k_steps
    all_goals (refine cb_retB hret ?e1 ?e2 ?e3; (case e2 => k_asm); (case e3 => k_asm); (case e1 => simp [leapF, *])))
local macro_rules | `(tactic| walk_at "call ref") => `(tactic| (k_here; (with_reducible show wpAny _ _ (call (Value.ref 22) [Value.int _ _]) _ _ _); k_dflt (refine' c_isleap _ _ ?k1 ?k2 ?k3 ?k4 ?k5 ?kK ?kd ?ku ?_; (case k1 => k_asm); (case k2 => k_asm); (case k3 => k_asm); (case k4 => k_asm); (case k5 => k_asm); (case kK => first | exact rfl | assumption); (case kd => ktr_room); (case ku => ktr_units)); intro t9 h9 tk9 F9 N9; (try dsimp only); (try k_fold)))
set_option maxRecDepth 100000 in
set_option maxHeartbeats 8000000 in
theorem c_legal {w : World} {mean : ExcName → Option Value} {mg mb : Str → Option Value} (y mo d : Int) (ty tmo td : Tok) (hpre : 0 < d ∧ d ≤ mlF y mo) 
    {dp un : Nat} {gd : Option (List Code)} {cn : Str} {cs : Scope} {a₀ : Addr} {ccd : Value} {cl : List (Str × Addr)} {outer : List Env} {A₀ : Around} {base h₀ : Heap} {L : Addr} {m : Str → Option Value} {news : List (Addr × Obj)} {s : Shared} {Q E : Value → Shared → Prop}
    (B : Below A₀ base outer h₀) (F : Fr h₀ L s.heap m) (X : (hd.heap_39 w.params).In h₀) (N : News h₀ L s.heap news) (T : Top hd.view_39 loose1 mean mg mb h₀) (hk : cs.kind = .function) (hd₁ : dp + 2 < recursionLimit) (hu₁ : un + 16 < cLine)
    (hret : ∀ (t : Tok) (h' : Heap) (tk' : Nat), Fr h₀ L h' m → News h₀ L h' news → Q (.bool (true)) { s with heap := h', toks := tk' }) :
    wpAny (model PySem.Challenge.rw_ah0012_01.row.prog w) (ktrTop dp un gd cn cs L a₀ ccd cl outer) (call (.ref 79) [.int y ty, .int mo tmo, .int d td]) Q E s := by
  revert X; k_fill; intro X
  w_strict (
    refine wpAny_call ?_
    k_dflt cell_enter
    k_steps
    all_goals (refine cb_retB hret ?e1 ?e2 ?e3; (case e2 => k_asm); (case e3 => k_asm); (case e1 => rfl)))
local macro_rules | `(tactic| walk_at "call ref") => `(tactic| (k_here; (with_reducible show wpAny _ _ (call (Value.ref 79) [Value.int _ _, Value.int _ _, Value.int _ _]) _ _ _); k_dflt (refine' c_legal _ _ _ _ _ _ ?kp ?k1 ?k2 ?k3 ?k4 ?k5 ?kK ?kd ?ku ?_; (case k1 => k_asm); (case k2 => k_asm); (case k3 => k_asm); (case k4 => k_asm); (case k5 => k_asm); (case kK => first | exact rfl | assumption); (case kp => (first | assumption | omega)); (case kd => ktr_room); (case ku => ktr_units)); intro t9 h9 tk9 F9 N9; (try dsimp only); (try k_fold)))
set_option maxRecDepth 100000 in
set_option maxHeartbeats 8000000 in
theorem c_tojd {w : World} {mean : ExcName → Option Value} {mg mb : Str → Option Value} (y mo d : Int) (ty tmo td : Tok) (hpre : 0 < d ∧ d ≤ mlF y mo) 
    {dp un : Nat} {gd : Option (List Code)} {cn : Str} {cs : Scope} {a₀ : Addr} {ccd : Value} {cl : List (Str × Addr)} {outer : List Env} {A₀ : Around} {base h₀ : Heap} {L : Addr} {m : Str → Option Value} {news : List (Addr × Obj)} {s : Shared} {Q E : Value → Shared → Prop}
    (B : Below A₀ base outer h₀) (F : Fr h₀ L s.heap m) (X : (hd.heap_39 w.params).In h₀) (N : News h₀ L s.heap news) (T : Top hd.view_39 loose1 mean mg mb h₀) (hk : cs.kind = .function) (hd₁ : dp + 3 < recursionLimit) (hu₁ : un + 24 < cLine)
    (hret : ∀ (t : Tok) (h' : Heap) (tk' : Nat), Fr h₀ L h' m → News h₀ L h' news → Q (.int (jdF y mo d) t) { s with heap := h', toks := tk' }) :
    wpAny (model PySem.Challenge.rw_ah0012_01.row.prog w) (ktrTop dp un gd cn cs L a₀ ccd cl outer) (call (.ref 86) [.int y ty, .int mo tmo, .int d td]) Q E s := by
  revert X; k_fill; intro X
  w_strict (
    refine wpAny_call ?_
    k_dflt cell_enter
    k_steps
    all_goals (refine cb_retI hret ?e1 ?e2 ?e3; (case e2 => k_asm); (case e3 => k_asm); (case e1 => (unfold jdF; simp_all))))
local macro_rules | `(tactic| walk_at "call ref") => `(tactic| (k_here; (with_reducible show wpAny _ _ (call (Value.ref 86) [Value.int _ _, Value.int _ _, Value.int _ _]) _ _ _); k_dflt (refine' c_tojd _ _ _ _ _ _ ?kp ?k1 ?k2 ?k3 ?k4 ?k5 ?kK ?kd ?ku ?_; (case k1 => k_asm); (case k2 => k_asm); (case k3 => k_asm); (case k4 => k_asm); (case k5 => k_asm); (case kK => first | exact rfl | assumption); (case kp => (first | assumption | exact one_legal | exact d28_legal)); (case kd => ktr_room); (case ku => ktr_units)); intro t9 h9 tk9 F9 N9; (try dsimp only); (try k_fold)))
set_option maxRecDepth 100000 in
set_option maxHeartbeats 8000000 in
theorem c_mlen {w : World} {mean : ExcName → Option Value} {mg mb : Str → Option Value} (y mo : Int) (ty tmo : Tok) (hpre : 1 ≤ mo ∧ mo ≤ 12) 
    {dp un : Nat} {gd : Option (List Code)} {cn : Str} {cs : Scope} {a₀ : Addr} {ccd : Value} {cl : List (Str × Addr)} {outer : List Env} {A₀ : Around} {base h₀ : Heap} {L : Addr} {m : Str → Option Value} {news : List (Addr × Obj)} {s : Shared} {Q E : Value → Shared → Prop}
    (B : Below A₀ base outer h₀) (F : Fr h₀ L s.heap m) (X : (hd.heap_39 w.params).In h₀) (N : News h₀ L s.heap news) (T : Top hd.view_39 loose1 mean mg mb h₀) (hk : cs.kind = .function) (hd₁ : dp + 4 < recursionLimit) (hu₁ : un + 30 < cLine)
    (hret : ∀ (t : Tok) (h' : Heap) (tk' : Nat), Fr h₀ L h' m → News h₀ L h' news → Q (.int (mlF y mo) t) { s with heap := h', toks := tk' }) :
    wpAny (model PySem.Challenge.rw_ah0012_01.row.prog w) (ktrTop dp un gd cn cs L a₀ ccd cl outer) (call (.ref 100) [.int y ty, .int mo tmo]) Q E s := by
  revert X; k_fill; intro X
  w_strict (
    have N₀ : News h₀ L s.heap news ∧ True := ⟨N, True.intro⟩
    clear N
    refine wpAny_call ?_
    k_dflt (refine' code_apart ?k1 ?k2 ?k3 ?k5 ?kA ?kF ?kK ?k6 ?k7 ?k8 ?k9 ?kB ?_ ?c2 ?c3 ?c4 ?c5; (case kA => exact rfl); (case kF => exact rfl); (case kK => assumption); (case k1 => k_asm); (case k2 => k_asm); (case k3 => k_asm); (case k5 => k_asm); (case k6 => k_is); (case k7 => k_is); (case k8 => ktr_room); (case k9 => exact BindsTo.of_eq rfl); (case c5 => decide); (case kB => exact locs rfl); (case c2 => exact rfl); (case c3 => exact rfl); (case c4 => exact rfl); k_whole; intro g' L' h' hsub FG' F' N' B' X' T'; (try dsimp only); (try k_lift B'); (try k_fold))
    obtain ⟨h1, h2⟩ := hpre
    k_steps
    all_goals (refine ret_apart hret ?e1 ?e2 N₀.1 ?e4; (case e2 => k_asm); (case e4 => assumption); (case e1 => first | exact ml_a (by assumption) (by assumption) (by assumption) | exact ml_b (by assumption) (by assumption) | exact ml_c (by assumption) (by assumption) | (exfalso; omega))))
local macro_rules | `(tactic| walk_at "call ref") => `(tactic| (k_here; (with_reducible show wpAny _ _ (call (Value.ref 100) [Value.int _ _, Value.int _ _]) _ _ _); k_dflt (refine' c_mlen _ _ _ _ ?kp ?k1 ?k2 ?k3 ?k4 ?k5 ?kK ?kd ?ku ?_; (case k1 => k_asm); (case k2 => k_asm); (case k3 => k_asm); (case k4 => k_asm); (case k5 => k_asm); (case kK => first | exact rfl | assumption); (case kp => (first | assumption | omega)); (case kd => ktr_room); (case ku => ktr_units)); intro t9 h9 tk9 F9 N9; (try dsimp only); (try k_fold)))
set_option maxRecDepth 100000 in
set_option maxHeartbeats 8000000 in
theorem c_tojdiso {w : World} {mean : ExcName → Option Value} {mg mb : Str → Option Value} (y wk d : Int) (ty twk td : Tok) (hpre : 1 ≤ wk) 
    {dp un : Nat} {gd : Option (List Code)} {cn : Str} {cs : Scope} {a₀ : Addr} {ccd : Value} {cl : List (Str × Addr)} {outer : List Env} {A₀ : Around} {base h₀ : Heap} {L : Addr} {m : Str → Option Value} {news : List (Addr × Obj)} {s : Shared} {Q E : Value → Shared → Prop}
    (B : Below A₀ base outer h₀) (F : Fr h₀ L s.heap m) (X : (hd.heap_39 w.params).In h₀) (N : News h₀ L s.heap news) (T : Top hd.view_39 loose1 mean mg mb h₀) (hk : cs.kind = .function) (hd₁ : dp + 8 < recursionLimit) (hu₁ : un + 60 < cLine)
    (hret : ∀ (t : Tok) (h' : Heap) (tk' : Nat), Fr h₀ L h' m → News h₀ L h' news → Q (.int (isoJdF y wk d) t) { s with heap := h', toks := tk' }) :
    wpAny (model PySem.Challenge.rw_ah0012_01.row.prog w) (ktrTop dp un gd cn cs L a₀ ccd cl outer) (call (.ref 107) [.int y ty, .int wk twk, .int d td]) Q E s := by
  revert X; k_fill; intro X
  w_strict (
    refine wpAny_call ?_
    k_dflt cell_enter
    k_steps
    all_goals (refine cb_retI hret ?e1 ?e2 ?e3; (case e2 => k_asm); (case e3 => k_asm); (case e1 => (unfold isoJdF; first | rfl | omega))))
local macro_rules | `(tactic| walk_at "call ref") => `(tactic| (k_here; (with_reducible show wpAny _ _ (call (Value.ref 107) [Value.int _ _, Value.int _ _, Value.int _ _]) _ _ _); k_dflt (refine' c_tojdiso _ _ _ _ _ _ ?kp ?k1 ?k2 ?k3 ?k4 ?k5 ?kK ?kd ?ku ?_; (case k1 => k_asm); (case k2 => k_asm); (case k3 => k_asm); (case k4 => k_asm); (case k5 => k_asm); (case kK => first | exact rfl | assumption); (case kp => (first | assumption | omega)); (case kd => ktr_room); (case ku => ktr_units)); intro t9 h9 tk9 F9 N9; (try dsimp only); (try k_fold)))
set_option maxRecDepth 100000 in
set_option maxHeartbeats 8000000 in
theorem c_w1 {w : World} {mean : ExcName → Option Value} {mg mb : Str → Option Value} (y : Int) (ty : Tok) 
    {dp un : Nat} {gd : Option (List Code)} {cn : Str} {cs : Scope} {a₀ : Addr} {ccd : Value} {cl : List (Str × Addr)} {outer : List Env} {A₀ : Around} {base h₀ : Heap} {L : Addr} {m : Str → Option Value} {news : List (Addr × Obj)} {s : Shared} {Q E : Value → Shared → Prop}
    (B : Below A₀ base outer h₀) (F : Fr h₀ L s.heap m) (X : (hd.heap_39 w.params).In h₀) (N : News h₀ L s.heap news) (T : Top hd.view_39 loose1 mean mg mb h₀) (hk : cs.kind = .function) (hd₁ : dp + 5 < recursionLimit) (hu₁ : un + 40 < cLine)
    (hret : ∀ (t : Tok) (h' : Heap) (tk' : Nat), Fr h₀ L h' m → News h₀ L h' news → Q (.int (w1F y) t) { s with heap := h', toks := tk' }) :
    wpAny (model PySem.Challenge.rw_ah0012_01.row.prog w) (ktrTop dp un gd cn cs L a₀ ccd cl outer) (call (.ref 128) [.int y ty]) Q E s := by
  revert X; k_fill; intro X
  w_strict (
    refine wpAny_call ?_
    k_dflt cell_enter
    k_steps
    all_goals (refine cb_retI hret ?e1 ?e2 ?e3; (case e2 => k_asm); (case e3 => k_asm); (case e1 => (unfold w1F; first | rw [if_pos (by assumption)] | rw [if_neg (by assumption)]))))
local macro_rules | `(tactic| walk_at "call ref") => `(tactic| (k_here; (with_reducible show wpAny _ _ (call (Value.ref 128) [Value.int _ _]) _ _ _); k_dflt (refine' c_w1 _ _ ?k1 ?k2 ?k3 ?k4 ?k5 ?kK ?kd ?ku ?_; (case k1 => k_asm); (case k2 => k_asm); (case k3 => k_asm); (case k4 => k_asm); (case k5 => k_asm); (case kK => first | exact rfl | assumption); (case kd => ktr_room); (case ku => ktr_units)); intro t9 h9 tk9 F9 N9; (try dsimp only); (try k_fold)))
set_option maxRecDepth 100000 in
set_option maxHeartbeats 8000000 in
theorem c_wpy {w : World} {mean : ExcName → Option Value} {mg mb : Str → Option Value} (y : Int) (ty : Tok) 
    {dp un : Nat} {gd : Option (List Code)} {cn : Str} {cs : Scope} {a₀ : Addr} {ccd : Value} {cl : List (Str × Addr)} {outer : List Env} {A₀ : Around} {base h₀ : Heap} {L : Addr} {m : Str → Option Value} {news : List (Addr × Obj)} {s : Shared} {Q E : Value → Shared → Prop}
    (B : Below A₀ base outer h₀) (F : Fr h₀ L s.heap m) (X : (hd.heap_39 w.params).In h₀) (N : News h₀ L s.heap news) (T : Top hd.view_39 loose1 mean mg mb h₀) (hk : cs.kind = .function) (hd₁ : dp + 5 < recursionLimit) (hu₁ : un + 40 < cLine)
    (hret : ∀ (t : Tok) (h' : Heap) (tk' : Nat), Fr h₀ L h' m → News h₀ L h' news → Q (.int (wkF y) t) { s with heap := h', toks := tk' }) :
    wpAny (model PySem.Challenge.rw_ah0012_01.row.prog w) (ktrTop dp un gd cn cs L a₀ ccd cl outer) (call (.ref 121) [.int y ty]) Q E s := by
  revert X; k_fill; intro X
  w_strict (
    refine wpAny_call ?_
    k_dflt cell_enter
    k_steps
    all_goals (refine cb_retI hret ?e1 ?e2 ?e3; (case e2 => k_asm); (case e3 => k_asm); (case e1 => first | exact wk_a (by assumption) | exact wk_b (by assumption) (by assumption) | exact wk_c (by assumption) (by assumption) | exact wk_d (by assumption) (by assumption))))
local macro_rules | `(tactic| walk_at "call ref") => `(tactic| (k_here; (with_reducible show wpAny _ _ (call (Value.ref 121) [Value.int _ _]) _ _ _); k_dflt (refine' c_wpy _ _ ?k1 ?k2 ?k3 ?k4 ?k5 ?kK ?kd ?ku ?_; (case k1 => k_asm); (case k2 => k_asm); (case k3 => k_asm); (case k4 => k_asm); (case k5 => k_asm); (case kK => first | exact rfl | assumption); (case kd => ktr_room); (case ku => ktr_units)); intro t9 h9 tk9 F9 N9; (try dsimp only); (try k_fold)))
set_option maxRecDepth 100000 in
set_option maxHeartbeats 8000000 in
theorem c_fromjd {w : World} {mean : ExcName → Option Value} {mg mb : Str → Option Value} (jd : Int) (tjd : Tok) {y k : Int} (hpre : IsDay jd y k) 
    {dp un : Nat} {gd : Option (List Code)} {cn : Str} {cs : Scope} {a₀ : Addr} {ccd : Value} {cl : List (Str × Addr)} {outer : List Env} {A₀ : Around} {base h₀ : Heap} {L : Addr} {m : Str → Option Value} {news : List (Addr × Obj)} {s : Shared} {Q E : Value → Shared → Prop}
    (B : Below A₀ base outer h₀) (F : Fr h₀ L s.heap m) (X : (hd.heap_39 w.params).In h₀) (N : News h₀ L s.heap news) (T : Top hd.view_39 loose1 mean mg mb h₀) (hk : cs.kind = .function) (hd₁ : dp + 6 < recursionLimit) (hu₁ : un + 50 < cLine)
    (hret : ∀ (D : Addr) (c : Nat) (t t2 t3 : Tok) (h' : Heap) (tk' : Nat), Fr h₀ L h' m → News h₀ L h' ((D, ({ cls := .type "tuple", data := .seq #[.int (y) t, .int (gmF (leapF y) k) t2, .int (jd - jdF y (gmF (leapF y) k) 1 + 1) t3] c } : Obj)) :: news) → Q (.ref D) { s with heap := h', toks := tk' }) :
    wpAny (model PySem.Challenge.rw_ah0012_01.row.prog w) (ktrTop dp un gd cn cs L a₀ ccd cl outer) (call (.ref 93) [.int jd tjd]) Q E s := by
  revert X; k_fill; intro X
  w_strict (
    refine wpAny_call ?_
    k_dflt cell_enter
    k_steps
    all_goals (
      (first | have hE := yr_a hpre (by assumption) | have hE := yr_b hpre (by assumption) (by assumption) | have hE := yr_c hpre (by assumption) (by assumption))
      (first | have hM := fj_mo0 hE hpre (by assumption) | have hM := fj_mo1 hE hpre (by assumption) (by assumption) | have hM := fj_mo2 hE hpre (by assumption) (by assumption))
      exact ret_tup hret ⟨hE, hM, gd_eq hE hM⟩ (by k_asm) (by assumption))
)
local macro_rules | `(tactic| walk_at "call ref") => `(tactic| (k_here; (with_reducible show wpAny _ _ (call (Value.ref 93) [Value.int _ _]) _ _ _); k_dflt (refine' c_fromjd _ _ ?kp ?k1 ?k2 ?k3 ?k4 ?k5 ?kK ?kd ?ku ?_; (case k1 => k_asm); (case k2 => k_asm); (case k3 => k_asm); (case k4 => k_asm); (case k5 => k_asm); (case kK => first | exact rfl | assumption); (case kp => (assumption)); (case kd => ktr_room); (case ku => ktr_units)); intro D9 c9 t9 t92 t93 h9 tk9 F9 N9; (try dsimp only); (try k_fold)))
set_option maxRecDepth 100000 in
set_option maxHeartbeats 8000000 in
theorem c_fromgreg {w : World} {mean : ExcName → Option Value} {mg mb : Str → Option Value} (y mo d : Int) (ty tmo td : Tok) {Y W Z : Int} (hpre : IsGreg y mo d Y W Z) 
    {dp un : Nat} {gd : Option (List Code)} {cn : Str} {cs : Scope} {a₀ : Addr} {ccd : Value} {cl : List (Str × Addr)} {outer : List Env} {A₀ : Around} {base h₀ : Heap} {L : Addr} {m : Str → Option Value} {news : List (Addr × Obj)} {s : Shared} {Q E : Value → Shared → Prop}
    (B : Below A₀ base outer h₀) (F : Fr h₀ L s.heap m) (X : (hd.heap_39 w.params).In h₀) (N : News h₀ L s.heap news) (T : Top hd.view_39 loose1 mean mg mb h₀) (hk : cs.kind = .function) (hd₁ : dp + 8 < recursionLimit) (hu₁ : un + 60 < cLine)
    (hret : ∀ (D : Addr) (c : Nat) (t t2 t3 : Tok) (h' : Heap) (tk' : Nat), Fr h₀ L h' m → News h₀ L h' ((D, ({ cls := .type "tuple", data := .seq #[.int (Y) t, .int (W) t2, .int (Z) t3] c } : Obj)) :: news) → Q (.ref D) { s with heap := h', toks := tk' }) :
    wpAny (model PySem.Challenge.rw_ah0012_01.row.prog w) (ktrTop dp un gd cn cs L a₀ ccd cl outer) (call (.ref 135) [.int y ty, .int mo tmo, .int d td]) Q E s := by
  revert X; k_fill; intro X
  w_strict (
    refine wpAny_call ?_
    k_dflt cell_enter
    obtain ⟨hy1, hy2, hm1, hm2, hd, ht1, ht2, hiso⟩ := hpre
    k_steps
    all_goals (
      (first | have hM := fg_a hiso ht1 (by assumption) | have hM := fg_b hiso ht2 (by assumption) | have hM := fg_c hiso (by assumption) (Int.not_le.mp (by assumption)) | have hM := fg_c hiso (by assumption) (fg_c52 (by assumption)))
      refine' ret_tup hret hM ?e2 (cb_drop ?e3 ?e4)
      (case e2 => k_asm)
      (case e3 => assumption)
      (case e4 => kcj_all))
)
local macro_rules | `(tactic| walk_at "call ref") => `(tactic| (k_here; (with_reducible show wpAny _ _ (call (Value.ref 135) [Value.int _ _, Value.int _ _, Value.int _ _]) _ _ _); k_dflt (refine' c_fromgreg _ _ _ _ _ _ ?kp ?k1 ?k2 ?k3 ?k4 ?k5 ?kK ?kd ?ku ?_; (case k1 => k_asm); (case k2 => k_asm); (case k3 => k_asm); (case k4 => k_asm); (case k5 => k_asm); (case kK => first | exact rfl | assumption); (case kp => (assumption)); (case kd => ktr_room); (case ku => ktr_units)); intro D9 c9 t9 t92 t93 h9 tk9 F9 N9; (try dsimp only); (try k_fold)))
set_option maxRecDepth 100000 in
set_option maxHeartbeats 8000000 in
theorem c_fromiso {w : World} {mean : ExcName → Option Value} {mg mb : Str → Option Value} (jd : Int) (tjd : Tok) {y k Y W Z : Int} (hpre : IsDay jd y k ∧ 1 ≤ y ∧ y ≤ 9999 ∧ IsIso jd Y W Z) 
    {dp un : Nat} {gd : Option (List Code)} {cn : Str} {cs : Scope} {a₀ : Addr} {ccd : Value} {cl : List (Str × Addr)} {outer : List Env} {A₀ : Around} {base h₀ : Heap} {L : Addr} {m : Str → Option Value} {news : List (Addr × Obj)} {s : Shared} {Q E : Value → Shared → Prop}
    (B : Below A₀ base outer h₀) (F : Fr h₀ L s.heap m) (X : (hd.heap_39 w.params).In h₀) (N : News h₀ L s.heap news) (T : Top hd.view_39 loose1 mean mg mb h₀) (hk : cs.kind = .function) (hd₁ : dp + 12 < recursionLimit) (hu₁ : un + 90 < cLine)
    (hret : ∀ (D : Addr) (c : Nat) (t t2 t3 : Tok) (h' : Heap) (tk' : Nat), Fr h₀ L h' m → News h₀ L h' ((D, ({ cls := .type "tuple", data := .seq #[.int (Y) t, .int (W) t2, .int (Z) t3] c } : Obj)) :: news) → Q (.ref D) { s with heap := h', toks := tk' }) :
    wpAny (model PySem.Challenge.rw_ah0012_01.row.prog w) (ktrTop dp un gd cn cs L a₀ ccd cl outer) (call (.ref 114) [.int jd tjd]) Q E s := by
  revert X; k_fill; intro X
  w_strict (
    refine wpAny_call ?_
    k_dflt cell_enter
    obtain ⟨hday, hy1, hy2, hiso⟩ := hpre
    have hG := greg_of hday hy1 hy2 hiso
    k_steps
    all_goals (
      refine' ret_tup hret ⟨rfl, rfl, rfl⟩ ?e2 (cb_drop ?e3 ?e4)
      (case e2 => k_asm)
      (case e3 => assumption)
      (case e4 => kcj_all))
)
local macro_rules | `(tactic| walk_at "call ref") => `(tactic| (k_here; (with_reducible show wpAny _ _ (call (Value.ref 114) [Value.int _ _]) _ _ _); k_dflt (refine' c_fromiso _ _ ?kp ?k1 ?k2 ?k3 ?k4 ?k5 ?kK ?kd ?ku ?_; (case k1 => k_asm); (case k2 => k_asm); (case k3 => k_asm); (case k4 => k_asm); (case k5 => k_asm); (case kK => first | exact rfl | assumption); (case kp => (first | assumption | exact ⟨day400 (by assumption), by omega, by omega, iso400 (by assumption)⟩)); (case kd => ktr_room); (case ku => ktr_units)); intro D9 c9 t9 t92 t93 h9 tk9 F9 N9; (try dsimp only); (try k_fold)))
section
variable {prog : Program} {w : World} {A : Around} {E : Value → Shared → Prop} {s : Shared} {env : Env} {h₀ : Heap} {x : Str} {body : List Stmt} {Q : Flow → Shared → Prop}
def YrEnd (h₀ : Heap) (L : Addr) (J : (Str → Option Value) → Prop) (need : List (Addr × Obj)) (s₁ s₂ : Shared) : Prop :=
  ∃ h' tk m' news', s₂ = { s₁ with heap := h', toks := tk } ∧ Fr h₀ L h' m' ∧ News h₀ L h' news' ∧ (∀ p ∈ need, p ∈ news') ∧ J m'
def YrPost (h₀ : Heap) (L : Addr) (J : (Str → Option Value) → Prop) (need : List (Addr × Obj)) (s₁ : Shared) (Q : Flow → Shared → Prop) (f : Flow) (s₂ : Shared) : Prop :=
  match f with
  | .ret v => Q (.ret v) s₂
  | .brk => Q .next s₂
  | _ => YrEnd h₀ L J need s₁ s₂
theorem YrEnd.intro {L : Addr} {J : (Str → Option Value) → Prop} {m' : Str → Option Value} {need news' : List (Addr × Obj)} {s₁ : Shared} {h' : Heap} {tk : Nat} (F : Fr h₀ L h' m') (N : News h₀ L h' news') (hn : ∀ p ∈ need, p ∈ news')
    (hj : J m') : YrEnd h₀ L J need s₁ { s₁ with heap := h', toks := tk } := ⟨h', tk, m', news', rfl, F, N, hn, hj⟩
/-- a loop over a range by ones, of whatever size its ends are, by an invariant over the frame -/
theorem iter_range {r : Addr} {a₀ : Int} {n : Nat} {t₀ u₀ v₀ : Tok} {m₀ : Str → Option Value} {news : List (Addr × Obj)} (J : Nat → (Str → Option Value) → Prop)
    (hh : A.handled = none) (hr : IsRange s.heap r a₀ (a₀ + n) 1 t₀ u₀ v₀) (F : Fr h₀ env.locals s.heap m₀) (N : News h₀ env.locals s.heap news) (hj : J 0 m₀)
    (turn : ∀ i I o t m₁ h tk, i < n → J i m₁ → Fr h₀ env.locals h (fun y => if y = x then some (.int (a₀ + (i : Nat)) t) else m₁ y) → News h₀ env.locals h ((I, o) :: news) →
      wpAny (model prog w) A (execs body env) (YrPost h₀ env.locals (J (i + 1)) ((I, o) :: news) { s with heap := h, toks := tk } Q) E { s with heap := h, toks := tk })
    (done : ∀ m₁ h tk, J n m₁ → Fr h₀ env.locals h m₁ → News h₀ env.locals h news → Q .next { s with heap := h, toks := tk }) :
    wpAny (model prog w) A (pyIter (.ref r)) (fun it s₂ => LoopAtV prog w A h₀ env x body Q E it s₂) E s := by
  have hn : Builtin.Range.rangeSize a₀ (a₀ + n) 1 = (n : Int) := by
    unfold Builtin.Range.rangeSize
    rw [if_pos (by decide)]
    split
    · rw [Int.ediv_one]; omega
    · omega
  have core : ∀ (ito : Obj) (St : Nat → Heap → Prop), ito.isFreed = false → Walks prog w A s.heap.objs.size [s.heap.objs.size] [s.heap.objs.size] n (fun i v => ∃ t, v = .int (a₀ + i * 1) t) St → (∀ i h, St i h → ∃ o, h.get? s.heap.objs.size = some o) → St 0 (s.heap.push ito) →
      LoopAtV prog w A h₀ env x body Q E (.ref s.heap.objs.size) { s with heap := s.heap.push ito } := by
    intro ito St hfree W hlive hst
    let J' : Nat → (Str → Option Value) → List (Addr × Obj) → Prop := fun i m₁ news₁ => news₁ = news ∧ J i m₁
    refine ⟨_, _, _, n, _, _, m₀, news, J', rfl, W, ?_, ?_, ?_, hst, F.push _, (fun p hp => ⟨Heap.get?_push_of_some _ (N p hp).1, (N p hp).2⟩), ⟨rfl, hj⟩, ?_, ?_⟩
    · intro hm
      exact absurd F.ns.lt ((List.mem_singleton.mp hm) ▸ Nat.lt_irrefl _)
    · intro b hb
      rw [List.mem_singleton.mp hb]
      exact next_is_new F
    · intro p hp hI
      exact absurd (Heap.lt_size (N p hp).1) ((List.mem_singleton.mp hI) ▸ Nat.lt_irrefl _)
    · rintro i v m₁ news₁ s₁ own ⟨hh', tk', rfl⟩ hin ⟨t, rfl⟩ ⟨rfl, hJ⟩ hoff hown hval hall hst₁ F₁ N₁
      obtain ⟨o, ho⟩ := hlive _ _ hst₁
      have hmem : (s.heap.objs.size, o) ∈ own := hall _ (List.mem_singleton.mpr rfl) (next_is_new F) o ho
      have ei : a₀ + (i : Int) * 1 = a₀ + (i : Nat) := by omega
      rw [ei] at F₁
      have N₂ : News h₀ env.locals hh' ((s.heap.objs.size, o) :: news₁) := fun p hp => by
        rcases List.mem_cons.mp hp with rfl | hp
        · exact N₁ _ (List.mem_append_left _ hmem)
        · exact N₁ _ (List.mem_append_right _ hp)
      refine wpAny_mono (turn i _ o t m₁ hh' tk' hin hJ F₁ N₂) (fun f s₂ p => ?_) fun _ _ e => e
      have fin : YrEnd h₀ env.locals (J (i + 1)) ((s.heap.objs.size, o) :: news₁) { s with heap := hh', toks := tk' } s₂ → LoopStepU h₀ env.locals [s.heap.objs.size] own (J' (i + 1)) { s with heap := hh', toks := tk' } .next s₂ := by
        rintro ⟨h', tk, m', news', e, F', N', hn', hm⟩
        refine ⟨rfl, h', tk, m', news₁, e, F', fun p hp => ?_, hoff, rfl, hm⟩
        rcases List.mem_append.mp hp with hp | hp
        · have e1 : p.1 = s.heap.objs.size := List.mem_singleton.mp (hown p hp)
          have e2 : hh'.get? p.1 = some p.2 := hval p hp
          have e3 : p = (s.heap.objs.size, o) := by
            obtain ⟨pa, po⟩ := p
            have e1' : pa = s.heap.objs.size := e1
            subst e1'
            have e2' : hh'.get? s.heap.objs.size = some po := e2
            rw [ho] at e2'
            rw [Option.some.inj e2']
          rw [e3]
          exact N' _ (hn' _ (List.mem_cons_self ..))
        · exact N' _ (hn' _ (List.mem_cons_of_mem _ hp))
      cases f with
      | ret v => exact .ret p
      | brk => exact .brk p
      | next => exact .next (fin p)
      | cont => exact .cont (fin p)
    · rintro h' tk m' news' F' N' _ ⟨rfl, hJ⟩
      exact done m' h' tk hJ F' N'
  by_cases hsm : Builtin.Range.small a₀ (a₀ + n) 1 = true
  · exact wpAny_pyIter_range hr hsm (core _ _ rfl (Walks.range hh _ a₀ 1 n) (fun _ _ st => ⟨_, st⟩) (by show IsRangeIter _ _ _ _ _; rw [hn]; simpa using Heap.get?_push_size _ rfl))
  · exact wpAny_pyIter_longrange hr (by simpa using hsm) (core _ _ rfl (Walks.longrange hh _ a₀ 1 n) (fun _ _ st => ⟨_, st⟩) (by show IsLongIter _ _ _ _ _; rw [hn]; simpa using Heap.get?_push_size _ rfl))
/-- the frame between two years -/
def yrM (m₀ : Str → Option Value) (ot ma we la : Str) (u1 u2 : Option Value) (W : Int) (tw : Tok) (lv : Option Value) : Str → Option Value :=
  fun y => if y = ot then u1 else if y = ma then u2 else if y = we then some (.int W tw) else if y = la then lv else m₀ y
/-- what a turn leaves -/
def YrNext (m₀ : Str → Option Value) (ot ma we la : Str) (k W : Int) (lv : Option Value) (m' : Str → Option Value) : Prop :=
  (∃ tw, m' we = some (.int (W + wkF k) tw)) ∧ ((wkF k = 53 ∧ ∃ t, m' la = some (.int k t)) ∨ (wkF k = 52 ∧ m' la = lv)) ∧ ∀ y, y ≠ ot → y ≠ ma → y ≠ we → y ≠ la → m' y = m₀ y
def YrInv (m₀ : Str → Option Value) (ot ma we la : Str) (a₀ : Int) (i : Nat) (m : Str → Option Value) : Prop :=
  ∃ u1 u2 tw lv, m = yrM m₀ ot ma we la u1 u2 (sumF a₀ i) tw lv ∧ ((lastO a₀ i = none ∧ lv = some .none) ∨ ∃ l t, lastO a₀ i = some l ∧ lv = some (.int l t))
theorem yrM_of {m₀ m' : Str → Option Value} {ot ma we la : Str} {W : Int} {tw : Tok} (h1 : m' we = some (.int W tw)) (h2 : ∀ y, y ≠ ot → y ≠ ma → y ≠ we → y ≠ la → m' y = m₀ y) :
    m' = yrM m₀ ot ma we la (m' ot) (m' ma) W tw (m' la) := by
  funext y
  unfold yrM
  by_cases c1 : y = ot
  · rw [if_pos c1, c1]
  · rw [if_neg c1]
    by_cases c2 : y = ma
    · rw [if_pos c2, c2]
    · rw [if_neg c2]
      by_cases c3 : y = we
      · rw [if_pos c3, c3, h1]
      · rw [if_neg c3]
        by_cases c4 : y = la
        · rw [if_pos c4, c4]
        · rw [if_neg c4, h2 y c1 c2 c3 c4]
theorem yr_step {m₀ m' : Str → Option Value} {ot ma we la : Str} {a₀ : Int} {i : Nat} {lv : Option Value} (hl : (lastO a₀ i = none ∧ lv = some .none) ∨ ∃ l t, lastO a₀ i = some l ∧ lv = some (.int l t))
    (h : YrNext m₀ ot ma we la (a₀ + (i : Nat)) (sumF a₀ i) lv m') : YrInv m₀ ot ma we la a₀ (i + 1) m' := by
  obtain ⟨⟨tw, h1⟩, h2, h3⟩ := h
  refine ⟨m' ot, m' ma, tw, m' la, yrM_of h1 h3, ?_⟩
  rcases h2 with ⟨c, t, h2⟩ | ⟨c, h2⟩
  · right
    refine ⟨_, t, ?_, h2⟩
    unfold lastO
    rw [if_pos c]
  · have e : lastO a₀ (i + 1) = lastO a₀ i := by
      conv => lhs; unfold lastO
      rw [if_neg (by omega)]
    rw [e, h2]
    exact hl
theorem iter_law {r : Addr} {a₀ b₀ : Int} {t₀ u₀ v₀ : Tok} {m₀ : Str → Option Value} {news : List (Addr × Obj)} (ma we la : Str) {tw₀ : Tok}
    (hh : A.handled = none) (F : Fr h₀ env.locals s.heap m₀) (N : News h₀ env.locals s.heap news) (hr : IsRange s.heap r a₀ b₀ 1 t₀ u₀ v₀) (hb : b₀ = a₀ + (400 : Nat)) (hw : m₀ we = some (.int 0 tw₀)) (hl : m₀ la = some .none)
    (turnN : ∀ (k W : Int) (I : Addr) (o : Obj) (t tw : Tok) (u1 u2 : Option Value) (h : Heap) (tk : Nat), wkF k = 52 ∨ wkF k = 53 → Fr h₀ env.locals h (fun y => if y = x then some (.int k t) else yrM m₀ x ma we la u1 u2 W tw (some .none) y) → News h₀ env.locals h ((I, o) :: news) →
      wpAny (model prog w) A (execs body env) (YrPost h₀ env.locals (YrNext m₀ x ma we la k W (some .none)) ((I, o) :: news) { s with heap := h, toks := tk } Q) E { s with heap := h, toks := tk })
    (turnI : ∀ (k W l : Int) (I : Addr) (o : Obj) (t tw tl : Tok) (u1 u2 : Option Value) (h : Heap) (tk : Nat), wkF k = 52 ∨ wkF k = 53 → wkF k = 52 ∨ (5 ≤ k - l ∧ k - l ≤ 7) → Fr h₀ env.locals h (fun y => if y = x then some (.int k t) else yrM m₀ x ma we la u1 u2 W tw (some (.int l tl)) y) → News h₀ env.locals h ((I, o) :: news) →
      wpAny (model prog w) A (execs body env) (YrPost h₀ env.locals (YrNext m₀ x ma we la k W (some (.int l tl))) ((I, o) :: news) { s with heap := h, toks := tk } Q) E { s with heap := h, toks := tk })
    (done : ∀ (u1 u2 lv : Option Value) (tw : Tok) (h : Heap) (tk : Nat), Fr h₀ env.locals h (yrM m₀ x ma we la u1 u2 20871 tw lv) → News h₀ env.locals h news → Q .next { s with heap := h, toks := tk }) :
    wpAny (model prog w) A (pyIter (.ref r)) (fun it s₂ => LoopAtV prog w A h₀ env x body Q E it s₂) E s := by
  subst hb
  have post : ∀ {a : Int} {i : Nat} {lv : Option Value} {need : List (Addr × Obj)} {s₁ : Shared} {f : Flow} {s₂ : Shared}, ((lastO a i = none ∧ lv = some .none) ∨ ∃ l t, lastO a i = some l ∧ lv = some (.int l t)) →
      YrPost h₀ env.locals (YrNext m₀ x ma we la (a + (i : Nat)) (sumF a i) lv) need s₁ Q f s₂ → YrPost h₀ env.locals (YrInv m₀ x ma we la a (i + 1)) need s₁ Q f s₂ := by
    intro a i lv need s₁ f s₂ hlv hp
    have up : YrEnd h₀ env.locals (YrNext m₀ x ma we la (a + (i : Nat)) (sumF a i) lv) need s₁ s₂ → YrEnd h₀ env.locals (YrInv m₀ x ma we la a (i + 1)) need s₁ s₂ := by
      rintro ⟨h', tk, m', news', e, F', N', hn', hm⟩
      exact ⟨h', tk, m', news', e, F', N', hn', yr_step hlv hm⟩
    cases f with
    | ret v => exact hp
    | brk => exact hp
    | next => exact up hp
    | cont => exact up hp
  refine iter_range (YrInv m₀ x ma we la a₀) hh hr F N ⟨m₀ x, m₀ ma, tw₀, m₀ la, yrM_of hw (fun _ _ _ _ _ => rfl), .inl ⟨rfl, hl⟩⟩ ?_ ?_
  · rintro i I o t m₁ h tk hi ⟨u1, u2, tw, lv, rfl, hlv⟩ F₁ N₁
    have hcase := hlv
    rcases hlv with ⟨hn, rfl⟩ | ⟨l, tl, hn, rfl⟩
    · exact wpAny_mono (turnN _ _ I o t tw u1 u2 h tk (wk_two _) F₁ N₁) (fun f s₂ p => post hcase p) fun _ _ e => e
    · exact wpAny_mono (turnI _ _ l I o t tw tl u1 u2 h tk (wk_two _) (gap_ok a₀ i l hn) F₁ N₁) (fun f s₂ p => post hcase p) fun _ _ e => e
  · rintro m₁ h tk ⟨u1, u2, tw, lv, rfl, _⟩ F₁ N₁
    rw [sum_400] at F₁
    exact done u1 u2 lv tw h tk F₁ N₁
theorem notin_5253 {t : Addr} {items : Array Value} {y : Int} {u : Tok} {Q : Value → Shared → Prop} (ht : IsTup s.heap t items) (hi : IntsAre items.toList [52, 53]) (hy : y = 52 ∨ y = 53)
    (h : Q (.bool false) s) : wpAny (model prog w) A (compareOp .NotIn (.int y u) (.ref t)) Q E s := by
  refine notin_tuple_ints ht hi ?_
  have e : (!([52, 53] : List Int).any (· == y)) = false := by rcases hy with rfl | rfl <;> rfl
  rw [e]; exact h
end
theorem c_day {w : World} {mean : ExcName → Option Value} {mg mb : Str → Option Value} (v0 v1 : Int) (tjd : Tok)
    {dp un : Nat} {gd : Option (List Code)} {cn : Str} {cs : Scope} {a₀ : Addr} {ccd : Value} {cl : List (Str × Addr)} {outer : List Env} {A₀ : Around} {base h₀ : Heap} {L : Addr} {m : Str → Option Value} {news : List (Addr × Obj)} {s : Shared} {Q E : Value → Shared → Prop}
    (B : Below A₀ base outer h₀) (F : Fr h₀ L s.heap m) (X : (hd.heap_39 w.params).In h₀) (N : News h₀ L s.heap news) (T : Top hd.view_39 loose1 mean mg mb h₀) (hk : cs.kind = .function) (hd₁ : dp + 12 < recursionLimit) (hu₁ : un + 90 < cLine)
    (hret : ∀ (y k Y W Z : Int), IsDay (jdF (1 + v0.fmod 9598) 1 1 + v1.fmod 366) y k → 1 ≤ y → y ≤ 9599 → IsIso (jdF (1 + v0.fmod 9598) 1 1 + v1.fmod 366) Y W Z → 1 ≤ W →
      isoJdF Y W Z = jdF (1 + v0.fmod 9598) 1 1 + v1.fmod 366 → isoJdF (Y + 400) W Z = jdF (1 + v0.fmod 9598) 1 1 + v1.fmod 366 + 146097 →
      ∀ (D : Addr) (c : Nat) (t t2 t3 : Tok) (h' : Heap) (tk' : Nat), Fr h₀ L h' m → News h₀ L h' ((D, ({ cls := .type "tuple", data := .seq #[.int Y t, .int W t2, .int Z t3] c } : Obj)) :: news) → Q (.ref D) { s with heap := h', toks := tk' }) :
    wpAny (model PySem.Challenge.rw_ah0012_01.row.prog w) (ktrTop dp un gd cn cs L a₀ ccd cl outer) (call (.ref 114) [.int (jdF (1 + v0.fmod 9598) 1 1 + v1.fmod 366) tjd]) Q E s := by
  obtain ⟨y, k, Y, W, Z, hday, h1, h2, hiso⟩ := day_exists v0 v1
  have h400 := iso400 hiso
  exact c_fromiso _ _ ⟨hday, h1, by omega, hiso⟩ B F X N T hk hd₁ hu₁ (hret y k Y W Z hday h1 h2 hiso hiso.2.2.2.1 ((isoJd_eq Y W Z).trans hiso.1.symm) ((isoJd_eq (Y + 400) W Z).trans h400.1.symm))
local macro_rules | `(tactic| walk_at "call ref") => `(tactic| (k_here; (with_reducible show wpAny _ _ (call (Value.ref 114) [Value.int (jdF (1 + Int.fmod _ 9598) 1 1 + Int.fmod _ 366) _]) _ _ _); k_dflt (refine' c_day _ _ _ ?k1 ?k2 ?k3 ?k4 ?k5 ?kK ?kd ?ku ?_; (case k1 => k_asm); (case k2 => k_asm); (case k3 => k_asm); (case k4 => k_asm); (case k5 => k_asm); (case kK => first | exact rfl | assumption); (case kd => ktr_room); (case ku => ktr_units)); intro y9 k9 Y9 W9 Z9 hday9 hy91 hy92 hiso9 hW9 hj9 hj99 D9 c9 t9 t92 t93 h9 tk9 F9 N9; (try dsimp only); (try k_fold)))
local macro_rules | `(tactic| walk_at "compareOp NotIn int ref") => `(tactic| (k_here; (with_reducible show wpAny _ _ (compareOp CmpOp.NotIn (Value.int (wkF _) _) (Value.ref _)) _ _ _); k_dflt (refine' notin_5253 ?k1 ?k2 ?k3 ?_; (case k1 => exact News.isTup (by k_asm) (by k_mem)); (case k2 => repeat constructor); (case k3 => assumption)); (try dsimp only)))
local macro_rules | `(tactic| walk_at "exec For Name Call cons nil") => `(tactic| (k_here; (rename Fr _ _ _ _ => lF'); (with_unfolding_all refine' For_invVF lF' ?k1 ?k2 ?_; (case k1 => exact rfl); (case k2 => exact rfl); k_whole)))
local macro_rules | `(tactic| walk_at "pyIter ref") => `(tactic| (k_here; (with_reducible show wpAny _ _ (pyIter (Value.ref _)) (fun it s₂ => LoopAtV _ _ _ _ _ _ _ _ _ it s₂) _ _); (rename IsRange _ _ _ _ _ _ _ _ => rgX); k_dflt (refine' iter_law (Str.ofString "many") (Str.ofString "weeks") (Str.ofString "last") ?k1 ?k2 ?k3 ?k4 ?k5 ?k6 ?k7 ?_ ?_ ?_; (case k2 => k_asm); (case k3 => k_asm); (case k1 => exact rfl); (case k4 => first | exact rgX | assumption); (case k5 => omega); (case k6 => exact rfl); (case k7 => exact rfl)); (intro k' W' I' o' t' tw' u1' u2' h' tk' hk' F' N'); (dsimp only [yrM] at F'); (try dsimp only); rotate_left; (intro k' W' l' I' o' t' tw' tl' u1' u2' h' tk' hk' hg' F' N'); (dsimp only [yrM] at F'); (try dsimp only); rotate_left; (intro u1' u2' lv' tw' h' tk' F' N'); (dsimp only [yrM] at F'); (try dsimp only); rotate_left))
local macro_rules | `(tactic| walk_at "YrPost") => `(tactic| (dsimp only [YrPost]))
local macro_rules | `(tactic| walk_at "YrEnd") => `(tactic| (k_dflt (refine' YrEnd.intro ?F ?N ?n ?j; (case F => k_asm); (case N => k_asm); (case n => kcj_all); (case j => (refine ⟨⟨_, rfl⟩, ?_, ?_⟩; (first | exact Or.inl ⟨by assumption, _, rfl⟩ | exact Or.inr ⟨by omega, rfl⟩); (intro y9 g1 g2 g3 g4; simp only [g1, g2, g3, g4, if_false]))))))
set_option maxRecDepth 100000 in
set_option maxHeartbeats 8000000 in
theorem holds : PySem.Challenge.rw_ah0012_01.Holds := hd (by
  w_strict (
    k_go0
    (all_goals try k_fold)
    k_steps
    (all_goals (try k_data))
    all_goals w_report))
end Mine
theorem PySem.Challenge.cw_ah0012_01_holds : PySem.Challenge.rw_ah0012_01.Holds :=
  Mine.holds

