import PyProof.Rows.All
import Wide.All
import OpenK.AllK
import Wide.FinOn
import Lean
import PySem.Challenge.RW_ak5007_01

set_option Elab.async false
set_option maxRecDepth 100000
set_option maxHeartbeats 4000000

/-! part Hd -/
section
open PySem PySem.W PyProof.Rows PySem.Calls
namespace Mine
set_option maxRecDepth 100000 in
set_option maxHeartbeats 8000000 in
open_top hd for PySem.Challenge.rw_ak5007_01
end Mine
end

/-! part Pl -/
section
namespace Mine
def leapB (y : Int) : Bool := decide (y % 4 = 0 ∧ (y % 100 ≠ 0 ∨ y % 400 = 0))
def ladj (y m : Int) : Int := if m ≤ 2 then 0 else if leapB y = true then -1 else -2
/-- the number of the day: its midnight is gj - 1/2 -/
def gj (y m d : Int) : Int := 1721425 + 365 * (y - 1) + (y - 1) / 4 - (y - 1) / 100 + (y - 1) / 400 + ((367 * m - 362) / 12 + ladj y m + d)
def dim (y m : Int) : Int := if m = 2 then (if leapB y = true then 29 else 28) else if m = 4 ∨ m = 6 ∨ m = 9 ∨ m = 11 then 30 else 31
def okDate (y m d : Int) : Prop := 1 ≤ m ∧ m ≤ 12 ∧ 1 ≤ d ∧ d ≤ dim y m
def lp (y : Int) : Int := if leapB y = true then 1 else 0
theorem lp_cases (y : Int) : (leapB y = true ∧ lp y = 1) ∨ (leapB y = false ∧ lp y = 0) := by
  unfold lp
  cases h : leapB y <;> simp
theorem leapB_iff (y : Int) : leapB y = true ↔ (y % 4 = 0 ∧ (y % 100 ≠ 0 ∨ y % 400 = 0)) := by unfold leapB; exact decide_eq_true_iff
theorem lp_split (y : Int) : (lp y = 1 ∧ y % 4 = 0 ∧ (y % 100 ≠ 0 ∨ y % 400 = 0)) ∨ (lp y = 0 ∧ ¬ (y % 4 = 0 ∧ (y % 100 ≠ 0 ∨ y % 400 = 0))) := by
  rcases lp_cases y with ⟨h, e⟩ | ⟨h, e⟩
  · exact .inl ⟨e, (leapB_iff y).mp h⟩
  · refine .inr ⟨e, fun c => ?_⟩
    rw [(leapB_iff y).mpr c] at h
    cases h
/-- the day within the year -/
def yday (y m d : Int) : Int := (367 * m - 362) / 12 + ladj y m + d - 1
theorem gj_yday (y m d : Int) : gj y m d = gj y 1 1 + yday y m d := by
  unfold gj yday
  have : ladj y 1 = 0 := by unfold ladj; simp
  rw [this]
  omega
theorem gj_day (y m d : Int) : gj y m d = gj y m 1 + d - 1 := by unfold gj; omega
theorem gj_first (y : Int) : gj y 1 1 = 1721426 + 365 * (y - 1) + (y - 1) / 4 - (y - 1) / 100 + (y - 1) / 400 := by
  unfold gj
  have : ladj y 1 = 0 := by unfold ladj; simp
  rw [this]
  omega
theorem ladj_eq (y m : Int) (h : 2 < m) : ladj y m = lp y - 2 := by
  unfold ladj lp
  rw [if_neg (by omega)]
  split <;> omega
theorem ladj_lo (y m : Int) (h : m ≤ 2) : ladj y m = 0 := by unfold ladj; rw [if_pos h]
theorem m_cases {m : Int} (h1 : 1 ≤ m) (h2 : m ≤ 12) : m = 1 ∨ m = 2 ∨ m = 3 ∨ m = 4 ∨ m = 5 ∨ m = 6 ∨ m = 7 ∨ m = 8 ∨ m = 9 ∨ m = 10 ∨ m = 11 ∨ m = 12 := by omega
theorem dim_eq (y m : Int) : dim y m = if m = 2 then 28 + lp y else if m = 4 ∨ m = 6 ∨ m = 9 ∨ m = 11 then 30 else 31 := by
  unfold dim lp
  split
  · split <;> rfl
  · rfl
theorem dim_facts (y m : Int) : (m = 2 → dim y m = 28 + lp y) ∧ (m = 4 ∨ m = 6 ∨ m = 9 ∨ m = 11 → dim y m = 30) ∧ (¬ (m = 2 ∨ m = 4 ∨ m = 6 ∨ m = 9 ∨ m = 11) → dim y m = 31) := by
  rw [dim_eq]
  refine ⟨fun h => by rw [if_pos h], fun h => by rw [if_neg (by omega), if_pos h], fun h => by rw [if_neg (by omega), if_neg (by omega)]⟩
/-- a month and a day told back from the day within the year -/
theorem yday_back {y m d : Int} (h : okDate y m d) : 0 ≤ yday y m d ∧ yday y m d ≤ 364 + lp y ∧
    (yday y m d < 58 + lp y → (yday y m d * 12 + 373) / 367 = m) ∧
    (¬ yday y m d < 58 + lp y → lp y = 1 → ((yday y m d + 1) * 12 + 373) / 367 = m) ∧
    (¬ yday y m d < 58 + lp y → lp y = 0 → ((yday y m d + 2) * 12 + 373) / 367 = m) := by
  obtain ⟨h1, h2, h3, h4⟩ := h
  have hdf := dim_facts y m
  unfold yday
  have hl : lp y = 0 ∨ lp y = 1 := by rcases lp_cases y with h | h <;> omega
  rcases m_cases h1 h2 with rfl | rfl | rfl | rfl | rfl | rfl | rfl | rfl | rfl | rfl | rfl | rfl
  · rw [ladj_lo y 1 (by decide)]; omega
  · rw [ladj_lo y 2 (by decide)]; omega
  all_goals (rw [ladj_eq y _ (by decide)]; omega)
/-- how from_jd finds the year -/
theorem year_back {y m d : Int} (h : okDate y m d) : ∃ A R1 Cn R2 Qd R3 Yi : Int,
    gj y m d - 1721426 = 146097 * A + R1 ∧ 0 ≤ R1 ∧ R1 < 146097 ∧ R1 = 36524 * Cn + R2 ∧ 0 ≤ R2 ∧ R2 < 36524 ∧ R2 = 1461 * Qd + R3 ∧ 0 ≤ R3 ∧ R3 < 1461 ∧ 365 * Yi ≤ R3 ∧ R3 < 365 * Yi + 365 ∧
    (Cn = 4 ∨ Yi = 4 → A * 400 + Cn * 100 + Qd * 4 + Yi = y) ∧ (¬ (Cn = 4 ∨ Yi = 4) → A * 400 + Cn * 100 + Qd * 4 + Yi + 1 = y) := by
  have hb := yday_back h
  have h0 := hb.1
  have h1 := hb.2.1
  clear hb
  have hg := gj_yday y m d
  rw [gj_first] at hg
  have hs := lp_split y
  generalize yday y m d = yd at *
  generalize gj y m d = g at *
  generalize lp y = l at *
  have ea : y - 1 = 400 * ((y - 1) / 400) + 100 * ((y - 1) % 400 / 100) + 4 * ((y - 1) % 100 / 4) + (y - 1) % 4 := by omega
  generalize (y - 1) / 400 = a at *
  have hb0 : 0 ≤ (y - 1) % 400 / 100 ∧ (y - 1) % 400 / 100 ≤ 3 := by omega
  have hc0 : 0 ≤ (y - 1) % 100 / 4 ∧ (y - 1) % 100 / 4 ≤ 24 := by omega
  have he0 : 0 ≤ (y - 1) % 4 ∧ (y - 1) % 4 ≤ 3 := by omega
  generalize (y - 1) % 400 / 100 = b at *
  generalize (y - 1) % 100 / 4 = c at *
  generalize (y - 1) % 4 = e at *
  have hy : y = 400 * a + 100 * b + 4 * c + e + 1 := by omega
  subst hy
  have hN : g - 1721426 = 146097 * a + (36524 * b + 1461 * c + 365 * e + yd) := by omega
  have hl : l = 1 ↔ (e = 3 ∧ (c ≠ 24 ∨ b = 3)) := by omega
  have hl' : l = 0 ∨ l = 1 := by omega
  clear hs hg ea
  have hR1 : 36524 * b + 1461 * c + 365 * e + yd < 146097 := by omega
  refine ⟨a, 36524 * b + 1461 * c + 365 * e + yd, (36524 * b + 1461 * c + 365 * e + yd) / 36524, (36524 * b + 1461 * c + 365 * e + yd) % 36524, (36524 * b + 1461 * c + 365 * e + yd) % 36524 / 1461, (36524 * b + 1461 * c + 365 * e + yd) % 36524 % 1461, (36524 * b + 1461 * c + 365 * e + yd) % 36524 % 1461 / 365, hN, by omega, hR1, by omega, by omega, by omega, by omega, by omega, by omega, by omega, by omega, ?_⟩
  by_cases hcase : b = 3 ∧ c = 24 ∧ e = 3 ∧ yd = 365
  · obtain ⟨rfl, rfl, rfl, rfl⟩ := hcase
    omega
  · have hC : (36524 * b + 1461 * c + 365 * e + yd) / 36524 = b := by omega
    have hR2 : (36524 * b + 1461 * c + 365 * e + yd) % 36524 = 1461 * c + 365 * e + yd := by omega
    rw [hC, hR2]
    have hQ : (1461 * c + 365 * e + yd) / 1461 = c := by omega
    have hR3 : (1461 * c + 365 * e + yd) % 1461 = 365 * e + yd := by omega
    rw [hQ, hR3]
    omega
theorem gj_step (y : Int) : gj y 1 1 + 365 ≤ gj (y + 1) 1 1 ∧ gj (y + 1) 1 1 ≤ gj y 1 1 + 366 := by
  have h1 := gj_first y
  have h2 := gj_first (y + 1)
  omega
theorem gj_next (y : Int) : gj (y + 1) 1 1 = gj y 1 1 + 365 + lp y := by
  have h1 := gj_first y
  have h2 := gj_first (y + 1)
  have h3 := lp_split y
  omega
theorem guess {n Y : Int} (h1 : gj Y 1 1 ≤ n) (h2 : n < gj (Y + 1) 1 1) : Y - 1 ≤ 2000 + (n - 2451545) * 400 / 146097 ∧ 2000 + (n - 2451545) * 400 / 146097 ≤ Y + 1 := by
  have e1 := gj_first Y
  have e2 := gj_first (Y + 1)
  omega
theorem guess_ex {n Y : Int} (h1 : gj Y 1 1 ≤ n) (h2 : n < gj (Y + 1) 1 1) : ∃ g : Int, 2000 + (n - 2451545) * 400 / 146097 = g ∧ Y - 1 ≤ g ∧ g ≤ Y + 1 ∧ (n < gj g 1 1 ↔ g = Y + 1) ∧ (gj (g + 1) 1 1 ≤ n ↔ g = Y - 1) := by
  obtain ⟨a, b⟩ := guess h1 h2
  have s1 := gj_step Y
  have s2 := gj_step (Y - 1)
  have s3 := gj_step (Y + 1)
  have e1 : Y - 1 + 1 = Y := by omega
  rw [e1] at s2
  generalize 2000 + (n - 2451545) * 400 / 146097 = g at *
  refine ⟨g, rfl, a, b, ?_, ?_⟩
  · have : g = Y - 1 ∨ g = Y ∨ g = Y + 1 := by omega
    rcases this with rfl | rfl | rfl <;> omega
  · have : g = Y - 1 ∨ g = Y ∨ g = Y + 1 := by omega
    rcases this with rfl | rfl | rfl
    · rw [e1]; omega
    · omega
    · omega
theorem date_uniq {y m d k dd : Int} (h : okDate y m d) (hk : 1 ≤ k ∧ k ≤ 12) (hd : 1 ≤ dd ∧ dd ≤ dim y k) (e : yday y k dd = yday y m d) : k = m ∧ dd = d := by
  obtain ⟨_, _, a1, a2, a3⟩ := yday_back h
  obtain ⟨_, _, c1, c2, c3⟩ := yday_back (y := y) (m := k) (d := dd) ⟨hk.1, hk.2, hd.1, hd.2⟩
  have hl := lp_cases y
  rw [e] at c1 c2 c3
  have hkm : k = m := by omega
  subst hkm
  refine ⟨rfl, ?_⟩
  unfold yday at e
  omega
theorem dim_1 (y : Int) : dim y 1 = 31 := by have h := dim_facts y 1; omega
theorem yd_1 (y dd : Int) : yday y 1 dd = 0 + dd - 1 := by unfold yday; rw [ladj_lo y _ (by decide)]; omega
theorem dim_2 (y : Int) : dim y 2 = 28 + lp y := (dim_facts y 2).1 rfl
theorem yd_2 (y dd : Int) : yday y 2 dd = 31 + dd - 1 := by unfold yday; rw [ladj_lo y _ (by decide)]; omega
theorem dim_3 (y : Int) : dim y 3 = 31 := by have h := dim_facts y 3; omega
theorem yd_3 (y dd : Int) : yday y 3 dd = 59 + lp y + dd - 1 := by unfold yday; rw [ladj_eq y _ (by decide)]; omega
theorem dim_4 (y : Int) : dim y 4 = 30 := by have h := dim_facts y 4; omega
theorem yd_4 (y dd : Int) : yday y 4 dd = 90 + lp y + dd - 1 := by unfold yday; rw [ladj_eq y _ (by decide)]; omega
theorem dim_5 (y : Int) : dim y 5 = 31 := by have h := dim_facts y 5; omega
theorem yd_5 (y dd : Int) : yday y 5 dd = 120 + lp y + dd - 1 := by unfold yday; rw [ladj_eq y _ (by decide)]; omega
theorem dim_6 (y : Int) : dim y 6 = 30 := by have h := dim_facts y 6; omega
theorem yd_6 (y dd : Int) : yday y 6 dd = 151 + lp y + dd - 1 := by unfold yday; rw [ladj_eq y _ (by decide)]; omega
theorem dim_7 (y : Int) : dim y 7 = 31 := by have h := dim_facts y 7; omega
theorem yd_7 (y dd : Int) : yday y 7 dd = 181 + lp y + dd - 1 := by unfold yday; rw [ladj_eq y _ (by decide)]; omega
theorem dim_8 (y : Int) : dim y 8 = 31 := by have h := dim_facts y 8; omega
theorem yd_8 (y dd : Int) : yday y 8 dd = 212 + lp y + dd - 1 := by unfold yday; rw [ladj_eq y _ (by decide)]; omega
theorem dim_9 (y : Int) : dim y 9 = 30 := by have h := dim_facts y 9; omega
theorem yd_9 (y dd : Int) : yday y 9 dd = 243 + lp y + dd - 1 := by unfold yday; rw [ladj_eq y _ (by decide)]; omega
theorem dim_10 (y : Int) : dim y 10 = 31 := by have h := dim_facts y 10; omega
theorem yd_10 (y dd : Int) : yday y 10 dd = 273 + lp y + dd - 1 := by unfold yday; rw [ladj_eq y _ (by decide)]; omega
theorem dim_11 (y : Int) : dim y 11 = 30 := by have h := dim_facts y 11; omega
theorem yd_11 (y dd : Int) : yday y 11 dd = 304 + lp y + dd - 1 := by unfold yday; rw [ladj_eq y _ (by decide)]; omega
theorem dim_12 (y : Int) : dim y 12 = 31 := by have h := dim_facts y 12; omega
theorem yd_12 (y dd : Int) : yday y 12 dd = 334 + lp y + dd - 1 := by unfold yday; rw [ladj_eq y _ (by decide)]; omega
/-- the day of a week of an ISO year -/
def iso (y k d : Int) : Int := d + 7 * k + gj (y - 1) 12 28 - 1 - gj (y - 1) 12 28 % 7
def wpy (y : Int) : Int := if gj y 1 1 % 7 = 3 ∨ (gj y 1 1 % 7 = 2 ∧ lp y = 1) then 53 else 52
open PySem.Builtin.Time PySem.Builtin._datetime
/-- the Thursday of the day's week -/
def thu (n : Int) : Int := n - n % 7 + 3
/-- the day n is day wd of week k of the year Y -/
structure TellIs (n Y k wd : Int) : Prop where
  lo : gj Y 1 1 ≤ thu n
  hi : thu n < gj (Y + 1) 1 1
  week : k = (thu n - gj Y 1 1) / 7 + 1
  day : wd = n % 7 + 1
theorem gj_mono {a b : Int} (h : a < b) : gj (a + 1) 1 1 ≤ gj b 1 1 := by
  rw [gj_first, gj_first]
  omega
theorem year_uniq {t a b : Int} (h1 : gj a 1 1 ≤ t) (h2 : t < gj (a + 1) 1 1) (h3 : gj b 1 1 ≤ t) (h4 : t < gj (b + 1) 1 1) : a = b := by
  rcases Int.lt_trichotomy a b with h | h | h
  · have := gj_mono h; omega
  · exact h
  · have := gj_mono h; omega
theorem tell_uniq {n a b c a' b' c' : Int} (h : TellIs n a b c) (g : TellIs n a' b' c') : a = a' ∧ b = b' ∧ c = c' := by
  have e := year_uniq h.lo h.hi g.lo g.hi
  subst e
  exact ⟨rfl, h.week.trans g.week.symm, h.day.trans g.day.symm⟩
theorem year_ex (t : Int) : ∃ Y, gj Y 1 1 ≤ t ∧ t < gj (Y + 1) 1 1 := by
  have h1 : gj (2000 + (t - 2451545) * 400 / 146097 - 1) 1 1 ≤ t := by rw [gj_first]; omega
  have h2 : t < gj (2000 + (t - 2451545) * 400 / 146097 - 1 + 3) 1 1 := by rw [gj_first]; omega
  generalize 2000 + (t - 2451545) * 400 / 146097 - 1 = g at *
  by_cases c1 : t < gj (g + 1) 1 1
  · exact ⟨g, h1, c1⟩
  · by_cases c2 : t < gj (g + 2) 1 1
    · exact ⟨g + 1, by omega, by have e : g + 1 + 1 = g + 2 := by omega
                                 rw [e]; exact c2⟩
    · exact ⟨g + 2, by omega, by have e : g + 2 + 1 = g + 3 := by omega
                                 rw [e]; exact h2⟩
theorem okd {y m d : Int} (h1 : 1 ≤ m ∧ m ≤ 12) (h2 : 1 ≤ d ∧ d ≤ dim y m) : okDate y m d := ⟨h1.1, h1.2, h2.1, h2.2⟩
theorem month_ex (y yd : Int) (h : 0 ≤ yd ∧ yd ≤ 364 + lp y) : ∃ m d, okDate y m d ∧ yday y m d = yd := by
  have hl : lp y = 0 ∨ lp y = 1 := by rcases lp_cases y with h | h <;> omega
  by_cases c1 : yd < 31
  · exact ⟨1, yd - 0 + 1, okd (by decide) (by rw [dim_1]; omega), by rw [yd_1]; omega⟩
  by_cases c2 : yd < 59 + lp y
  · exact ⟨2, yd - 31 + 1, okd (by decide) (by rw [dim_2]; omega), by rw [yd_2]; omega⟩
  by_cases c3 : yd < 90 + lp y
  · exact ⟨3, yd - 59 - lp y + 1, okd (by decide) (by rw [dim_3]; omega), by rw [yd_3]; omega⟩
  by_cases c4 : yd < 120 + lp y
  · exact ⟨4, yd - 90 - lp y + 1, okd (by decide) (by rw [dim_4]; omega), by rw [yd_4]; omega⟩
  by_cases c5 : yd < 151 + lp y
  · exact ⟨5, yd - 120 - lp y + 1, okd (by decide) (by rw [dim_5]; omega), by rw [yd_5]; omega⟩
  by_cases c6 : yd < 181 + lp y
  · exact ⟨6, yd - 151 - lp y + 1, okd (by decide) (by rw [dim_6]; omega), by rw [yd_6]; omega⟩
  by_cases c7 : yd < 212 + lp y
  · exact ⟨7, yd - 181 - lp y + 1, okd (by decide) (by rw [dim_7]; omega), by rw [yd_7]; omega⟩
  by_cases c8 : yd < 243 + lp y
  · exact ⟨8, yd - 212 - lp y + 1, okd (by decide) (by rw [dim_8]; omega), by rw [yd_8]; omega⟩
  by_cases c9 : yd < 273 + lp y
  · exact ⟨9, yd - 243 - lp y + 1, okd (by decide) (by rw [dim_9]; omega), by rw [yd_9]; omega⟩
  by_cases c10 : yd < 304 + lp y
  · exact ⟨10, yd - 273 - lp y + 1, okd (by decide) (by rw [dim_10]; omega), by rw [yd_10]; omega⟩
  by_cases c11 : yd < 334 + lp y
  · exact ⟨11, yd - 304 - lp y + 1, okd (by decide) (by rw [dim_11]; omega), by rw [yd_11]; omega⟩
  · exact ⟨12, yd - 334 - lp y + 1, okd (by decide) (by rw [dim_12]; omega), by rw [yd_12]; omega⟩
/-- every day has its date -/
theorem date_ex (n : Int) : ∃ y m d, okDate y m d ∧ gj y m d = n ∧ gj y 1 1 ≤ n ∧ n < gj (y + 1) 1 1 := by
  obtain ⟨y, h1, h2⟩ := year_ex n
  have h3 := gj_next y
  obtain ⟨m, d, h4, h5⟩ := month_ex y (n - gj y 1 1) (by omega)
  exact ⟨y, m, d, h4, by rw [gj_yday, h5]; omega, h1, h2⟩
theorem range_iff {y n : Int} (h1 : gj y 1 1 ≤ n) (h2 : n < gj (y + 1) 1 1) : (1 ≤ y ∧ y ≤ 9999) ↔ (1721426 ≤ n ∧ n ≤ 5373484) := by
  have e1 := gj_first y
  have e2 := gj_first (y + 1)
  omega

/-! the model's calendar -/
theorem leap_model (y : Int) : timeIsLeap y = leapB y := by
  unfold timeIsLeap leapB
  rw [Bool.eq_iff_iff]
  simp
theorem dim_model {y m : Int} (h : 1 ≤ m ∧ m ≤ 12) : daysInMonth y m = dim y m := by
  unfold daysInMonth
  rw [leap_model]
  rcases m_cases h.1 h.2 with rfl | rfl | rfl | rfl | rfl | rfl | rfl | rfl | rfl | rfl | rfl | rfl
  · rw [dim_1]; rfl
  · rw [dim_2]; unfold lp; cases leapB y <;> rfl
  · rw [dim_3]; rfl
  · rw [dim_4]; rfl
  · rw [dim_5]; rfl
  · rw [dim_6]; rfl
  · rw [dim_7]; rfl
  · rw [dim_8]; rfl
  · rw [dim_9]; rfl
  · rw [dim_10]; rfl
  · rw [dim_11]; rfl
  · rw [dim_12]; rfl
theorem before_model {y m d : Int} (h : 1 ≤ m ∧ m ≤ 12) : timeDaysBefore (timeIsLeap y) m = yday y m 1 := by
  unfold timeDaysBefore
  rw [leap_model]
  rcases m_cases h.1 h.2 with rfl | rfl | rfl | rfl | rfl | rfl | rfl | rfl | rfl | rfl | rfl | rfl
  · rw [yd_1]; cases leapB y <;> rfl
  · rw [yd_2]; cases leapB y <;> rfl
  · rw [yd_3]; unfold lp; cases leapB y <;> rfl
  · rw [yd_4]; unfold lp; cases leapB y <;> rfl
  · rw [yd_5]; unfold lp; cases leapB y <;> rfl
  · rw [yd_6]; unfold lp; cases leapB y <;> rfl
  · rw [yd_7]; unfold lp; cases leapB y <;> rfl
  · rw [yd_8]; unfold lp; cases leapB y <;> rfl
  · rw [yd_9]; unfold lp; cases leapB y <;> rfl
  · rw [yd_10]; unfold lp; cases leapB y <;> rfl
  · rw [yd_11]; unfold lp; cases leapB y <;> rfl
  · rw [yd_12]; unfold lp; cases leapB y <;> rfl
theorem ord_model {y m d : Int} (h : 1 ≤ m ∧ m ≤ 12) : toOrdinal y m d = gj y m d - 1721425 := by
  unfold toOrdinal
  simp only []
  rw [before_model (d := d) h, gj_yday, gj_first]
  unfold yday
  omega
theorem monday_model (y : Int) : isoWeek1Monday y = gj y 1 1 + (3 - gj y 1 1) % 7 - 3 - 1721425 := by
  unfold isoWeek1Monday weekdayOf
  simp only []
  rw [ord_model (by decide)]
  split <;> omega
theorem iso_model {y m d : Int} (h : okDate y m d) : TellIs (gj y m d) (isoCalendarOf y m d).1 (isoCalendarOf y m d).2.1 (isoCalendarOf y m d).2.2 := by
  have h0 := yday_back h
  have hg := gj_yday y m d
  have hn := gj_next y
  have hp := gj_next (y - 1)
  have hq := gj_next (y + 1)
  have e1 : y - 1 + 1 = y := by omega
  rw [e1] at hp
  have hl := lp_cases y
  have hl1 := lp_cases (y - 1)
  have hl2 := lp_cases (y + 1)
  have g0 : gj y 1 1 ≤ gj y m d := by omega
  have g1 : gj y m d < gj (y + 1) 1 1 := by omega
  have b0 : 0 ≤ lp y ∧ lp y ≤ 1 := by omega
  have b1 : 0 ≤ lp (y - 1) ∧ lp (y - 1) ≤ 1 := by omega
  have b2 : 0 ≤ lp (y + 1) ∧ lp (y + 1) ≤ 1 := by omega
  clear h0 hg hl hl1 hl2
  unfold isoCalendarOf
  simp only []
  rw [ord_model ⟨h.1, h.2.1⟩, monday_model, monday_model, monday_model, Int.fdiv_eq_ediv_of_nonneg _ (by decide), Int.fdiv_eq_ediv_of_nonneg _ (by decide), Int.fmod_eq_emod_of_nonneg _ (by decide)]
  generalize gj y m d = n at *
  split
  · exact ⟨by unfold thu; simp only []; omega, by unfold thu; simp only []; rw [e1]; omega, by unfold thu; simp only []; omega, by simp only []; omega⟩
  · split
    · rename_i c1 c2
      simp only [Bool.and_eq_true, decide_eq_true_eq] at c2
      exact ⟨by unfold thu; simp only []; omega, by unfold thu; simp only []; omega, by unfold thu; simp only []; omega, by simp only []; omega⟩
    · rename_i c1 c2
      simp only [Bool.and_eq_true, decide_eq_true_eq, not_and] at c2
      exact ⟨by unfold thu; simp only []; omega, by unfold thu; simp only []; omega, by unfold thu; simp only []; omega, by simp only []; omega⟩

/-! weeks -/
/-- the first Thursday of a year -/
def thu1 (y : Int) : Int := gj y 1 1 + (3 - gj y 1 1) % 7
theorem tell_back {n Y k wd : Int} (h : TellIs n Y k wd) : thu1 Y - 3 + 7 * (k - 1) + wd - 1 = n ∧ 1 ≤ k ∧ k ≤ 53 ∧ 1 ≤ wd ∧ wd ≤ 7 := by
  obtain ⟨h1, h2, h3, h4⟩ := h
  have hn := gj_next Y
  have hl := lp_cases Y
  unfold thu thu1 at *
  omega
theorem tell_of {n y k d : Int} (hk : 1 ≤ k ∧ k ≤ (gj (y + 1) 1 1 - 1 - thu1 y) / 7 + 1) (hd : 1 ≤ d ∧ d ≤ 7) (hn : n = thu1 y - 3 + 7 * (k - 1) + d - 1) : TellIs n y k d := by
  have h2 := gj_next y
  have h3 := lp_cases y
  unfold thu1 at *
  refine ⟨?_, ?_, ?_, ?_⟩ <;> (try unfold thu) <;> omega
theorem wpy_eq (y : Int) : wpy y = (gj (y + 1) 1 1 - 1 - thu1 y) / 7 + 1 ∧ 52 ≤ wpy y ∧ wpy y ≤ 53 := by
  have h2 := gj_next y
  have h3 := lp_cases y
  unfold wpy thu1
  split <;> omega
theorem iso_eq (y k d : Int) : iso y k d = thu1 y - 3 + 7 * (k - 1) + d - 1 := by
  have h1 := gj_next (y - 1)
  have h2 := gj_yday (y - 1) 12 28
  rw [yd_12] at h2
  have e1 : y - 1 + 1 = y := by omega
  rw [e1] at h1
  unfold iso thu1
  omega
end Mine
end

/-! part Fl -/
section
open PySem PySem.W PyProof.Rows PySem.Calls
namespace Mine
open PySem.Float64

/-- the double n / 2 -/
def hf (n : Int) : UInt64 := ofFrac (decide (n < 0)) n.natAbs 2

theorem V_rep (n s : Nat) (hn : n < 2 ^ 53) (hs : s ≤ 1000) : ∃ t, t < infMag ∧ V t = n * 2 ^ (1074 - s) := by
  have hi : infMag = 2047 * 2 ^ 52 := rfl
  by_cases h0 : n = 0
  · subst h0
    exact ⟨0, by omega, by rw [V_zero, Nat.zero_mul]⟩
  · have h1 := Nat.log2_self_le h0
    have h2 := @Nat.lt_log2_self n
    have hl : n.log2 < 53 := (Nat.log2_lt h0).mpr hn
    generalize n.log2 = l at *
    have e0 : n * 2 ^ (52 - l) < 2 ^ 53 := by
      have : n * 2 ^ (52 - l) < 2 ^ (l + 1) * 2 ^ (52 - l) := Nat.mul_lt_mul_of_pos_right h2 (Nat.two_pow_pos _)
      rw [← Nat.pow_add] at this
      have e : l + 1 + (52 - l) = 53 := by omega
      rw [e] at this
      exact this
    have e1 : 2 ^ 52 ≤ n * 2 ^ (52 - l) := by
      have : 2 ^ l * 2 ^ (52 - l) ≤ n * 2 ^ (52 - l) := Nat.mul_le_mul_right _ h1
      rw [← Nat.pow_add] at this
      have e : l + (52 - l) = 52 := by omega
      rw [e] at this
      exact this
    have hv := V_at (k := 1074 - s - (52 - l)) (q := n * 2 ^ (52 - l)) (by omega) (.inl e1)
    refine ⟨(1074 - s - (52 - l)) * 2 ^ 52 + n * 2 ^ (52 - l), by omega, ?_⟩
    rw [hv, Nat.mul_assoc, ← Nat.pow_add]
    congr 2
    omega

theorem V_top {t : Nat} (h : t < infMag) : V t ≤ (2 ^ 53 - 1) * 2 ^ 2045 := by
  have hi : infMag = 2047 * 2 ^ 52 := rfl
  have e : infMag - 1 = 2045 * 2 ^ 52 + (2 ^ 53 - 1) := by omega
  have hv := V_at (k := 2045) (q := 2 ^ 53 - 1) (by omega) (.inl (by omega))
  rw [← e] at hv
  rw [← hv]
  exact V_mono (by omega)

theorem V_inj {t t' : Nat} (h : V t = V t') : t = t' := by
  rcases Nat.lt_trichotomy t t' with g | g | g
  · have := V_lt g; omega
  · exact g
  · have := V_lt g; omega

theorem right_exact {r : UInt64} {neg : Bool} {W D t₀ : Nat} (h : Right r neg W D) (hD : 0 < D) (ht : t₀ < infMag) (hv : D * V t₀ = W) : r = pack neg t₀ := by
  obtain ⟨t, rfl, hle, hov, hn⟩ := h
  have hlt : t < infMag := by
    rcases Nat.lt_or_eq_of_le hle with h | h
    · exact h
    · exfalso
      have h1 := hov.mp h
      have h2 := V_top ht
      have h3 : D * V t₀ ≤ D * ((2 ^ 53 - 1) * 2 ^ 2045) := Nat.mul_le_mul_left D h2
      rw [hv] at h3
      have h4 : D * ((2 ^ 54 - 1) * 2 ^ 2045) ≤ 2 * (D * ((2 ^ 53 - 1) * 2 ^ 2045)) := by omega
      have hp : 0 < D * 2 ^ 2045 := Nat.mul_pos hD (Nat.two_pow_pos _)
      have e1 : D * ((2 ^ 54 - 1) * 2 ^ 2045) = (2 ^ 54 - 1) * (D * 2 ^ 2045) := by ac_rfl
      have e2 : D * ((2 ^ 53 - 1) * 2 ^ 2045) = (2 ^ 53 - 1) * (D * 2 ^ 2045) := by ac_rfl
      rw [e1, e2] at h4
      generalize D * 2 ^ 2045 = K at *
      omega
  have h1 := (hn hlt t₀).1
  rw [hv] at h1
  have h2 : dist W W = 0 := by unfold dist; omega
  rw [h2] at h1
  have h3 : W = D * V t := by unfold dist at h1; omega
  have h4 : V t = V t₀ := Nat.eq_of_mul_eq_mul_left hD (by omega)
  rw [V_inj h4]

theorem hf_right (n : Int) : Right (hf n) (decide (n < 0)) (n.natAbs * 2 ^ 1073) 1 :=
  ofFrac_right (by decide) (by rw [Nat.mul_one, Nat.mul_assoc, ← Nat.pow_succ]) (by decide)
theorem hf_pack {n : Int} (h : n.natAbs < 2 ^ 53) : ∃ t, t < infMag ∧ V t = n.natAbs * 2 ^ 1073 ∧ hf n = pack (decide (n < 0)) t := by
  obtain ⟨t, ht, hv⟩ := V_rep n.natAbs 1 h (by decide)
  refine ⟨t, ht, hv, right_exact (hf_right n) (by decide) ht ?_⟩
  rw [hv, Nat.one_mul]
theorem sgn_dec (n : Int) (k : Nat) : sgn (decide (n < 0)) (n.natAbs * k) = n * (k : Int) := by
  rw [sgn_mul]
  congr 1
  unfold sgn
  by_cases h : n < 0
  · simp [h]; omega
  · simp [h]; omega
theorem hf_dec {n : Int} (h : n.natAbs < 2 ^ 53) : ∃ m e, decode (hf n) = .fin (decide (n < 0)) m e := by
  obtain ⟨t, ht, _, he⟩ := hf_pack h
  obtain ⟨m, e, hd, _⟩ := decode_pack (decide (n < 0)) ht
  exact ⟨m, e, by rw [he, hd]⟩
theorem hf_val {n : Int} (h : n.natAbs < 2 ^ 53) : val (hf n) = n * ((2 ^ 1073 : Nat) : Int) := by
  obtain ⟨t, ht, hv, he⟩ := hf_pack h
  rw [he, val_pack _ ht, hv, sgn_dec]
/-- what is right for n / 2 is hf n -/
theorem hf_of {r : UInt64} {neg : Bool} {W D : Nat} {n : Int} (h : Right r neg W D) (hD : 0 < D) (hn : n.natAbs < 2 ^ 53) (hs : neg = decide (n < 0)) (hW : W = D * (n.natAbs * 2 ^ 1073)) : r = hf n := by
  obtain ⟨t, ht, hv, he⟩ := hf_pack hn
  rw [he, ← hs]
  exact right_exact h hD ht (by rw [hv, hW])
theorem hf_zero : hf 0 = zero false := by decide +kernel
theorem hf_half : (4602678819172646912 : UInt64) = hf 1 := by decide +kernel
theorem hf_epoch : (4700144277945057280 : UInt64) = hf 3442851 := by decide +kernel

theorem hf_int {k : Int} (h : k.natAbs < 2 ^ 52) : ofInt k = hf (2 * k) := by
  refine hf_of (ofInt_right k) (by decide) (by omega) (decide_eq_decide.mpr (by omega)) ?_
  have e : (2 * k).natAbs = k.natAbs * 2 := by omega
  rw [e, Nat.one_mul, Nat.mul_assoc, ← Nat.pow_succ']

theorem p73 : (0 : Int) < ((2 ^ 1073 : Nat) : Int) := Int.ofNat_lt.mpr (Nat.two_pow_pos _)
theorem neg_p {a K : Int} (hK : 0 < K) : (a * K < 0) ↔ a < 0 := by
  constructor
  · intro h
    by_cases g : a < 0
    · exact g
    · have := Int.mul_nonneg (show 0 ≤ a by omega) (Int.le_of_lt hK)
      omega
  · exact fun h => Int.mul_neg_of_neg_of_pos h hK

theorem hf_add {a b : Int} (ha : a.natAbs < 2 ^ 53) (hb : b.natAbs < 2 ^ 53) (hc : (a + b).natAbs < 2 ^ 53) : add (hf a) (hf b) = hf (a + b) := by
  obtain ⟨m, e, hx⟩ := hf_dec ha
  obtain ⟨k, f, hy⟩ := hf_dec hb
  have h := add_right hx hy
  have e1 : val (hf a) + val (hf b) = (a + b) * ((2 ^ 1073 : Nat) : Int) := by rw [hf_val ha, hf_val hb, Int.add_mul]
  rw [e1] at h
  by_cases h0 : a + b = 0
  · rw [h.1 (by rw [h0, Int.zero_mul]), h0, hf_zero]
    congr 1
    by_cases g : a < 0
    · have : ¬ b < 0 := by omega
      simp [g, this]
    · simp [g]
  · have hne : (a + b) * ((2 ^ 1073 : Nat) : Int) ≠ 0 := Int.mul_ne_zero h0 (Int.ne_of_gt p73)
    refine hf_of (h.2 hne) (by decide) hc (decide_eq_decide.mpr (neg_p p73)) ?_
    rw [Int.natAbs_mul, Int.natAbs_natCast, Nat.one_mul]
theorem hf_sub {a b : Int} (ha : a.natAbs < 2 ^ 53) (hb : b.natAbs < 2 ^ 53) (hc : (a - b).natAbs < 2 ^ 53) : sub (hf a) (hf b) = hf (a - b) := by
  obtain ⟨m, e, hx⟩ := hf_dec ha
  obtain ⟨k, f, hy⟩ := hf_dec hb
  have h := sub_right hx hy
  have e1 : val (hf a) - val (hf b) = (a - b) * ((2 ^ 1073 : Nat) : Int) := by rw [hf_val ha, hf_val hb, Int.sub_mul]
  rw [e1] at h
  by_cases h0 : a - b = 0
  · rw [h.1 (by rw [h0, Int.zero_mul]), h0, hf_zero]
    congr 1
    have : a = b := by omega
    subst this
    simp
  · have hne : (a - b) * ((2 ^ 1073 : Nat) : Int) ≠ 0 := Int.mul_ne_zero h0 (Int.ne_of_gt p73)
    refine hf_of (h.2 hne) (by decide) hc (decide_eq_decide.mpr (neg_p p73)) ?_
    rw [Int.natAbs_mul, Int.natAbs_natCast, Nat.one_mul]
theorem hf_mul {a k : Int} (ha : 0 ≤ a) (hk : 0 ≤ k) (ha' : a.natAbs < 2 ^ 53) (hk' : k.natAbs < 2 ^ 52) (hc : (a * k).natAbs < 2 ^ 53) : mul (hf a) (ofInt k) = hf (a * k) := by
  rw [hf_int hk']
  have h2 : (2 * k).natAbs < 2 ^ 53 := by omega
  obtain ⟨m, e, hx⟩ := hf_dec ha'
  obtain ⟨k', f, hy⟩ := hf_dec h2
  have h := mul_right hx hy
  have hnn : 0 ≤ a * k := Int.mul_nonneg ha hk
  have s1 : decide (a < 0) = false := decide_eq_false (by omega)
  have s2 : decide (2 * k < 0) = false := decide_eq_false (by omega)
  have s3 : decide (a * k < 0) = false := decide_eq_false (by omega)
  refine hf_of h (Nat.two_pow_pos _) hc (by rw [s1, s2, s3]; rfl) ?_
  rw [hf_val ha', hf_val h2, Int.natAbs_mul, Int.natAbs_mul, Int.natAbs_mul, Int.natAbs_natCast, Int.natAbs_mul]
  have e2 : (2 : Int).natAbs = 2 := rfl
  have e3 : (2 : Nat) ^ 1074 = 2 ^ 1073 * 2 := Nat.pow_add 2 1073 1
  rw [e2, e3]
  generalize (2 : Nat) ^ 1073 = K
  ac_rfl

/-! floor and trunc -/
theorem floorOf_eq (s : Bool) (m : Nat) {e : Int} (he : -1074 ≤ e) : floorOf s m e = (sgn s (m * 2 ^ (e + 1074).toNat)).fdiv ((2 ^ 1074 : Nat) : Int) := by
  rw [sgn_mul]
  unfold floorOf
  have hpow : ∀ n : Nat, ((2 ^ n : Nat) : Int) = (2 : Int) ^ n := fun n => by simp
  have hpos : ∀ n : Nat, (0 : Int) < ((2 ^ n : Nat) : Int) := fun n => Int.ofNat_lt.mpr (Nat.two_pow_pos _)
  split
  · have e1 : (e + 1074).toNat = e.toNat + 1074 := by omega
    rw [e1, Nat.pow_add, Int.natCast_mul, ← Int.mul_assoc, Int.mul_fdiv_cancel _ (Int.ne_of_gt (hpos _)), hpow]
  · have e1 : 1074 = (-e).toNat + (e + 1074).toNat := by omega
    have e2 : ((2 ^ 1074 : Nat) : Int) = ((2 ^ (-e).toNat : Nat) : Int) * ((2 ^ (e + 1074).toNat : Nat) : Int) := by
      rw [← Int.natCast_mul, ← Nat.pow_add, ← e1]
    rw [e2, Int.mul_fdiv_mul_of_pos_left _ _ (hpos _), hpow]

theorem toInt_floor {x : UInt64} {a : Bool} {m : Nat} {e : Int} (h : decode x = .fin a m e) : Flt.toInt floorOf x = (val x).fdiv ((2 ^ 1074 : Nat) : Int) := by
  rw [Flt.toInt_fin h, floorOf_eq a m (decode_ge h), val_eq h]
theorem p74 : ((2 ^ 1074 : Nat) : Int) = 2 * ((2 ^ 1073 : Nat) : Int) := by
  rw [Nat.pow_succ, Int.natCast_mul]
  exact Int.mul_comm _ _
theorem hf_floor {n : Int} (h : n.natAbs < 2 ^ 53) : Flt.toInt floorOf (hf n) = n.fdiv 2 := by
  obtain ⟨m, e, hx⟩ := hf_dec h
  rw [toInt_floor hx, hf_val h, p74, Int.mul_fdiv_mul_of_pos_left _ _ p73]
theorem hf_trunc {k : Int} (h : k.natAbs < 2 ^ 52) : Flt.toInt truncOf (hf (2 * k)) = k := by
  have h2 : (2 * k).natAbs < 2 ^ 53 := by omega
  obtain ⟨m, e, hx⟩ := hf_dec h2
  have hv := hf_val h2
  rw [val_eq hx] at hv
  have hge := decode_ge hx
  have hpos : (0 : Int) < ((2 ^ 1074 : Nat) : Int) := Int.ofNat_lt.mpr (Nat.two_pow_pos _)
  have e1 : 2 * k * ((2 ^ 1073 : Nat) : Int) = k * ((2 ^ 1074 : Nat) : Int) := by rw [p74, Int.mul_comm 2 k, Int.mul_assoc]
  rw [e1] at hv
  rw [Flt.toInt_fin hx]
  unfold truncOf ceilOf
  split
  · rw [floorOf_eq _ _ hge, sgn_not, hv, ← Int.neg_mul, Int.mul_fdiv_cancel _ (Int.ne_of_gt hpos)]
    omega
  · rw [floorOf_eq _ _ hge, hv, Int.mul_fdiv_cancel _ (Int.ne_of_gt hpos)]
theorem hf_finite {n : Int} (h : n.natAbs < 2 ^ 53) : isFinite (hf n) = true := by
  obtain ⟨m, e, hx⟩ := hf_dec h
  unfold isFinite
  rw [hx]
theorem hf_cmpInt {n i : Int} (h : n.natAbs < 2 ^ 53) : cmpInt (hf n) i = some (compare n (2 * i)) := by
  obtain ⟨m, e, hx⟩ := hf_dec h
  rw [cmpInt_right hx, hf_val h]
  have e1 : i * 2 ^ 1074 = 2 * i * ((2 ^ 1073 : Nat) : Int) := by
    have : (2 : Int) ^ 1074 = ((2 ^ 1074 : Nat) : Int) := by simp
    rw [this, p74, ← Int.mul_assoc, Int.mul_comm i 2]
  rw [e1]
  congr 1
  rcases Int.lt_trichotomy n (2 * i) with h | h | h
  · rw [Int.compare_eq_lt.mpr h, Int.compare_eq_lt.mpr (Int.mul_lt_mul_of_pos_right h p73)]
  · rw [h]; simp
  · rw [Int.compare_eq_gt.mpr h, Int.compare_eq_gt.mpr (Int.mul_lt_mul_of_pos_right h p73)]
theorem hf_cmp {n i : Int} (h : n.natAbs < 2 ^ 53) (h' : i.natAbs < 2 ^ 53) : cmp (hf n) (hf i) = some (compare n i) := by
  obtain ⟨m, e, hx⟩ := hf_dec h
  obtain ⟨k, f, hy⟩ := hf_dec h'
  rw [cmp_right hx hy, hf_val h, hf_val h']
  congr 1
  rcases Int.lt_trichotomy n i with h | h | h
  · rw [Int.compare_eq_lt.mpr h, Int.compare_eq_lt.mpr (Int.mul_lt_mul_of_pos_right h p73)]
  · rw [h]; simp
  · rw [Int.compare_eq_gt.mpr h, Int.compare_eq_gt.mpr (Int.mul_lt_mul_of_pos_right h p73)]

/-! a quotient's floor -/
theorem quot_core {A B q rm S18 U W D z : Nat} (hA : A = q * B + rm) (_hrm : rm < B) (_hr0 : 0 < rm) (_hB : B ≤ S18) (hz : z = q * S18 + 1) (_hU : 0 < U) (_hD : 0 < D) (hB0 : 0 < B) (hW : W * B = A * D * (S18 * U)) : D * (z * U) ≤ W := by
  refine Nat.le_of_mul_le_mul_right ?_ hB0
  rw [hW]
  have h1 : z * B ≤ A * S18 := by
    rw [hz, hA, Nat.add_mul, Nat.one_mul, Nat.add_mul]
    have h2 : S18 ≤ rm * S18 := Nat.le_mul_of_pos_left _ _hr0
    have h3 : q * S18 * B = q * B * S18 := by ac_rfl
    omega
  have h4 := Nat.mul_le_mul_right (D * U) h1
  have e1 : D * (z * U) * B = z * B * (D * U) := by ac_rfl
  have e2 : A * D * (S18 * U) = A * S18 * (D * U) := by ac_rfl
  rw [e1, e2]
  exact h4
theorem quot_core2 {A B q rm S18 U W D z : Nat} (hA : A = q * B + rm) (_hrm : rm < B) (_hB : B ≤ S18) (hz : z + 1 = (q + 1) * S18) (hB0 : 0 < B) (hW : W * B = A * D * (S18 * U)) : W ≤ D * (z * U) := by
  refine Nat.le_of_mul_le_mul_right ?_ hB0
  rw [hW]
  have h1 : A * S18 ≤ z * B := by
    have h2 : (z + 1) * B = z * B + B := by rw [Nat.add_mul, Nat.one_mul]
    have h3 : (z + 1) * B = q * B * S18 + B * S18 := by rw [hz, Nat.add_mul, Nat.one_mul, Nat.add_mul]; congr 1 <;> ac_rfl
    have h5 : (rm + 1) * S18 ≤ B * S18 := Nat.mul_le_mul_right _ _hrm
    rw [Nat.add_mul, Nat.one_mul] at h5
    rw [hA, Nat.add_mul]
    omega
  have h4 := Nat.mul_le_mul_right (D * U) h1
  have e1 : D * (z * U) * B = z * B * (D * U) := by ac_rfl
  have e2 : A * D * (S18 * U) = A * S18 * (D * U) := by ac_rfl
  rw [e1, e2]
  exact h4

theorem fdiv_is {a b q : Int} (hb : 0 < b) (h1 : q * b ≤ a) (h2 : a < q * b + b) : a.fdiv b = q := by
  rw [Int.fdiv_eq_ediv_of_nonneg _ (Int.le_of_lt hb)]
  exact (Int.ediv_eq_iff_of_pos hb).mpr ⟨h1, h2⟩
theorem p1056 : (2 : Nat) ^ 1074 = 2 ^ 18 * 2 ^ 1056 := Nat.pow_add 2 18 1056
theorem quot_floor {r : UInt64} {neg : Bool} {W D A B : Nat} (h : Right r neg W D) (hD : 0 < D) (hB0 : 0 < B) (hB : B ≤ 2 ^ 18) (hA : A / B < 2 ^ 34) (hW : W * B = A * D * 2 ^ 1074) :
    isFinite r = true ∧ Flt.toInt floorOf r = (sgn neg A).fdiv (B : Int) := by
  have hdm := Nat.div_add_mod A B
  have hmod := Nat.mod_lt A hB0
  have hA' : A = A / B * B + A % B := by rw [Nat.mul_comm]; exact hdm.symm
  generalize hq : A / B = q at *
  generalize hrm : A % B = rm at *
  have hp : (0 : Int) < ((2 ^ 1074 : Nat) : Int) := Int.ofNat_lt.mpr (Nat.two_pow_pos _)
  have hBi : (0 : Int) < (B : Int) := by omega
  have hp56 : 0 < (2 : Nat) ^ 1056 := Nat.two_pow_pos _
  by_cases h0 : rm = 0
  · subst h0
    obtain ⟨t₀, ht, hv⟩ := V_rep q 0 (by omega) (by decide)
    have e0 : (1074 - 0 : Nat) = 1074 := rfl
    rw [e0] at hv
    have hW' : D * V t₀ = W := by
      refine Nat.eq_of_mul_eq_mul_right hB0 ?_
      rw [hW, hv, hA', Nat.add_zero]
      ac_rfl
    have he := right_exact h hD ht hW'
    obtain ⟨m, e, hd, _⟩ := decode_pack neg ht
    rw [← he] at hd
    refine ⟨by unfold isFinite; rw [hd], ?_⟩
    rw [toInt_floor hd, he, val_pack neg ht, hv, sgn_mul, Int.mul_fdiv_cancel _ (Int.ne_of_gt hp), hA', Nat.add_zero, sgn_mul, Int.mul_fdiv_cancel _ (Int.ne_of_gt hBi)]
  · rw [p1056] at hW
    obtain ⟨t₁, ht₁, hv₁⟩ := V_rep (q * 2 ^ 18 + 1) 18 (by omega) (by decide)
    obtain ⟨t₂, ht₂, hv₂⟩ := V_rep (q * 2 ^ 18 + (2 ^ 18 - 1)) 18 (by omega) (by decide)
    have e18 : (1074 - 18 : Nat) = 1056 := rfl
    rw [e18] at hv₁ hv₂
    have g1 : D * V t₁ ≤ W := by
      rw [hv₁]
      exact quot_core hA' hmod (by omega) hB rfl hp56 hD hB0 hW
    have g2 : W ≤ D * V t₂ := by
      rw [hv₂]
      exact quot_core2 hA' hmod hB (by omega) hB0 hW
    obtain ⟨t, rfl, hle, hov, hn⟩ := h
    have hlt : t < infMag := by
      rcases Nat.lt_or_eq_of_le hle with h | h
      · exact h
      · exfalso
        have h1 := hov.mp h
        have h2 := V_top ht₂
        have h3 : D * V t₂ ≤ D * ((2 ^ 53 - 1) * 2 ^ 2045) := Nat.mul_le_mul_left D h2
        have h4 : D * ((2 ^ 54 - 1) * 2 ^ 2045) ≤ 2 * (D * ((2 ^ 53 - 1) * 2 ^ 2045)) := by omega
        have hpp : 0 < D * 2 ^ 2045 := Nat.mul_pos hD (Nat.two_pow_pos _)
        have e1 : D * ((2 ^ 54 - 1) * 2 ^ 2045) = (2 ^ 54 - 1) * (D * 2 ^ 2045) := by ac_rfl
        have e2 : D * ((2 ^ 53 - 1) * 2 ^ 2045) = (2 ^ 53 - 1) * (D * 2 ^ 2045) := by ac_rfl
        rw [e1, e2] at h4
        generalize D * 2 ^ 2045 = K at *
        omega
    have n1 := (hn hlt t₁).1
    have n2 := (hn hlt t₂).1
    have lo : V t₁ ≤ V t := by
      rcases Nat.lt_or_ge (V t) (V t₁) with g | g
      · exfalso
        have : D * V t < D * V t₁ := Nat.mul_lt_mul_of_pos_left g hD
        unfold dist at n1
        omega
      · exact g
    have hi : V t ≤ V t₂ := by
      rcases Nat.lt_or_ge (V t₂) (V t) with g | g
      · exfalso
        have : D * V t₂ < D * V t := Nat.mul_lt_mul_of_pos_left g hD
        unfold dist at n2
        omega
      · exact g
    obtain ⟨m, e, hd, _⟩ := decode_pack neg hlt
    refine ⟨by unfold isFinite; rw [hd], ?_⟩
    rw [toInt_floor hd, val_pack neg hlt]
    rw [hv₁] at lo
    rw [hv₂] at hi
    have lo' : q * 2 ^ 1074 < V t := by
      rw [p1056, ← Nat.mul_assoc]
      have : (q * 2 ^ 18 + 1) * 2 ^ 1056 = q * 2 ^ 18 * 2 ^ 1056 + 2 ^ 1056 := by rw [Nat.add_mul, Nat.one_mul]
      omega
    have hi' : V t < (q + 1) * 2 ^ 1074 := by
      rw [p1056, ← Nat.mul_assoc]
      have : (q + 1) * 2 ^ 18 * 2 ^ 1056 = (q * 2 ^ 18 + (2 ^ 18 - 1)) * 2 ^ 1056 + 2 ^ 1056 := by
        have e : (q + 1) * 2 ^ 18 = (q * 2 ^ 18 + (2 ^ 18 - 1)) + 1 := by omega
        rw [e, Nat.add_mul, Nat.one_mul]
      omega
    generalize V t = v at *
    have ip : 0 < 2 ^ 1074 := Nat.two_pow_pos 1074
    generalize (2 : Nat) ^ 1074 = P at *
    have cA : (A : Int) = (q : Int) * (B : Int) + (rm : Int) := by rw [hA', Int.natCast_add, Int.natCast_mul]
    have c1 : (q : Int) * (P : Int) < (v : Int) := by rw [← Int.natCast_mul]; exact Int.ofNat_lt.mpr lo'
    have c2 : (v : Int) < (q : Int) * (P : Int) + (P : Int) := by
      have : ((q + 1 : Nat) : Int) * (P : Int) = (q : Int) * (P : Int) + (P : Int) := by rw [Int.natCast_add, Int.add_mul]; simp
      rw [← this, ← Int.natCast_mul]; exact Int.ofNat_lt.mpr hi'
    have hPi : (0 : Int) < (P : Int) := by omega
    cases neg
    · rw [show sgn false v = (v : Int) from rfl, show sgn false A = (A : Int) from rfl, fdiv_is hPi (Int.le_of_lt c1) c2, fdiv_is hBi (q := (q : Int)) (by omega) (by omega)]
    · rw [show sgn true v = -(v : Int) from rfl, show sgn true A = -(A : Int) from rfl]
      have m1 : (-(q : Int) - 1) * (P : Int) = -((q : Int) * (P : Int)) - (P : Int) := by rw [Int.sub_mul, Int.neg_mul, Int.one_mul]
      have m2 : (-(q : Int) - 1) * (B : Int) = -((q : Int) * (B : Int)) - (B : Int) := by rw [Int.sub_mul, Int.neg_mul, Int.one_mul]
      rw [fdiv_is hPi (q := -(q : Int) - 1) (by omega) (by omega), fdiv_is hBi (q := -(q : Int) - 1) (by omega) (by omega)]

/-- int / int -/
theorem frac_floor {a b : Int} (hb : 0 < b) (hb' : b ≤ 262144) (ha : a.natAbs < 2 ^ 34) : isFinite (ofFrac (decide (a < 0) != decide (b < 0)) a.natAbs b.natAbs) = true ∧ Flt.toInt floorOf (ofFrac (decide (a < 0) != decide (b < 0)) a.natAbs b.natAbs) = a.fdiv b := by
  have hs : (decide (a < 0) != decide (b < 0)) = decide (a < 0) := by
    have : decide (b < 0) = false := decide_eq_false (by omega)
    rw [this]; simp
  rw [hs]
  have hq : a.natAbs / b.natAbs < 2 ^ 34 := Nat.lt_of_le_of_lt (Nat.div_le_self _ _) ha
  have h := quot_floor (ofFrac_right (neg := decide (a < 0)) (n := a.natAbs) (d := b.natAbs) (W := a.natAbs * 2 ^ 1074) (D := b.natAbs) (by omega) (by ac_rfl) (by omega)) (A := a.natAbs) (B := b.natAbs) (by omega) (by omega) (by omega) hq (by ac_rfl)
  have e1 : sgn (decide (a < 0)) a.natAbs = a := by
    have := sgn_dec a 1
    rw [Nat.mul_one] at this
    rw [this]; omega
  have e2 : ((b.natAbs : Nat) : Int) = b := by omega
  rw [e1, e2] at h
  exact h
/-- float / int -/
theorem hf_div_floor {a b : Int} (hb : 0 < b) (hb' : b ≤ 262144) (ha : a.natAbs < 2 ^ 34) : isFinite (div (hf (2 * a)) (ofInt b)) = true ∧ Flt.toInt floorOf (div (hf (2 * a)) (ofInt b)) = a.fdiv b := by
  have h2a : (2 * a).natAbs < 2 ^ 53 := by omega
  have h2b : (2 * b).natAbs < 2 ^ 53 := by omega
  rw [hf_int (by omega)]
  obtain ⟨m, e, hx⟩ := hf_dec h2a
  obtain ⟨k, f, hy⟩ := hf_dec h2b
  have hvb := hf_val h2b
  have hva := hf_val h2a
  have hk : k ≠ 0 := by
    intro h0
    rw [val_eq hy, h0, Nat.zero_mul] at hvb
    have : (0 : Int) < 2 * b * ((2 ^ 1073 : Nat) : Int) := Int.mul_pos (by omega) p73
    rw [← hvb] at this
    unfold sgn at this
    simp at this
  have hr := div_right hx hy hk
  rw [hva, hvb, Int.natAbs_mul, Int.natAbs_mul, Int.natAbs_mul, Int.natAbs_mul, Int.natAbs_natCast] at hr
  have n2 : (2 : Int).natAbs = 2 := rfl
  rw [n2] at hr
  have hs : (decide (2 * a < 0) != decide (2 * b < 0)) = decide (a < 0) := by
    have : decide (2 * b < 0) = false := decide_eq_false (by omega)
    rw [this]
    have : decide (2 * a < 0) = decide (a < 0) := decide_eq_decide.mpr (by omega)
    rw [this]; simp
  rw [hs] at hr
  have hpb : 0 < 2 * b.natAbs * 2 ^ 1073 := Nat.mul_pos (by omega) (Nat.two_pow_pos _)
  have hq : a.natAbs / b.natAbs < 2 ^ 34 := Nat.lt_of_le_of_lt (Nat.div_le_self _ _) ha
  have h := quot_floor hr hpb (A := a.natAbs) (B := b.natAbs) (by omega) (by omega) hq (by
    generalize (2 : Nat) ^ 1074 = X
    generalize (2 : Nat) ^ 1073 = Y
    ac_rfl)
  have e1 : sgn (decide (a < 0)) a.natAbs = a := by
    have := sgn_dec a 1
    rw [Nat.mul_one] at this
    rw [this]; omega
  have e2 : ((b.natAbs : Nat) : Int) = b := by omega
  rw [e1, e2] at h
  exact h

/-! the remainder -/
theorem fmod_right {x y : UInt64} {a b : Bool} {m k : Nat} {e f : Int} (hx : decode x = .fin a m e) (hy : decode y = .fin b k f) (hk : k ≠ 0) :
    Right (fmod x y) a ((val x).natAbs % (val y).natAbs) 1 := by
  have he := decode_ge hx
  have hf := decode_ge hy
  have hm : fmod x y = ofBin a (m * 2 ^ (e - min e f).toNat % (k * 2 ^ (f - min e f).toNat)) (min e f) := by
    unfold fmod
    rw [hx, hy]
    simp only
    rw [if_neg (by simpa using hk)]
    unfold align
    simp only [show ∀ n : Nat, sgn false n = (n : Int) from fun _ => rfl, Int.toNat_natCast]
  rw [hm, val_natAbs hx, val_natAbs hy]
  have h := ofBin_right (neg := a) (M := m * 2 ^ (e - min e f).toNat % (k * 2 ^ (f - min e f).toNat)) (g := min e f) (by omega)
  rw [← Nat.mul_mod_mul_right, Nat.mul_assoc, Nat.mul_assoc, ← Nat.pow_add, ← Nat.pow_add] at h
  have e1 : (e - min e f).toNat + (min e f + 1074).toNat = (e + 1074).toNat := by omega
  have e2 : (f - min e f).toNat + (min e f + 1074).toNat = (f + 1074).toNat := by omega
  rw [e1, e2] at h
  exact h
theorem zero_pack (s : Bool) : isZero (pack s 0) = true := by cases s <;> decide +kernel
theorem isZero_val {x : UInt64} {a : Bool} {m : Nat} {e : Int} (h : decode x = .fin a m e) (hv : val x ≠ 0) : isZero x = false := by
  unfold isZero
  rw [h]
  cases m with
  | zero =>
    exfalso
    rw [val_eq h, Nat.zero_mul] at hv
    exact hv (by unfold sgn; simp)
  | succ m => rfl
theorem hf_mod {k n : Int} (hn : 0 < n) (hn' : n ≤ 262144) (hk : k.natAbs < 2 ^ 50) (hs1 : copysign (zero false) (ofInt n) = zero false) (hs2 : lt (ofInt n) (zero false) = false) :
    (divmod (hf (2 * k)) (ofInt n)).2 = hf (2 * k.fmod n) := by
  have h2k : (2 * k).natAbs < 2 ^ 53 := by omega
  have h2n : (2 * n).natAbs < 2 ^ 53 := by omega
  have hin := hf_int (k := n) (by omega)
  obtain ⟨mx, ex, hx⟩ := hf_dec h2k
  obtain ⟨my, ey, hy⟩ := hf_dec h2n
  have hvk := hf_val h2k
  have hvn := hf_val h2n
  have hmy : my ≠ 0 := by
    intro h0
    rw [val_eq hy, h0, Nat.zero_mul] at hvn
    have : (0 : Int) < 2 * n * ((2 ^ 1073 : Nat) : Int) := Int.mul_pos (by omega) p73
    rw [← hvn] at this
    unfold sgn at this
    simp at this
  have hr := fmod_right hx hy hmy
  have hW : (val (hf (2 * k))).natAbs % (val (hf (2 * n))).natAbs = 2 * (k.natAbs % n.natAbs) * 2 ^ 1073 := by
    rw [hvk, hvn, Int.natAbs_mul (2 * k), Int.natAbs_mul (2 * n), Int.natAbs_natCast, Nat.mul_mod_mul_right, Int.natAbs_mul, Int.natAbs_mul]
    have : (2 : Int).natAbs = 2 := rfl
    rw [this, Nat.mul_mod_mul_left]
  rw [hW] at hr
  have hd2 : decide (2 * k < 0) = decide (k < 0) := decide_eq_decide.mpr (by omega)
  rw [hd2] at hr
  -- the remainder of the magnitudes
  have hfm : k.fmod n = k % n := Int.fmod_eq_emod_of_nonneg _ (by omega)
  have hab : ((k.natAbs % n.natAbs : Nat) : Int) = (k.natAbs : Int) % n := by
    rw [Int.natCast_emod]
    congr 1
    omega
  have hlt : k.natAbs % n.natAbs < n.natAbs := Nat.mod_lt _ (by omega)
  have hdv := Int.mul_ediv_add_emod k n
  have hdv2 := Int.mul_ediv_add_emod (k.natAbs : Int) n
  have hm0 := Int.emod_nonneg k (show n ≠ 0 by omega)
  have hm1 := Int.emod_lt_of_pos k hn
  rw [← hin] at hr
  by_cases hz : k.natAbs % n.natAbs = 0
  · -- nothing is left
    have hm : fmod (hf (2 * k)) (ofInt n) = pack (decide (k < 0)) 0 := by
      rw [hz] at hr
      refine right_exact hr (by decide) (by decide) ?_
      rw [V_zero]
      omega
    have hres : k % n = 0 := by
      have h1 : n ∣ (k.natAbs : Int) := Int.dvd_of_emod_eq_zero (by rw [← hab, hz]; rfl)
      have h2 : n ∣ k := Int.dvd_natAbs.mp h1
      exact Int.emod_eq_zero_of_dvd h2
    unfold divmod
    simp only [hm, zero_pack, if_true]
    rw [hs1, hfm, hres]
    exact hf_zero.symm
  · have hsig : (2 * (if k < 0 then -((k.natAbs % n.natAbs : Nat) : Int) else ((k.natAbs % n.natAbs : Nat) : Int))).natAbs = 2 * (k.natAbs % n.natAbs) := by split <;> omega
    have hm : fmod (hf (2 * k)) (ofInt n) = hf (2 * (if k < 0 then -((k.natAbs % n.natAbs : Nat) : Int) else ((k.natAbs % n.natAbs : Nat) : Int))) := by
      refine hf_of hr (by decide) (by omega) (decide_eq_decide.mpr (by split <;> omega)) ?_
      rw [hsig, Nat.one_mul]
    generalize hrr : k.natAbs % n.natAbs = r at *
    have hb : (2 * (if k < 0 then -(r : Int) else (r : Int))).natAbs < 2 ^ 53 := by omega
    have hz' : isZero (hf (2 * (if k < 0 then -(r : Int) else (r : Int)))) = false := by
      obtain ⟨m, e, hd⟩ := hf_dec hb
      refine isZero_val hd ?_
      rw [hf_val hb]
      exact Int.mul_ne_zero (by split <;> omega) (Int.ne_of_gt p73)
    have hlt' : lt (hf (2 * (if k < 0 then -(r : Int) else (r : Int)))) (zero false) = decide (k < 0) := by
      unfold lt
      rw [← hf_zero, hf_cmp hb (by decide)]
      by_cases g : k < 0
      · rw [if_pos g, Int.compare_eq_lt.mpr (by omega)]; simp [g]
      · rw [if_neg g, Int.compare_eq_gt.mpr (by omega)]; simp [g]
    unfold divmod
    simp only [hm, hz', hs2, hlt', Bool.false_eq_true, if_false]
    by_cases g : k < 0
    · have : k % n = n - r := by
        have e1 : (k.natAbs : Int) = -k := by omega
        rw [e1] at hab
        have e2 : k % n = (n - r) := by
          have h1 : (-k) % n = r := hab.symm
          have h2 := Int.mul_ediv_add_emod (-k) n
          rw [h1] at h2
          have h3 : k = (n - r) + n * (-((-k) / n) - 1) := by
            have : n * (-((-k) / n) - 1) = -(n * ((-k) / n)) - n := by rw [Int.mul_sub, Int.mul_neg, Int.mul_one]
            omega
          rw [h3, Int.add_mul_emod_self_left]
          exact Int.emod_eq_of_lt (by omega) (by omega)
        exact e2
      simp only [g, decide_true, if_true]
      rw [hfm, this, hin, if_pos (by decide)]
      rw [if_pos g] at hb
      rw [hf_add (by omega) (by omega) (by omega)]
      exact congrArg hf (by omega)
    · have : k % n = r := by
        have e1 : (k.natAbs : Int) = k := by omega
        rw [e1] at hab
        exact hab.symm
      simp only [g, decide_false, if_false]
      rw [hfm, this, if_neg (by decide)]
end Mine
end

/-! part Ru -/
section
open PySem PySem.W PyProof.Rows PySem.Calls
namespace Mine
section
variable {prog : Program} {w : World} {A : Around} {E : Value → Shared → Prop} {s : Shared} {Q : Value → Shared → Prop} {t u : Tok} {x y : UInt64} {a b n k : Int}
theorem big_over {n : Int} (h : n.natAbs < 1125899906842624) : ¬ Flt.Over n := by
  intro g
  have h1 : 1125899906842624 < 2 ^ 1024 - 2 ^ 970 := by decide +kernel
  exact absurd (Nat.lt_of_lt_of_le (Nat.lt_trans h h1) g) (Nat.lt_irrefl _)
theorem big_sharp {n : Int} (h : n.natAbs < 1125899906842624) : ¬ 2 ^ 1024 - 2 ^ 970 ≤ n.natAbs := big_over h

theorem r_add_fi (hA : A.handled = none) (hx : x = hf a) (hb : a.natAbs < 1125899906842624 ∧ n.natAbs < 1125899906842624) (h : Q (.float (hf (a + 2 * n)) s.toks) { s with toks := s.toks + 1 }) :
    wpAny (model prog w) A (binaryOp .Add (.float x t) (.int n u)) Q E s := by
  subst hx
  refine add_fi_sharp hA (fun c => absurd c (big_sharp hb.2)) fun _ => ?_
  rw [hf_int (by omega), hf_add (by omega) (by omega) (by omega)]
  exact h
theorem r_add_if (hA : A.handled = none) (hx : x = hf a) (hb : a.natAbs < 1125899906842624 ∧ n.natAbs < 1125899906842624) (h : Q (.float (hf (2 * n + a)) s.toks) { s with toks := s.toks + 1 }) :
    wpAny (model prog w) A (binaryOp .Add (.int n u) (.float x t)) Q E s := by
  subst hx
  refine add_if_sharp hA (fun c => absurd c (big_sharp hb.2)) fun _ => ?_
  rw [hf_int (by omega), hf_add (by omega) (by omega) (by omega)]
  exact h
theorem r_iadd_if (hA : A.handled = none) (hx : x = hf a) (hb : a.natAbs < 1125899906842624 ∧ n.natAbs < 1125899906842624) (h : Q (.float (hf (2 * n + a)) s.toks) { s with toks := s.toks + 1 }) :
    wpAny (model prog w) A (inplaceOp .Add (.int n u) (.float x t)) Q E s := by
  subst hx
  refine Flt.iadd_if hA (fun c => absurd c (big_over hb.2)) fun _ => ?_
  rw [hf_int (by omega), hf_add (by omega) (by omega) (by omega)]
  exact h
theorem r_sub_fi (hA : A.handled = none) (hx : x = hf a) (hb : a.natAbs < 1125899906842624 ∧ n.natAbs < 1125899906842624) (h : Q (.float (hf (a - 2 * n)) s.toks) { s with toks := s.toks + 1 }) :
    wpAny (model prog w) A (binaryOp .Sub (.float x t) (.int n u)) Q E s := by
  subst hx
  refine sub_fi_sharp hA (fun c => absurd c (big_sharp hb.2)) fun _ => ?_
  rw [hf_int (by omega), hf_sub (by omega) (by omega) (by omega)]
  exact h
theorem r_sub_if (hA : A.handled = none) (hx : x = hf a) (hb : a.natAbs < 1125899906842624 ∧ n.natAbs < 1125899906842624) (h : Q (.float (hf (2 * n - a)) s.toks) { s with toks := s.toks + 1 }) :
    wpAny (model prog w) A (binaryOp .Sub (.int n u) (.float x t)) Q E s := by
  subst hx
  refine sub_if_sharp hA (fun c => absurd c (big_sharp hb.2)) fun _ => ?_
  rw [hf_int (by omega), hf_sub (by omega) (by omega) (by omega)]
  exact h
theorem r_add_ff (hx : x = hf a) (hy : y = hf b) (hb : a.natAbs < 1125899906842624 ∧ b.natAbs < 1125899906842624) (h : Q (.float (hf (a + b)) s.toks) { s with toks := s.toks + 1 }) :
    wpAny (model prog w) A (binaryOp .Add (.float x t) (.float y u)) Q E s := by
  subst hx
  subst hy
  refine add_float ?_
  rw [hf_add (by omega) (by omega) (by omega)]
  exact h
theorem r_sub_ff (hx : x = hf a) (hy : y = hf b) (hb : a.natAbs < 1125899906842624 ∧ b.natAbs < 1125899906842624) (h : Q (.float (hf (a - b)) s.toks) { s with toks := s.toks + 1 }) :
    wpAny (model prog w) A (binaryOp .Sub (.float x t) (.float y u)) Q E s := by
  subst hx
  subst hy
  refine sub_float ?_
  rw [hf_sub (by omega) (by omega) (by omega)]
  exact h
theorem r_mul_fi (hA : A.handled = none) (hx : x = hf a) (hb : 0 ≤ a ∧ a < 1073741824 ∧ 0 ≤ n ∧ n < 1048576) (h : Q (.float (hf (a * n)) s.toks) { s with toks := s.toks + 1 }) :
    wpAny (model prog w) A (binaryOp .Mult (.float x t) (.int n u)) Q E s := by
  subst hx
  refine mul_fi_sharp hA (fun c => absurd c (big_sharp (by omega))) fun _ => ?_
  rw [hf_mul hb.1 hb.2.2.1 (by omega) (by omega) (by
    rw [Int.natAbs_mul]
    have h1 : a.natAbs < 1073741824 := by omega
    have h2 : n.natAbs < 1048576 := by omega
    calc a.natAbs * n.natAbs ≤ 1073741824 * n.natAbs := Nat.mul_le_mul_right _ (by omega)
      _ ≤ 1073741824 * 1048576 := Nat.mul_le_mul_left _ (by omega)
      _ < 2 ^ 53 := by decide)]
  exact h
theorem r_mod_fi (hA : A.handled = none) (hx : x = hf a) (hb : a % 2 = 0 ∧ a.natAbs < 1125899906842624 ∧ 0 < n ∧ n ≤ 262144)
    (hs1 : Float64.copysign (Float64.zero false) (Float64.ofInt n) = Float64.zero false) (hs2 : Float64.lt (Float64.ofInt n) (Float64.zero false) = false) (h : Q (.float (hf (2 * (a / 2 % n))) s.toks) { s with toks := s.toks + 1 }) :
    wpAny (model prog w) A (binaryOp .Mod (.float x t) (.int n u)) Q E s := by
  subst hx
  refine Flt.mod_fi hA (fun c => absurd c (big_over (by omega))) (fun c => absurd c (by omega)) fun _ _ => ?_
  have e : a = 2 * (a / 2) := by omega
  have h2 := hf_mod (k := a / 2) (n := n) (by omega) (by omega) (by omega) hs1 hs2
  rw [← e, Int.fmod_eq_emod_of_nonneg _ (by omega)] at h2
  rw [h2]
  exact h
theorem r_div_fi (hA : A.handled = none) (hb : 0 < n ∧ n ≤ 262144) (h : Q (.float (Float64.div x (Float64.ofInt n)) s.toks) { s with toks := s.toks + 1 }) :
    wpAny (model prog w) A (binaryOp .Div (.float x t) (.int n u)) Q E s :=
  Flt.truediv_fi hA (fun c => absurd c (big_over (by omega))) (fun c => absurd c (by omega)) fun _ _ => h
theorem r_div_ii (hA : A.handled = none) (hb : a.natAbs < 1125899906842624 ∧ 0 < n) (h : Q (.float (Float64.ofFrac (decide (a < 0) != decide (n < 0)) a.natAbs n.natAbs) s.toks) { s with toks := s.toks + 1 }) :
    wpAny (model prog w) A (binaryOp .Div (.int a t) (.int n u)) Q E s :=
  Flt.div_ii_fits hA (Nat.lt_trans hb.1 (by decide +kernel)) (fun c => absurd c (by omega)) fun _ _ => h
theorem fl_half (hb : a.natAbs < 1125899906842624) : Float64.isFinite (hf a) = true ∧ Flt.toInt Float64.floorOf (hf a) = a / 2 := by
  refine ⟨hf_finite (by omega), ?_⟩
  rw [hf_floor (by omega), Int.fdiv_eq_ediv_of_nonneg _ (by decide)]
theorem fl_frac (hb : 0 < n ∧ n ≤ 262144 ∧ a.natAbs < 17179869184) : Float64.isFinite (Float64.ofFrac (decide (a < 0) != decide (n < 0)) a.natAbs n.natAbs) = true ∧ Flt.toInt Float64.floorOf (Float64.ofFrac (decide (a < 0) != decide (n < 0)) a.natAbs n.natAbs) = a / n := by
  have h := frac_floor (a := a) hb.1 hb.2.1 (by omega)
  rw [Int.fdiv_eq_ediv_of_nonneg _ (by omega)] at h
  exact h
theorem fl_div (hb : a % 2 = 0 ∧ 0 < n ∧ n ≤ 262144 ∧ a.natAbs < 17179869184) : Float64.isFinite (Float64.div (hf a) (Float64.ofInt n)) = true ∧ Flt.toInt Float64.floorOf (Float64.div (hf a) (Float64.ofInt n)) = a / 2 / n := by
  have h := hf_div_floor (a := a / 2) hb.2.1 hb.2.2.1 (by omega)
  have e : 2 * (a / 2) = a := by omega
  rw [Int.fdiv_eq_ediv_of_nonneg _ (by omega), e] at h
  exact h
theorem r_floor (hA : A.handled = none) (hx : Float64.isFinite x = true ∧ Flt.toInt Float64.floorOf x = k) (h : Q (.int k s.toks) { s with toks := s.toks + 1 }) :
    wpAny (model prog w) A (call (.builtin "math.floor") [.float x t]) Q E s := by
  refine Flt.call_floor_float hA (fun c => absurd c (by rw [Flt.not_nan_of_finite hx.1]; decide)) (fun c => absurd c (by rw [Flt.not_inf_of_finite hx.1]; decide)) fun _ => ?_
  rw [hx.2]
  exact h
theorem r_trunc (hA : A.handled = none) (hx : x = hf a) (hb : a % 2 = 0 ∧ a.natAbs < 1125899906842624) (h : Q (.int (a / 2) s.toks) { s with toks := s.toks + 1 }) :
    wpAny (model prog w) A (call (.builtin "math.trunc") [.float x t]) Q E s := by
  subst hx
  have hf1 := hf_finite (n := a) (by omega)
  refine Flt.call_trunc_float hA (fun c => absurd c (by rw [Flt.not_nan_of_finite hf1]; decide)) (fun c => absurd c (by rw [Flt.not_inf_of_finite hf1]; decide)) fun _ => ?_
  have e : 2 * (a / 2) = a := by omega
  have h2 := hf_trunc (k := a / 2) (by omega)
  rw [e] at h2
  rw [h2]
  exact h
theorem r_int (hA : A.handled = none) (hx : x = hf a) (hb : a % 2 = 0 ∧ a.natAbs < 1125899906842624) (h : Q (.int (a / 2) s.toks) { s with toks := s.toks + 1 }) :
    wpAny (model prog w) A (call (.type "int") [.float x t]) Q E s := by
  subst hx
  have hf1 := hf_finite (n := a) (by omega)
  refine Flt.call_int_float3 hA (fun c => absurd c (by rw [Flt.not_nan_of_finite hf1]; decide)) (fun c => absurd c (by rw [Flt.not_inf_of_finite hf1]; decide)) fun _ => ?_
  have e : 2 * (a / 2) = a := by omega
  have h2 := hf_trunc (k := a / 2) (by omega)
  rw [e] at h2
  rw [h2]
  exact h
theorem r_lt_fi (hx : x = hf a) (hb : a.natAbs < 1125899906842624) (h : Q (.bool (decide (a < 2 * n))) s) : wpAny (model prog w) A (compareOp .Lt (.float x t) (.int n u)) Q E s := by
  subst hx
  refine lt_fi ?_
  rw [hf_cmpInt (by omega)]
  have e : (some (compare a (2 * n)) == some Ordering.lt) = decide (a < 2 * n) := by
    rcases Int.lt_trichotomy a (2 * n) with g | g | g
    · rw [Int.compare_eq_lt.mpr g]; simp [g]
    · rw [g]; simp
    · rw [Int.compare_eq_gt.mpr g]; simp; omega
  rw [e]
  exact h
theorem r_ne_ff (hx : x = hf a) (hy : y = hf b) (hb : a.natAbs < 1125899906842624 ∧ b.natAbs < 1125899906842624) (h : Q (.bool (decide (a ≠ b))) s) : wpAny (model prog w) A (compareOp .NotEq (.float x t) (.float y u)) Q E s := by
  subst hx
  subst hy
  refine AutoFloatOps.ne_0 ?_
  rw [hf_cmp (by omega) (by omega)]
  have e : (some (compare a b) != some Ordering.eq) = decide (a ≠ b) := by
    rcases Int.lt_trichotomy a b with g | g | g
    · rw [Int.compare_eq_lt.mpr g, decide_eq_true (show a ≠ b by omega)]; rfl
    · rw [g]; simp
    · rw [Int.compare_eq_gt.mpr g, decide_eq_true (show a ≠ b by omega)]; rfl
  rw [e]
  exact h
theorem r_mod_ii (hb : 0 < b) (h : Q (.int (a % b) s.toks) { s with toks := s.toks + 1 }) : wpAny (model prog w) A (binaryOp .Mod (.int a t) (.int b u)) Q E s :=
  mod_int' (by omega) (by rw [Int.fmod_eq_emod_of_nonneg _ (by omega)]; exact h)
theorem r_fdiv_ii (hb : 0 < b ∧ b < 1073741824) (h : Q (.int (a / b) s.toks) { s with toks := s.toks + 1 }) : wpAny (model prog w) A (binaryOp .FloorDiv (.int a t) (.int b u)) Q E s :=
  floordiv_int (by omega) (by rw [Int.fdiv_eq_ediv_of_nonneg _ (by omega)]; exact h) (Or.inl (PyProof.noPylong_small (by omega)))
end
end Mine
end

/-! part Dt -/
section
open PySem PySem.W PyProof.Rows PySem.Calls
namespace Mine
open PySem.Builtin PySem.Builtin._datetime

theorem d_mro : mroOf (.type "datetime.date") = pure [.type "datetime.date", .type "object"] := by rw [mroOf_type]; kernel_rfl
theorem d_lookup_new : typeLookup (.type "datetime.date") "__new__" = pure (some (.builtin "datetime.date.__new__")) := by rw [typeLookup_type, builtinLookup_eq_fast]; kernel_rfl
theorem d_slot_init : Slot "datetime.date" "__init__" "object.__init__" :=
  .of (owner := "object") (n := "__init__") (by rw [typeLookup_type, builtinLookup_eq_fast]; kernel_rfl) (by decide +kernel) (by decide +kernel) (by decide +kernel)
    (by first | exact .inl (by decide +kernel) | exact .inr (by decide +kernel)) (by rw [isSubtype_type]; kernel_rfl)
theorem d_called : TypeCalled "datetime.date" "datetime.date.__new__" "object.__init__" :=
  ⟨by decide +kernel, by decide +kernel, ⟨_, _, d_mro⟩, madeBy_type d_mro d_lookup_new (by decide +kernel), by decide +kernel, by rw [isSubtype_type]; kernel_rfl, d_slot_init⟩
theorem d_typeCall (a b c : Value) : checkTypeCall "datetime.date" ⟨[a, b, c], []⟩ = pure () := by kernel_rfl
theorem d_newCall (a b c : Value) : checkBuiltinCall "datetime.date.__new__" ⟨[.type "datetime.date", a, b, c], []⟩ = pure () := by kernel_rfl
theorem d_entry_new : entryFor table "datetime.date.__new__" = some Builtin.«datetime.date.__new__» := entryFor_of_tree (by kernel_rfl)
theorem d_sub : isSubtype (.type "datetime.date") (.type "datetime.date") = pure true := by rw [isSubtype_type]; kernel_rfl
theorem d_nsub : isSubtype (.type "datetime.date") (.type "datetime.datetime") = pure false := by rw [isSubtype_type]; kernel_rfl
theorem d_isType : isType (.type "datetime.date") = pure true := by kernel_rfl


section
variable {M : Model} {A : Around} {E : Value → Shared → Prop} {s : Shared}
theorem w_cint {n : Int} {t : Tok} {Q : Int → Shared → Prop} (hb : -1000000000 ≤ n ∧ n ≤ 1000000000) (h : Q n s) : wpAny M A (dtCInt (.int n t)) Q E s := by
  have f1 : decide ((decide (n ≥ 2 ^ 63) || decide (n < -2 ^ 63)) = true) = false := by simp; omega
  have f2 : decide (n ≥ 2 ^ 31) = false := by simp; omega
  have f3 : decide (n < -2 ^ 31) = false := by simp; omega
  repeat (any_goals (first | assumption | (with_reducible refine wpAny_ite_false f1 ?_) | (with_reducible refine wpAny_ite_false f2 ?_) | (with_reducible refine wpAny_ite_false f3 ?_) | wp_step))
theorem d_msg {y : Int} (hb : -1000000000 ≤ y ∧ y ≤ 1000000000) : (Str.ofString (toString "year " ++ toString y ++ toString " is out of range")).length ≤ sizeLine := by
  have h := int_text_length_le10 (a := y) (k := 10) (by decide) (by omega)
  rw [PySem.ofString_length, String.length_append, String.length_append]
  have e1 : (toString "year ").length = 5 := by decide +kernel
  have e2 : (toString " is out of range").length = 16 := by decide +kernel
  rw [e1, e2, sizeLine_eq]
  omega
theorem w_check {y m d : Int} {Q : Unit → Shared → Prop} (hA : A.handled = none) (hb : -1000000000 ≤ y ∧ y ≤ 1000000000)
    (hE : ¬ ((1 ≤ y ∧ y ≤ 9999) ∧ (1 ≤ m ∧ m ≤ 12) ∧ 1 ≤ d ∧ d ≤ daysInMonth y m) → ∀ h' tk e, Heap.NewExc s.heap h' e "ValueError" → E (.ref e) { s with heap := h', toks := tk })
    (hQ : (1 ≤ y ∧ y ≤ 9999) ∧ (1 ≤ m ∧ m ≤ 12) ∧ 1 ≤ d ∧ d ≤ daysInMonth y m → Q () s) : wpAny M A (checkDate y m d) Q E s := by
  unfold checkDate
  refine wpAny_ite_split (fun c => ?_) (fun c => ?_)
  · refine wpAny_bind (wpAny_rule (wpAny_bind ?_))
    exact wpAny_raiseErrorMade plainExc_ValueError hA (hE (by simp at c; omega)) (d_msg hb)
  · refine wpAny_ite_split (fun c2 => ?_) (fun c2 => ?_)
    · refine wpAny_bind (wpAny_rule (wpAny_bind ?_))
      exact wpAny_raiseErrorWords plainExc_ValueError hA (hE (by simp at c2; omega))
    · refine wpAny_ite_split (fun c3 => ?_) (fun c3 => ?_)
      · refine wpAny_bind (wpAny_rule ?_)
        exact wpAny_raiseErrorWords plainExc_ValueError hA (hE (by simp at c3; omega))
      · exact wpAny_pure (hQ (by simp at c c2 c3; omega))
end
/-- the object of a date -/
abbrev dateObj (y m d : Int) : Obj := { cls := .type "datetime.date", data := .fields #[.int y 0, .int m 0, .int d 0] }
abbrev inRange (y m d : Int) : Prop := (1 ≤ y ∧ y ≤ 9999) ∧ (1 ≤ m ∧ m ≤ 12) ∧ 1 ≤ d ∧ d ≤ daysInMonth y m
theorem d_new (y m d : Int) (t1 t2 t3 : Tok) (hb : (-1000000000 ≤ y ∧ y ≤ 1000000000) ∧ (-1000000000 ≤ m ∧ m ≤ 1000000000) ∧ -1000000000 ≤ d ∧ d ≤ 1000000000) :
    Meets (Builtin.«datetime.date.__new__» ⟨[.type "datetime.date", .int y t1, .int m t2, .int d t3], []⟩) (fun A R s => (A.handled = none) ∧ (inRange y m d → R (.ok (.ret (.ref s.heap.objs.size))) { s with heap := s.heap.push (dateObj y m d) }) ∧
  (¬ inRange y m d → ∀ h' tk e, Heap.NewExc s.heap h' e "ValueError" → R (.error (.ref e)) { s with heap := h', toks := tk })) := by
  refine Meets.of_wp fun prog w A R s hs => ?_
  have f1 := d_sub
  have f2 := d_nsub
  have f3 := d_isType
  have hA : A.in1.handled = none := hs.1
  repeat (any_goals (first | assumption | (with_reducible refine w_cint hb.1 ?_) | (with_reducible refine w_cint hb.2.1 ?_) | (with_reducible refine w_cint hb.2.2 ?_) | ((with_reducible refine w_check hA hb.1 hs.2.2 (fun hok => ?_)); have hr := hs.2.1 hok) | wp_step))
  exact ⟨_, rfl, hr⟩
end Mine
end

/-! part Dt2 -/
section
open PySem PySem.W PyProof.Rows PySem.Calls
namespace Mine
open PySem.Builtin PySem.Builtin._datetime
theorem args_oinit_4 (a b c d : Value) : argsOk "object.__init__" ⟨[a, b, c, d], []⟩ := by
  unfold argsOk; rw [signature?_of (id := "object.__init__") (n := ['_', '_', 't', 'i', 'n', 'i', '_', '_']) (o := ['t', 'c', 'e', 'j', 'b', 'o']) (by kernel_rfl) F.owner_object]; kernel_rfl
theorem call_date {prog : Program} {w : World} {A : Around} {E : Value → Shared → Prop} {s : Shared} {Q : Value → Shared → Prop} {y m d : Int} {t1 t2 t3 : Tok} (hA : A.handled = none)
    (hb : (-1000000000 ≤ y ∧ y ≤ 1000000000) ∧ (-1000000000 ≤ m ∧ m ≤ 1000000000) ∧ -1000000000 ≤ d ∧ d ≤ 1000000000)
    (hE : ¬ inRange y m d → ∀ h' tk e, Heap.NewExc s.heap h' e "ValueError" → E (.ref e) { s with heap := h', toks := tk })
    (hQ : inRange y m d → Q (.ref s.heap.objs.size) { s with heap := s.heap.push (dateObj y m d) }) :
    wpAny (model prog w) A (call (.type "datetime.date") [.int y t1, .int m t2, .int d t3]) Q E s := by
  refine callType_new d_called (by decide) (d_typeCall _ _ _) (d_newCall _ _ _) (fun obj => args_oinit_4 _ _ _ _) d_entry_new (d_new y m d t1 t2 t3 hb) ⟨hA, fun h => ⟨?_, hQ h⟩, hE⟩
  exact ⟨_, Heap.get?_push_size _ rfl, rfl⟩
theorem i_plain : PlainAttrs "datetime.date" :=
  ⟨⟨"object.__getattribute__", by rw [typeLookup_type, builtinLookup_eq_fast]; kernel_rfl, by decide +kernel⟩, by rw [typeLookup_type, builtinLookup_eq_fast]; kernel_rfl⟩
theorem i_slot : Slot "datetime.date" "isocalendar" "datetime.date.isocalendar" :=
  .of (owner := "datetime.date") (n := "isocalendar") (by rw [typeLookup_type, builtinLookup_eq_fast]; kernel_rfl) (by decide +kernel) (by decide +kernel) (by decide +kernel)
    (by first | exact .inl (by decide +kernel) | exact .inr (by decide +kernel)) (by rw [isSubtype_type]; kernel_rfl)
theorem i_type : typeOf (.builtin "datetime.date.isocalendar") = pure (.type "method_descriptor") := by show builtinType _ = _; rw [builtinType_eq_fast]; kernel_rfl
theorem i_entry : entryFor table "datetime.date.isocalendar" = some Builtin.«datetime.date.isocalendar» := entryFor_of_tree (by kernel_rfl)
theorem i_args (a : Value) : argsOk "datetime.date.isocalendar" ⟨[a], []⟩ := by unfold argsOk; kernel_rfl
/-- the object that isocalendar gives -/
abbrev isoObj (a b c : Int) (t1 t2 t3 : Tok) : Obj := { cls := .type "datetime.IsoCalendarDate", data := .seq #[.int a t1, .int b t2, .int c t3] }
theorem i_gives (y m d : Int) (D : Addr) :
    Meets (Builtin.«datetime.date.isocalendar» ⟨[.ref D], []⟩) (fun _ R s => s.heap.get? D = some (dateObj y m d) ∧
      R (.ok (.ret (.ref s.heap.objs.size))) { s with heap := s.heap.push (isoObj (isoCalendarOf y m d).1 (isoCalendarOf y m d).2.1 (isoCalendarOf y m d).2.2 s.toks (s.toks + 1) (s.toks + 1 + 1)), toks := s.toks + 1 + 1 + 1 }) := by
  refine Meets.of_wp fun prog w A R s hs => ?_
  obtain ⟨hp, g, dd, tk, os⟩ := s
  have hT : (⟨hp, g, dd, tk, os⟩ : Shared).TypeIs (.ref D) "datetime.date" := ⟨_, hs.1, rfl⟩
  have hg : hp.get? D = some (dateObj y m d) := hs.1
  have f1 := d_sub
  repeat (any_goals (first | assumption | wp_step))
  exact ⟨_, rfl, hs.2⟩
theorem call_isocal {prog : Program} {w : World} {A : Around} {E : Value → Shared → Prop} {s : Shared} {Q : Value → Shared → Prop} {y m d : Int} {D : Addr} (hD : s.heap.get? D = some (dateObj y m d))
    (hQ : Q (.ref s.heap.objs.size) { s with heap := s.heap.push (isoObj (isoCalendarOf y m d).1 (isoCalendarOf y m d).2.1 (isoCalendarOf y m d).2.2 s.toks (s.toks + 1) (s.toks + 1 + 1)), toks := s.toks + 1 + 1 + 1 }) :
    wpAny (model prog w) A (call (.builtin "datetime.date.isocalendar") [.ref D]) Q E s :=
  call_meets i_slot ⟨_, hD, rfl⟩ i_entry (i_args _) (i_gives y m d D) ⟨hD, hQ⟩
theorem get_isocal {M : Model} {A : Around} {E : Value → Shared → Prop} {s : Shared} {y m d : Int} {D : Addr} {pl : Sem Bool} {Q : Value × List Value → Shared → Prop} (hD : s.heap.get? D = some (dateObj y m d))
    (h : Q (.builtin "datetime.date.isocalendar", [.ref D]) s) : wpAny M A (getMethod (.ref D) "isocalendar" pl) Q E s :=
  getMethod_builtin ⟨_, hD, rfl⟩ i_plain i_slot i_type (fun a e => by cases e; exact ⟨_, hD, rfl⟩) h
section
variable {prog : Program} {w : World} {A : Around} {E : Value → Shared → Prop} {s : Shared} {h₀ : Heap} {L : Addr} {m : Str → Option Value} {news : List (Addr × Obj)} {Q : Value → Shared → Prop} {y mo d : Int} {t1 t2 t3 : Tok}
theorem date_K (F : Fr h₀ L s.heap m) (N : News h₀ L s.heap news) (hA : A.handled = none)
    (hb : (-1000000000 ≤ y ∧ y ≤ 1000000000) ∧ (-1000000000 ≤ mo ∧ mo ≤ 1000000000) ∧ -1000000000 ≤ d ∧ d ≤ 1000000000)
    (hE : ¬ inRange y mo d → ∀ h' tk e, Heap.NewExc s.heap h' e "ValueError" → E (.ref e) { s with heap := h', toks := tk })
    (hQ : inRange y mo d → ∀ D h', Fr h₀ L h' m → News h₀ L h' ((D, dateObj y mo d) :: news) → (∀ p ∈ news, p.1 < D) → Q (.ref D) { s with heap := h' }) :
    wpAny (model prog w) A (call (.type "datetime.date") [.int y t1, .int mo t2, .int d t3]) Q E s :=
  call_date hA hb hE fun hok => hQ hok _ _ (F.push _) (N.push F _) fun p hp => Heap.lt_size (N p hp).1
theorem isocal_K {D : Addr} (F : Fr h₀ L s.heap m) (N : News h₀ L s.heap news) (hD : (D, dateObj y mo d) ∈ news)
    (hQ : ∀ C t1 t2 t3 h' tk, Fr h₀ L h' m → News h₀ L h' ((C, isoObj (isoCalendarOf y mo d).1 (isoCalendarOf y mo d).2.1 (isoCalendarOf y mo d).2.2 t1 t2 t3) :: news) → (∀ p ∈ news, p.1 < C) → Q (.ref C) { s with heap := h', toks := tk }) :
    wpAny (model prog w) A (call (.builtin "datetime.date.isocalendar") [.ref D]) Q E s :=
  call_isocal (N _ hD).1 (hQ _ _ _ _ _ _ (F.push _) (N.push F _) fun p hp => Heap.lt_size (N p hp).1)
theorem getiso_K {M : Model} {D : Addr} {pl : Sem Bool} {Q : Value × List Value → Shared → Prop} (N : News h₀ L s.heap news) (hD : (D, dateObj y mo d) ∈ news)
    (h : Q (.builtin "datetime.date.isocalendar", [.ref D]) s) : wpAny M A (getMethod (.ref D) "isocalendar" pl) Q E s := get_isocal (N _ hD).1 h
end
end Mine
end

/-! part Dt3 -/
section
open PySem PySem.W PyProof.Rows PySem.Calls
namespace Mine
open PySem.Builtin PySem.Builtin._datetime
theorem s_sub : isSubtype (.type "datetime.IsoCalendarDate") (.type "tuple") = pure true := by rw [isSubtype_type]; kernel_rfl
theorem s_nsub : isSubtype (.type "tuple") (.type "datetime.IsoCalendarDate") = pure false := by rw [isSubtype_type]; kernel_rfl
theorem s_slot_ne : Slot "datetime.IsoCalendarDate" (cmpInfo .NotEq).2.1 "tuple.__ne__" :=
  .of (owner := "tuple") (n := "__ne__") (by rw [typeLookup_type, builtinLookup_eq_fast]; kernel_rfl) (by decide +kernel) (by decide +kernel) (by decide +kernel)
    (by first | exact .inl (by decide +kernel) | exact .inr (by decide +kernel)) s_sub
theorem s_slot_eq : Slot "datetime.IsoCalendarDate" (cmpInfo .Eq).2.1 "tuple.__eq__" :=
  .of (owner := "tuple") (n := "__eq__") (by rw [typeLookup_type, builtinLookup_eq_fast]; kernel_rfl) (by decide +kernel) (by decide +kernel) (by decide +kernel)
    (by first | exact .inl (by decide +kernel) | exact .inr (by decide +kernel)) s_sub
abbrev tup3 (a b c : Int) (t1 t2 t3 : Tok) (n : Nat) : Obj := { cls := .type "tuple", data := .seq #[.int a t1, .int b t2, .int c t3] n }
theorem s_ne (a b c : Int) (t1 t2 t3 u1 u2 u3 : Tok) (n : Nat) (D D2 : Addr) :
    Meets (Builtin.«tuple.__ne__» ⟨[.ref D, .ref D2], []⟩) (fun _ R s => s.heap.get? D = some (isoObj a b c t1 t2 t3) ∧ s.heap.get? D2 = some (tup3 a b c u1 u2 u3 n) ∧ R (.ok (.ret (.bool false))) s) := by
  refine Meets.of_wp fun prog w A R s hs => ?_
  obtain ⟨hp, g, dd, tk, os⟩ := s
  have hg : hp.get? D = some (isoObj a b c t1 t2 t3) := hs.1
  have hg2 : hp.get? D2 = some (tup3 a b c u1 u2 u3 n) := hs.2.1
  have hT2 : (⟨hp, g, dd, tk, os⟩ : Shared).TypeIs (.ref D2) "tuple" := ⟨_, hg2, rfl⟩
  have f1 := AutoSeq1.sub_tuple_tuple
  repeat (any_goals (first | assumption | (with_reducible refine wpAny_eqBool_int ?_) | wp_step))
  exact ⟨_, rfl, hs.2.2⟩
theorem s_eq (a b c : Int) (t1 t2 t3 u1 u2 u3 : Tok) (n : Nat) (D D2 : Addr) :
    Meets (Builtin.«tuple.__eq__» ⟨[.ref D, .ref D2], []⟩) (fun _ R s => s.heap.get? D = some (isoObj a b c t1 t2 t3) ∧ s.heap.get? D2 = some (tup3 a b c u1 u2 u3 n) ∧ R (.ok (.ret (.bool true))) s) := by
  refine Meets.of_wp fun prog w A R s hs => ?_
  obtain ⟨hp, g, dd, tk, os⟩ := s
  have hg : hp.get? D = some (isoObj a b c t1 t2 t3) := hs.1
  have hg2 : hp.get? D2 = some (tup3 a b c u1 u2 u3 n) := hs.2.1
  have hT2 : (⟨hp, g, dd, tk, os⟩ : Shared).TypeIs (.ref D2) "tuple" := ⟨_, hg2, rfl⟩
  have f1 := AutoSeq1.sub_tuple_tuple
  repeat (any_goals (first | assumption | (with_reducible refine wpAny_eqBool_int ?_) | wp_step))
  exact ⟨_, rfl, hs.2.2⟩
theorem cmp_left {M : Model} {A : Around} {E : Value → Shared → Prop} {s : Shared} {a b : Value} {Ta Tb id : String} {op : CmpOp} {Q : Value → Shared → Prop} (ha : s.TypeIs a Ta) (hb : s.TypeIs b Tb)
    (hne : (Value.type Ta != Value.type Tb) = true) (hsub : isSubtype (.type Tb) (.type Ta) = pure false) (h : Slot Ta (cmpInfo op).2.1 id)
    (hc : wpAny M A (call (.builtin id) [a, b]) (fun v s' => v ≠ .notImplemented ∧ Q v s') E s) (hu : A.units < cLine) : wpAny M A (richCompare op a b) Q E s :=
  PySem.SeqAt.rc_left_or ha hb hne hsub h hc (.inr hu)
section
variable {prog : Program} {w : World} {A : Around} {E : Value → Shared → Prop} {s : Shared} {h₀ : Heap} {L D D2 : Addr} {news : List (Addr × Obj)} {Q : Value → Shared → Prop} {a b c a' b' c' : Int} {t1 t2 t3 u1 u2 u3 : Tok} {n : Nat}
theorem ne_K (N : News h₀ L s.heap news) (hD : (D, isoObj a b c t1 t2 t3) ∈ news) (hD2 : (D2, tup3 a' b' c' u1 u2 u3 n) ∈ news) (he : a = a' ∧ b = b' ∧ c = c') (hu : A.units < cLine) (h : Q (.bool false) s) :
    wpAny (model prog w) A (compareOp .NotEq (.ref D) (.ref D2)) Q E s := by
  obtain ⟨rfl, rfl, rfl⟩ := he
  exact cmp_left (op := .NotEq) ⟨_, (N _ hD).1, rfl⟩ ⟨_, (N _ hD2).1, rfl⟩ (by decide) s_nsub s_slot_ne (call_meets s_slot_ne ⟨_, (N _ hD).1, rfl⟩ F.entry_tuple_ne (F.args_tuple_ne_2 _ _) (s_ne a b c t1 t2 t3 u1 u2 u3 n D D2) ⟨(N _ hD).1, (N _ hD2).1, (fun e => nomatch e), h⟩) hu
theorem eq_K (N : News h₀ L s.heap news) (hD : (D, isoObj a b c t1 t2 t3) ∈ news) (hD2 : (D2, tup3 a' b' c' u1 u2 u3 n) ∈ news) (he : a = a' ∧ b = b' ∧ c = c') (hu : A.units < cLine) (h : Q (.bool true) s) :
    wpAny (model prog w) A (compareOp .Eq (.ref D) (.ref D2)) Q E s := by
  obtain ⟨rfl, rfl, rfl⟩ := he
  exact cmp_left (op := .Eq) ⟨_, (N _ hD).1, rfl⟩ ⟨_, (N _ hD2).1, rfl⟩ (by decide) s_nsub s_slot_eq (call_meets s_slot_eq ⟨_, (N _ hD).1, rfl⟩ F.entry_tuple_eq (F.args_tuple_eq_2 _ _) (s_eq a b c t1 t2 t3 u1 u2 u3 n D D2) ⟨(N _ hD).1, (N _ hD2).1, (fun e => nomatch e), h⟩) hu
end
end Mine
end

/-! part Base -/
section
open PySem PySem.W PyProof.Rows PySem.Calls
namespace Mine
abbrev Ends := Heap → Addr → (Str → Option Value) → List (Addr × Obj) → Shared → (Value → Shared → Prop) → (Value → Shared → Prop) → Prop

/-- a call of the def at f with the values vs, from any frame: what is owed behind it is Ret -/
abbrev Con (w : World) (f : Addr) (k : Nat) (vs : List Value) (Ret : Ends) : Prop :=
  ∀ (p : Program) (loose : List Str) (mean : ExcName → Option Value) (mg mb : Str → Option Value) (news : List (Addr × Obj)) (dp un : Nat) (gd : Option (List Code)) (cn : Str) (cs : Scope) (a : Addr) (ccd : Value) (cl : List (Str × Addr)) (outer : List Env) (A₀ : Around) (base h₀ : Heap) (L : Addr) (m : Str → Option Value) (s : Shared) (Q E : Value → Shared → Prop),
    Below A₀ base outer h₀ → Fr h₀ L s.heap m → (Mine.hd.heap_39 w.params).In h₀ → News h₀ L s.heap news → Top p loose mean mg mb h₀ → cs.kind = .function →
    dp + k < recursionLimit → un + 8 * k < cLine → Ret h₀ L m news s Q E →
    wpAny (model PySem.Challenge.rw_ak5007_01.row.prog w) (ktrTop dp un gd cn cs L a ccd cl outer) (call (.ref f) vs) Q E s

abbrev RetB (b : Bool) : Ends := fun h₀ L m news s Q _ => ∀ (t : Tok) (h' : Heap) (tk' : Nat), Fr h₀ L h' m → News h₀ L h' news → Q (.bool b) { s with heap := h', toks := tk' }
abbrev RetI (n : Int) : Ends := fun h₀ L m news s Q _ => ∀ (t : Tok) (h' : Heap) (tk' : Nat), Fr h₀ L h' m → News h₀ L h' news → Q (.int n t) { s with heap := h', toks := tk' }
abbrev RetF (x : UInt64) : Ends := fun h₀ L m news s Q _ => ∀ (t : Tok) (h' : Heap) (tk' : Nat), Fr h₀ L h' m → News h₀ L h' news → Q (.float x t) { s with heap := h', toks := tk' }
abbrev tupObj (vs : Array Value) (c : Nat) : Obj := { cls := .type "tuple", data := .seq vs c }
abbrev RetT3 (x y z : Int) : Ends := fun h₀ L m news s Q _ => ∀ (D : Addr) (t1 t2 t3 : Tok) (c : Nat) (h' : Heap) (tk' : Nat), Fr h₀ L h' m → News h₀ L h' ((D, tupObj #[.int x t1, .int y t2, .int z t3] c) :: news) → AllLt D news → Q (.ref D) { s with heap := h', toks := tk' }
section
variable {h₀ h' : Heap} {L : Addr} {m : Str → Option Value} {news : List (Addr × Obj)} {s : Shared} {Q : Value → Shared → Prop} {t : Tok} {tk' : Nat}
theorem endB {x y : Bool} (hret : ∀ (t : Tok) (h' : Heap) (tk' : Nat), Fr h₀ L h' m → News h₀ L h' news → Q (.bool x) { s with heap := h', toks := tk' }) (F : Fr h₀ L h' m) (N : News h₀ L h' news) (e : y = x) : Q (.bool y) { s with heap := h', toks := tk' } := by
  subst e
  exact hret 0 h' tk' F N
theorem endI {x y : Int} (hret : ∀ (t : Tok) (h' : Heap) (tk' : Nat), Fr h₀ L h' m → News h₀ L h' news → Q (.int x t) { s with heap := h', toks := tk' }) (F : Fr h₀ L h' m) (N : News h₀ L h' news) (e : y = x) : Q (.int y t) { s with heap := h', toks := tk' } := by
  subst e
  exact hret t h' tk' F N
theorem endF {x y : Int} (hret : ∀ (t : Tok) (h' : Heap) (tk' : Nat), Fr h₀ L h' m → News h₀ L h' news → Q (.float (hf x) t) { s with heap := h', toks := tk' }) (F : Fr h₀ L h' m) (N : News h₀ L h' news) (e : y = x) : Q (.float (hf y) t) { s with heap := h', toks := tk' } := by
  subst e
  exact hret t h' tk' F N
end
theorem con_use {w : World} {f : Addr} {k : Nat} {vs : List Value} {Ret : Ends} (C : Con w f k vs Ret) {p : Program} {loose : List Str} {mean : ExcName → Option Value} {mg mb : Str → Option Value} {news : List (Addr × Obj)} {dp un : Nat} {gd : Option (List Code)} {cn : Str} {cs : Scope} {a : Addr} {ccd : Value} {cl : List (Str × Addr)} {outer : List Env} {A₀ : Around} {base h₀ : Heap} {L : Addr} {m : Str → Option Value} {s : Shared} {Q E : Value → Shared → Prop}
    (B : Below A₀ base outer h₀) (F : Fr h₀ L s.heap m) (X : (Mine.hd.heap_39 w.params).In h₀) (N : News h₀ L s.heap news) (T : Top p loose mean mg mb h₀) (hk : cs.kind = .function)
    (hd : dp + k < recursionLimit) (hu : un + 8 * k < cLine) (hr : Ret h₀ L m news s Q E) :
    wpAny (model PySem.Challenge.rw_ak5007_01.row.prog w) (ktrTop dp un gd cn cs L a ccd cl outer) (call (.ref f) vs) Q E s := C _ _ _ _ _ _ _ _ _ _ _ _ _ _ _ _ _ _ _ _ _ _ _ B F X N T hk hd hu hr
theorem r_inK {prog : Program} {w : World} {A : Around} {E : Value → Shared → Prop} {s : Shared} {K : Frag} {h₀ : Heap} {L a : Addr} {m : Str → Option Value} {Q : Value → Shared → Prop} {l : List Value} {ns : List Int} {dd : Option Addr} {sl : Array (Option Value)} {n : Nat} {x : Int} {u : Tok}
    (F : Fr h₀ L s.heap m) (X : K.In h₀) (hl : K.lookup a = some ⟨.type "tuple", dd, .seq l.toArray n, sl⟩) (hi : IntsAre l ns) (h : Q (.bool (ns.any (· == x))) s) :
    wpAny (model prog w) A (compareOp .In (.int x u) (.ref a)) Q E s := in_tuple_ints (tupK (X.keeps F.keep) hl) (by simpa using hi) h
/-- the twelfth part of to_jd: a double that is no half -/
def mFl (m la d : Int) : UInt64 := Float64.add (Float64.add (Float64.ofFrac (decide (367 * m - 362 < 0) != decide ((12 : Int) < 0)) (367 * m - 362).natAbs (12 : Int).natAbs) (Float64.ofInt la)) (Float64.ofInt d)
def mOk (m la d : Int) : Bool := Float64.isFinite (mFl m la d) && (Flt.toInt Float64.floorOf (mFl m la d) == (367 * m - 362) / 12 + la + d)
theorem mOk_all : ∀ m : Fin 12, ∀ l : Fin 3, mOk (m.val + 1) (-l.val) 1 = true ∧ mOk (m.val + 1) (-l.val) 28 = true := by decide +kernel
theorem fl_month {m la d : Int} (hm : 1 ≤ m ∧ m ≤ 12) (hl : -2 ≤ la ∧ la ≤ 0) (hd : d = 1 ∨ d = 28) :
    Float64.isFinite (mFl m la d) = true ∧ Flt.toInt Float64.floorOf (mFl m la d) = (367 * m - 362) / 12 + la + d := by
  have h := mOk_all ⟨(m - 1).toNat, by omega⟩ ⟨(-la).toNat, by omega⟩
  have e1 : (((m - 1).toNat : Nat) : Int) + 1 = m := by omega
  have e2 : -(((-la).toNat : Nat) : Int) = la := by omega
  simp only [e1, e2] at h
  unfold mOk at h
  simp only [Bool.and_eq_true, beq_iff_eq] at h
  rcases hd with rfl | rfl
  · exact h.1
  · exact h.2
theorem fl_month' {m la d : Int} (hm : 1 ≤ m ∧ m ≤ 12) (hl : -2 ≤ la ∧ la ≤ 0) (hd : d = 1 ∨ d = 28) :
    Float64.isFinite (Float64.add (Float64.add (Float64.ofFrac (decide (367 * m - 362 < 0) != decide ((12 : Int) < 0)) (367 * m - 362).natAbs (12 : Int).natAbs) (Float64.ofInt la)) (Float64.ofInt d)) = true ∧
    Flt.toInt Float64.floorOf (Float64.add (Float64.add (Float64.ofFrac (decide (367 * m - 362 < 0) != decide ((12 : Int) < 0)) (367 * m - 362).natAbs (12 : Int).natAbs) (Float64.ofInt la)) (Float64.ofInt d)) = (367 * m - 362) / 12 + la + d := fl_month hm hl hd
theorem r_add_fi_any {prog : Program} {w : World} {A : Around} {E : Value → Shared → Prop} {s : Shared} {Q : Value → Shared → Prop} {t u : Tok} {x : UInt64} {n : Int} (hA : A.handled = none) (hb : n.natAbs < 1125899906842624) (h : Q (.float (Float64.add x (Float64.ofInt n)) s.toks) { s with toks := s.toks + 1 }) :
    wpAny (model prog w) A (binaryOp .Add (.float x t) (.int n u)) Q E s :=
  add_fi_sharp hA (fun c => absurd c (big_sharp hb)) fun _ => h
/-- what a name shall hold from here on, and the fact that shows it: said ahead of a walk -/
inductive Is (nm : Str) (v : Int) (P : Prop) : Prop where
  | mk (h : P) : Is nm v P
theorem Is.by (nm : Str) (v : Int) {P : Prop} (h : P) : Is nm v P := Is.mk h
theorem Is.out {nm : Str} {v : Int} {P : Prop} (h : Is nm v P) : P := by cases h; assumption
section
variable {M : Model} {A : Around} {E : Value → Shared → Prop} {s : Shared} {env : Env} {nm : Str} {e v : Int} {t : Tok} {Q : Unit → Shared → Prop} {P : Prop}
theorem store_isF (hi : Is nm v P) (he : P → e = v) (h : wpAny M A (storeName env nm (.float (hf v) t)) Q E s) : wpAny M A (storeName env nm (.float (hf e) t)) Q E s := by rw [he hi.out]; exact h
theorem store_isI (hi : Is nm v P) (he : P → e = v) (h : wpAny M A (storeName env nm (.int v t)) Q E s) : wpAny M A (storeName env nm (.int e t)) Q E s := by rw [he hi.out]; exact h
end
theorem lp_one {y : Int} (h : leapB y = true) : lp y = 1 := by unfold lp; rw [if_pos h]
theorem lp_nil {y : Int} (h : leapB y = false) : lp y = 0 := by unfold lp; rw [h]; rfl
theorem r_add_leap {prog : Program} {w : World} {A : Around} {E : Value → Shared → Prop} {s : Shared} {Q : Value → Shared → Prop} {u : Tok} {n y : Int} (h : Q (.int (n + lp y) s.toks) { s with toks := s.toks + 1 }) :
    wpAny (model prog w) A (binaryOp .Add (.int n u) (.bool (leapB y))) Q E s := add_int_bool h
/-- the if at this place leaves its name with this value on every way -/
inductive CutAt (pos : Pos) (x : Str) (v : Int) : Prop where
  | mk : CutAt pos x v
theorem CutAt.any (pos : Pos) (x : Str) (v : Int) : CutAt pos x v := CutAt.mk
structure CutV (x : Str) (v : Int) (h₀ : Heap) (L : Addr) (m : Str → Option Value) (news : List (Addr × Obj)) (s : Shared) (f : Flow) (s' : Shared) : Prop where
  next : f = .next
  here : ∃ (t : Tok) (h : Heap) (tk : Nat), s' = { s with heap := h, toks := tk } ∧ Fr h₀ L h (fun y => if y = x then some (.int v t) else m y) ∧ News h₀ L h news
section
variable {M : Model} {A : Around} {E : Value → Shared → Prop} {s : Shared} {env : Env} {h₀ : Heap} {L : Addr} {m : Str → Option Value} {news : List (Addr × Obj)}
theorem cut_if {test : Expr} {b o : List Stmt} {x : Str} {pos : Pos} {v : Int} {Q : Flow → Shared → Prop} (_hc : CutAt pos x v) (_F : Fr h₀ L s.heap m) (_N : News h₀ L s.heap news)
    (h1 : wpAny M A (isTrue test env (eval test env)) (fun k s₂ => if k then wpAny M A (execs b env) (fun f s₃ => CutV x v h₀ L m news s f s₃) E s₂ else wpAny M A (execs o env) (fun f s₃ => CutV x v h₀ L m news s f s₃) E s₂) E s)
    (hk : ∀ (t : Tok) (h : Heap) (tk : Nat), Fr h₀ L h (fun y => if y = x then some (.int v t) else m y) → News h₀ L h news → Q .next { s with heap := h, toks := tk }) :
    wpAny M A (exec (.If test b o pos) env) Q E s := by
  refine wpAny_mono (wpAny_If h1) (fun f s₂ hf => ?_) fun _ _ h => h
  obtain ⟨rfl, t, h, tk, rfl, F, N⟩ := hf
  exact hk t h tk F N
theorem cutV_set {x : Str} {v : Int} {t : Tok} {h : Heap} {tk : Nat} (F : Fr h₀ L h (fun y => if y = x then some (.int v t) else m y)) (N : News h₀ L h news) : CutV x v h₀ L m news s .next { s with heap := h, toks := tk } := ⟨rfl, t, h, tk, rfl, F, N⟩
theorem cutV_keep {x : Str} {e v : Int} {t : Tok} {h : Heap} {tk : Nat} {P : Prop} (hi : Is x v P) (F : Fr h₀ L h m) (N : News h₀ L h news) (hold : m x = some (.int e t)) (he : P → e = v) : CutV x v h₀ L m news s .next { s with heap := h, toks := tk } := by
  refine ⟨rfl, t, h, tk, rfl, ?_, N⟩
  have hm : (fun y => if y = x then some (Value.int v t) else m y) = m := by
    funext y
    by_cases hy : y = x
    · rw [if_pos hy, hy, hold, he hi.out]
    · rw [if_neg hy]
  rw [hm]
  exact F
end
theorem endT3 {h₀ h' : Heap} {L D : Addr} {m : Str → Option Value} {news news' : List (Addr × Obj)} {s : Shared} {Q : Value → Shared → Prop} {t1 t2 t3 : Tok} {c : Nat} {tk' : Nat} {x y z x' y' z' : Int}
    (hret : ∀ (D : Addr) (t1 t2 t3 : Tok) (c : Nat) (h' : Heap) (tk' : Nat), Fr h₀ L h' m → News h₀ L h' ((D, tupObj #[.int x t1, .int y t2, .int z t3] c) :: news) → AllLt D news → Q (.ref D) { s with heap := h', toks := tk' })
    (F : Fr h₀ L h' m) (N : News h₀ L h' news') (hm : (D, tupObj #[.int x' t1, .int y' t2, .int z' t3] c) ∈ news') (hs : ∀ p ∈ news, p ∈ news') (hl : AllLt D news) (e : x' = x ∧ y' = y ∧ z' = z) : Q (.ref D) { s with heap := h', toks := tk' } := by
  obtain ⟨rfl, rfl, rfl⟩ := e
  refine hret D t1 t2 t3 c h' tk' F (fun p hp => ?_) hl
  rcases List.mem_cons.mp hp with rfl | hp
  · exact N _ hm
  · exact N p (hs p hp)
theorem mem_all0 {news : List (Addr × Obj)} : ∀ p ∈ news, p ∈ news := fun _ h => h
theorem mem_all1 {news news' : List (Addr × Obj)} {q : Addr × Obj} (h : ∀ p ∈ news, p ∈ news') : ∀ p ∈ news, p ∈ q :: news' := fun p hp => .tail _ (h p hp)
abbrev RetIso (x y z : Int) : Ends := fun h₀ L m news s Q _ => ∀ (D : Addr) (t1 t2 t3 : Tok) (h' : Heap) (tk' : Nat), Fr h₀ L h' m → News h₀ L h' ((D, isoObj x y z t1 t2 t3) :: news) → AllLt D news → Q (.ref D) { s with heap := h', toks := tk' }
abbrev RetS (x : Str) : Ends := fun h₀ L m news s Q _ => ∀ (t : Tok) (h' : Heap) (tk' : Nat), Fr h₀ L h' m → News h₀ L h' news → Q (.str x t) { s with heap := h', toks := tk' }
theorem endIso {h₀ h' : Heap} {L D : Addr} {m : Str → Option Value} {news news' : List (Addr × Obj)} {s : Shared} {Q : Value → Shared → Prop} {t1 t2 t3 : Tok} {tk' : Nat} {x y z x' y' z' : Int}
    (hret : ∀ (D : Addr) (t1 t2 t3 : Tok) (h' : Heap) (tk' : Nat), Fr h₀ L h' m → News h₀ L h' ((D, isoObj x y z t1 t2 t3) :: news) → AllLt D news → Q (.ref D) { s with heap := h', toks := tk' })
    (F : Fr h₀ L h' m) (N : News h₀ L h' news') (hm : (D, isoObj x' y' z' t1 t2 t3) ∈ news') (hs : ∀ p ∈ news, p ∈ news') (hl : AllLt D news) (e : x' = x ∧ y' = y ∧ z' = z) : Q (.ref D) { s with heap := h', toks := tk' } := by
  obtain ⟨rfl, rfl, rfl⟩ := e
  refine hret D t1 t2 t3 h' tk' F (fun p hp => ?_) hl
  rcases List.mem_cons.mp hp with rfl | hp
  · exact N _ hm
  · exact N p (hs p hp)
theorem endS {h₀ h' : Heap} {L : Addr} {m : Str → Option Value} {news news' : List (Addr × Obj)} {s : Shared} {Q : Value → Shared → Prop} {t : Tok} {tk' : Nat} {x : Str}
    (hret : ∀ (t : Tok) (h' : Heap) (tk' : Nat), Fr h₀ L h' m → News h₀ L h' news → Q (.str x t) { s with heap := h', toks := tk' }) (F : Fr h₀ L h' m) (N : News h₀ L h' news') (hs : ∀ p ∈ news, p ∈ news') : Q (.str x t) { s with heap := h', toks := tk' } := hret t h' tk' F (cb_drop N hs)
end Mine
end

/-! part Whl -/
section
open PySem PySem.W PyProof.Rows PySem.Calls
namespace Mine
inductive IsB (nm : Str) (v : Int) (P : Prop) : Prop where
  | mk (h : P) : IsB nm v P
theorem IsB.by (nm : Str) (v : Int) {P : Prop} (h : P) : IsB nm v P := IsB.mk h
theorem IsB.out {nm : Str} {v : Int} {P : Prop} (h : IsB nm v P) : P := by cases h; assumption
theorem store_isB {M : Model} {A : Around} {E : Value → Shared → Prop} {s : Shared} {env : Env} {nm : Str} {e v : Int} {t : Tok} {Q : Unit → Shared → Prop} {P : Prop} (hi : IsB nm v P) (he : P → e = v) (h : wpAny M A (storeName env nm (.int v t)) Q E s) : wpAny M A (storeName env nm (.int e t)) Q E s := by rw [he hi.out]; exact h
theorem whl_two {c : Prop} [Decidable c] {T F : Prop} (h : c → T) (k : ¬ c → F) : WhlIf (decide c) T F := by
  by_cases hc : c
  · exact WhlIf.yes (decide_eq_true hc) (h hc)
  · exact WhlIf.no (decide_eq_false hc) (k hc)
end Mine
end

/-! part Con0 -/
section
open PySem PySem.W PyProof.Rows PySem.Calls
namespace Mine
/-- the same, from the lowest frame alone: for a def that catches -/
abbrev Con0 (w : World) (f : Addr) (k : Nat) (vs : List Value) (Ret : Ends) : Prop :=
  ∀ (p : Program) (loose : List Str) (mean : ExcName → Option Value) (mg mb : Str → Option Value) (news : List (Addr × Obj)) (dp un : Nat) (gd : Option (List Code)) (cn : Str) (cs : Scope) (a : Addr) (ccd : Value) (A₀ : Around) (base h₀ : Heap) (L : Addr) (m : Str → Option Value) (s : Shared) (Q E : Value → Shared → Prop),
    Below A₀ base [] h₀ → Fr h₀ L s.heap m → (Mine.hd.heap_39 w.params).In h₀ → News h₀ L s.heap news → Top p loose mean mg mb h₀ → cs.kind = .function → (Mine.hd.heap_39 w.params).In base → Top p loose mean mg mb base →
    dp + k < recursionLimit → un + 8 * k < cLine → Ret h₀ L m news s Q E →
    wpAny (model PySem.Challenge.rw_ak5007_01.row.prog w) (ktrTop dp un gd cn cs L a ccd [] []) (call (.ref f) vs) Q E s
theorem con0_use {w : World} {f : Addr} {k : Nat} {vs : List Value} {Ret : Ends} (C : Con0 w f k vs Ret) {p : Program} {loose : List Str} {mean : ExcName → Option Value} {mg mb : Str → Option Value} {news : List (Addr × Obj)} {dp un : Nat} {gd : Option (List Code)} {cn : Str} {cs : Scope} {a : Addr} {ccd : Value} {A₀ : Around} {base h₀ : Heap} {L : Addr} {m : Str → Option Value} {s : Shared} {Q E : Value → Shared → Prop}
    (B : Below A₀ base [] h₀) (F : Fr h₀ L s.heap m) (X : (Mine.hd.heap_39 w.params).In h₀) (N : News h₀ L s.heap news) (T : Top p loose mean mg mb h₀) (hk : cs.kind = .function) (XB : (Mine.hd.heap_39 w.params).In base) (TB : Top p loose mean mg mb base)
    (hd : dp + k < recursionLimit) (hu : un + 8 * k < cLine) (hr : Ret h₀ L m news s Q E) :
    wpAny (model PySem.Challenge.rw_ak5007_01.row.prog w) (ktrTop dp un gd cn cs L a ccd [] []) (call (.ref f) vs) Q E s := C _ _ _ _ _ _ _ _ _ _ _ _ _ _ _ _ _ _ _ _ _ B F X N T hk XB TB hd hu hr
end Mine
end

/-! part C1 -/
section
open PySem PySem.W PyProof.Rows PySem.Calls
namespace Mine
local macro_rules | `(tactic| walk_at "binaryOp Add float int") => `(tactic| first | (with_plain (refine' r_add_fi ?hA ?hx ?hb ?_); (case hA => with_plain (exact rfl)); (case hx => first | with_reducible rfl | exact hf_half | exact hf_epoch); (case hb => omega)) | (with_plain (refine' r_add_fi_any ?hA ?hb ?_); (case hA => with_plain (exact rfl)); (case hb => omega)))
local macro_rules | `(tactic| walk_at "binaryOp Add int float") => `(tactic| (with_plain (refine' r_add_if ?hA ?hx ?hb ?_); (case hA => with_plain (exact rfl)); (case hx => first | with_reducible rfl | exact hf_half | exact hf_epoch); (case hb => omega)))
local macro_rules | `(tactic| walk_at "inplaceOp Add int float") => `(tactic| (with_plain (refine' r_iadd_if ?hA ?hx ?hb ?_); (case hA => with_plain (exact rfl)); (case hx => first | with_reducible rfl | exact hf_half | exact hf_epoch); (case hb => omega)))
local macro_rules | `(tactic| walk_at "binaryOp Sub float int") => `(tactic| (with_plain (refine' r_sub_fi ?hA ?hx ?hb ?_); (case hA => with_plain (exact rfl)); (case hx => first | with_reducible rfl | exact hf_half | exact hf_epoch); (case hb => omega)))
local macro_rules | `(tactic| walk_at "binaryOp Sub int float") => `(tactic| (with_plain (refine' r_sub_if ?hA ?hx ?hb ?_); (case hA => with_plain (exact rfl)); (case hx => first | with_reducible rfl | exact hf_half | exact hf_epoch); (case hb => omega)))
local macro_rules | `(tactic| walk_at "binaryOp Add float float") => `(tactic| (with_plain (refine' r_add_ff ?hx ?hy ?hb ?_); (case hx => first | with_reducible rfl | exact hf_half | exact hf_epoch); (case hy => first | with_reducible rfl | exact hf_half | exact hf_epoch); (case hb => omega)))
local macro_rules | `(tactic| walk_at "binaryOp Sub float float") => `(tactic| (with_plain (refine' r_sub_ff ?hx ?hy ?hb ?_); (case hx => first | with_reducible rfl | exact hf_half | exact hf_epoch); (case hy => first | with_reducible rfl | exact hf_half | exact hf_epoch); (case hb => omega)))
local macro_rules | `(tactic| walk_at "binaryOp Mult float int") => `(tactic| (with_plain (refine' r_mul_fi ?hA ?hx ?hb ?_); (case hA => with_plain (exact rfl)); (case hx => with_reducible rfl); (case hb => omega)))
local macro_rules | `(tactic| walk_at "binaryOp Mod float int") => `(tactic| (with_plain (refine' r_mod_fi ?hA ?hx ?hb ?hs1 ?hs2 ?_); (case hA => with_plain (exact rfl)); (case hx => with_reducible rfl); (case hb => omega); (case hs1 => decide +kernel); (case hs2 => decide +kernel)))
local macro_rules | `(tactic| walk_at "binaryOp Div float int") => `(tactic| (with_plain (refine' r_div_fi ?hA ?hb ?_); (case hA => with_plain (exact rfl)); (case hb => omega)))
local macro_rules | `(tactic| walk_at "binaryOp Div int int") => `(tactic| (with_plain (refine' r_div_ii ?hA ?hb ?_); (case hA => with_plain (exact rfl)); (case hb => omega)))
local macro_rules | `(tactic| walk_at "call builtin:math.floor") => `(tactic| (with_plain (refine' r_floor ?hA ?hx ?_); (case hA => with_plain (exact rfl)); (case hx => first | (with_reducible refine' fl_half ?hb; (case hb => omega)) | (with_reducible refine' fl_frac ?hb; (case hb => omega)) | (with_reducible refine' fl_div ?hb; (case hb => omega)) | (with_reducible refine' fl_month' ?hm ?hl ?hd; (case hm => omega); (case hl => omega); (case hd => omega)))))
local macro_rules | `(tactic| walk_at "call builtin:math.trunc") => `(tactic| (with_plain (refine' r_trunc ?hA ?hx ?hb ?_); (case hA => with_plain (exact rfl)); (case hx => with_reducible rfl); (case hb => omega)))
local macro_rules | `(tactic| walk_at "call type:int") => `(tactic| (with_plain (refine' r_int ?hA ?hx ?hb ?_); (case hA => with_plain (exact rfl)); (case hx => with_reducible rfl); (case hb => omega)))
local macro_rules | `(tactic| walk_at "compareOp Lt float int") => `(tactic| (with_plain (refine' r_lt_fi ?hx ?hb ?_); (case hx => with_reducible rfl); (case hb => omega)))
local macro_rules | `(tactic| walk_at "compareOp NotEq float float") => `(tactic| (with_plain (refine' r_ne_ff ?hx ?hy ?hb ?_); (case hx => with_reducible rfl); (case hy => with_reducible rfl); (case hb => omega)))
local macro_rules | `(tactic| walk_at "binaryOp Mod int int") => `(tactic| (with_reducible refine' r_mod_ii ?hb ?_; (case hb => omega)))
local macro_rules | `(tactic| walk_at "binaryOp FloorDiv int int") => `(tactic| (with_reducible refine' r_fdiv_ii ?hb ?_; (case hb => omega)))
local macro_rules | `(tactic| walk_at "compareOp In int ref") => `(tactic| (k_here; k_dflt (refine' r_inK ?F ?X ?l ?i ?_; (case F => k_asm); (case X => k_asm); (case l => k_is); (case i => repeat constructor))))
local macro_rules | `(tactic| walk_at "binaryOp Add int bool") => `(tactic| (with_reducible refine' r_add_leap ?_))
local macro_rules | `(tactic| walk_at "storeName") => `(tactic| (k_here; (with_reducible refine' store_isI ?hi ?he ?_); (case hi => with_reducible assumption); (case he => (intro hP9; first | omega | ((have hl9 := lp_one (by with_reducible assumption)); omega) | ((have hl9 := lp_nil (by with_reducible assumption)); omega))); k_dflt (refine' storeX_L ?F ?N ?_ ?a ?b; (case F => k_asm); (case N => k_asm); (case a => rfl); (case b => rfl); k_whole; intro h' F' N'; (try k_sweep))))
local macro_rules | `(tactic| walk_at "storeName") => `(tactic| (k_here; (with_reducible refine' store_isF ?hi ?he ?_); (case hi => with_reducible assumption); (case he => (intro hP9; first | omega | ((have hl9 := lp_one (by with_reducible assumption)); omega) | ((have hl9 := lp_nil (by with_reducible assumption)); omega))); k_dflt (refine' storeX_L ?F ?N ?_ ?a ?b; (case F => k_asm); (case N => k_asm); (case a => rfl); (case b => rfl); k_whole; intro h' F' N'; (try k_sweep))))
local macro_rules | `(tactic| walk_at "CutV") => `(tactic| k_dflt (first | (refine' cutV_set ?F ?N; (case F => assumption); (case N => assumption)) | (refine' cutV_keep ?hi ?F ?N ?ho ?he; (case hi => assumption); (case F => assumption); (case N => assumption); (case ho => exact rfl); (case he => (intro hP9; omega)))))
local macro_rules | `(tactic| walk_at "exec If") => `(tactic| (k_here; k_dflt (refine' cut_if ?hc ?F ?N ?_ ?_; (case hc => with_reducible assumption); (case F => k_asm); (case N => k_asm)); rotate_left; intro t9 h9 tk9 F9 N9; (try dsimp only); (try k_sweep); rotate_right))
theorem isleap_con (w : World) (y : Int) (ty : Tok) : Con w 102 1 [.int y ty] (RetB (leapB y)) := by
  dsimp only [Con, RetB]
  k_fill
  intros
  rename_i hret
  refine wpAny_call ?_
  k_dflt cell_enter
  k_steps
  all_goals (refine endB hret (by k_asm) (by k_asm) ?_)
  all_goals (unfold leapB; rw [Bool.eq_iff_iff]; (simp only [decide_eq_true_eq, Bool.not_eq_true, beq_eq_false_iff_ne, ne_eq, beq_iff_eq, bne_iff_ne, bne_eq_false_iff_eq] at *); omega)

theorem jwday_con (w : World) (n : Int) (ty : Tok) (hn : n % 2 = 1 ∧ n.natAbs < 17179869184) : Con w 59 1 [.float (hf n) ty] (RetI ((n + 1) / 2 % 7)) := by
  dsimp only [Con, RetI]
  k_fill
  intros
  rename_i hret
  refine wpAny_call ?_
  k_dflt cell_enter
  k_steps
  all_goals (refine endI hret (by k_asm) (by k_asm) ?_)
  all_goals omega
end Mine
end

/-! part C2 -/
section
open PySem PySem.W PyProof.Rows PySem.Calls
namespace Mine
local macro_rules | `(tactic| walk_at "binaryOp Add float int") => `(tactic| first | (with_plain (refine' r_add_fi ?hA ?hx ?hb ?_); (case hA => with_plain (exact rfl)); (case hx => first | with_reducible rfl | exact hf_half | exact hf_epoch); (case hb => omega)) | (with_plain (refine' r_add_fi_any ?hA ?hb ?_); (case hA => with_plain (exact rfl)); (case hb => omega)))
local macro_rules | `(tactic| walk_at "binaryOp Add int float") => `(tactic| (with_plain (refine' r_add_if ?hA ?hx ?hb ?_); (case hA => with_plain (exact rfl)); (case hx => first | with_reducible rfl | exact hf_half | exact hf_epoch); (case hb => omega)))
local macro_rules | `(tactic| walk_at "inplaceOp Add int float") => `(tactic| (with_plain (refine' r_iadd_if ?hA ?hx ?hb ?_); (case hA => with_plain (exact rfl)); (case hx => first | with_reducible rfl | exact hf_half | exact hf_epoch); (case hb => omega)))
local macro_rules | `(tactic| walk_at "binaryOp Sub float int") => `(tactic| (with_plain (refine' r_sub_fi ?hA ?hx ?hb ?_); (case hA => with_plain (exact rfl)); (case hx => first | with_reducible rfl | exact hf_half | exact hf_epoch); (case hb => omega)))
local macro_rules | `(tactic| walk_at "binaryOp Sub int float") => `(tactic| (with_plain (refine' r_sub_if ?hA ?hx ?hb ?_); (case hA => with_plain (exact rfl)); (case hx => first | with_reducible rfl | exact hf_half | exact hf_epoch); (case hb => omega)))
local macro_rules | `(tactic| walk_at "binaryOp Add float float") => `(tactic| (with_plain (refine' r_add_ff ?hx ?hy ?hb ?_); (case hx => first | with_reducible rfl | exact hf_half | exact hf_epoch); (case hy => first | with_reducible rfl | exact hf_half | exact hf_epoch); (case hb => omega)))
local macro_rules | `(tactic| walk_at "binaryOp Sub float float") => `(tactic| (with_plain (refine' r_sub_ff ?hx ?hy ?hb ?_); (case hx => first | with_reducible rfl | exact hf_half | exact hf_epoch); (case hy => first | with_reducible rfl | exact hf_half | exact hf_epoch); (case hb => omega)))
local macro_rules | `(tactic| walk_at "binaryOp Mult float int") => `(tactic| (with_plain (refine' r_mul_fi ?hA ?hx ?hb ?_); (case hA => with_plain (exact rfl)); (case hx => with_reducible rfl); (case hb => omega)))
local macro_rules | `(tactic| walk_at "binaryOp Mod float int") => `(tactic| (with_plain (refine' r_mod_fi ?hA ?hx ?hb ?hs1 ?hs2 ?_); (case hA => with_plain (exact rfl)); (case hx => with_reducible rfl); (case hb => omega); (case hs1 => decide +kernel); (case hs2 => decide +kernel)))
local macro_rules | `(tactic| walk_at "binaryOp Div float int") => `(tactic| (with_plain (refine' r_div_fi ?hA ?hb ?_); (case hA => with_plain (exact rfl)); (case hb => omega)))
local macro_rules | `(tactic| walk_at "binaryOp Div int int") => `(tactic| (with_plain (refine' r_div_ii ?hA ?hb ?_); (case hA => with_plain (exact rfl)); (case hb => omega)))
local macro_rules | `(tactic| walk_at "call builtin:math.floor") => `(tactic| (with_plain (refine' r_floor ?hA ?hx ?_); (case hA => with_plain (exact rfl)); (case hx => first | (with_reducible refine' fl_half ?hb; (case hb => omega)) | (with_reducible refine' fl_frac ?hb; (case hb => omega)) | (with_reducible refine' fl_div ?hb; (case hb => omega)) | (with_reducible refine' fl_month' ?hm ?hl ?hd; (case hm => omega); (case hl => omega); (case hd => omega)))))
local macro_rules | `(tactic| walk_at "call builtin:math.trunc") => `(tactic| (with_plain (refine' r_trunc ?hA ?hx ?hb ?_); (case hA => with_plain (exact rfl)); (case hx => with_reducible rfl); (case hb => omega)))
local macro_rules | `(tactic| walk_at "call type:int") => `(tactic| (with_plain (refine' r_int ?hA ?hx ?hb ?_); (case hA => with_plain (exact rfl)); (case hx => with_reducible rfl); (case hb => omega)))
local macro_rules | `(tactic| walk_at "compareOp Lt float int") => `(tactic| (with_plain (refine' r_lt_fi ?hx ?hb ?_); (case hx => with_reducible rfl); (case hb => omega)))
local macro_rules | `(tactic| walk_at "compareOp NotEq float float") => `(tactic| (with_plain (refine' r_ne_ff ?hx ?hy ?hb ?_); (case hx => with_reducible rfl); (case hy => with_reducible rfl); (case hb => omega)))
local macro_rules | `(tactic| walk_at "binaryOp Mod int int") => `(tactic| (with_reducible refine' r_mod_ii ?hb ?_; (case hb => omega)))
local macro_rules | `(tactic| walk_at "binaryOp FloorDiv int int") => `(tactic| (with_reducible refine' r_fdiv_ii ?hb ?_; (case hb => omega)))
local macro_rules | `(tactic| walk_at "compareOp In int ref") => `(tactic| (k_here; k_dflt (refine' r_inK ?F ?X ?l ?i ?_; (case F => k_asm); (case X => k_asm); (case l => k_is); (case i => repeat constructor))))
local macro_rules | `(tactic| walk_at "binaryOp Add int bool") => `(tactic| (with_reducible refine' r_add_leap ?_))
local macro_rules | `(tactic| walk_at "storeName") => `(tactic| (k_here; (with_reducible refine' store_isI ?hi ?he ?_); (case hi => with_reducible assumption); (case he => (intro hP9; first | omega | ((have hl9 := lp_one (by with_reducible assumption)); omega) | ((have hl9 := lp_nil (by with_reducible assumption)); omega))); k_dflt (refine' storeX_L ?F ?N ?_ ?a ?b; (case F => k_asm); (case N => k_asm); (case a => rfl); (case b => rfl); k_whole; intro h' F' N'; (try k_sweep))))
local macro_rules | `(tactic| walk_at "storeName") => `(tactic| (k_here; (with_reducible refine' store_isF ?hi ?he ?_); (case hi => with_reducible assumption); (case he => (intro hP9; first | omega | ((have hl9 := lp_one (by with_reducible assumption)); omega) | ((have hl9 := lp_nil (by with_reducible assumption)); omega))); k_dflt (refine' storeX_L ?F ?N ?_ ?a ?b; (case F => k_asm); (case N => k_asm); (case a => rfl); (case b => rfl); k_whole; intro h' F' N'; (try k_sweep))))
local macro_rules | `(tactic| walk_at "CutV") => `(tactic| k_dflt (first | (refine' cutV_set ?F ?N; (case F => assumption); (case N => assumption)) | (refine' cutV_keep ?hi ?F ?N ?ho ?he; (case hi => assumption); (case F => assumption); (case N => assumption); (case ho => exact rfl); (case he => (intro hP9; omega)))))
local macro_rules | `(tactic| walk_at "exec If") => `(tactic| (k_here; k_dflt (refine' cut_if ?hc ?F ?N ?_ ?_; (case hc => with_reducible assumption); (case F => k_asm); (case N => k_asm)); rotate_left; intro t9 h9 tk9 F9 N9; (try dsimp only); (try k_sweep); rotate_right))
local macro_rules | `(tactic| walk_at "call ref") => `(tactic| (k_here; k_dflt (refine' con_use (isleap_con _ _ _) ?k1 ?k2 ?k3 ?k4 ?k5 ?kK ?kd ?ku ?_;  (case k1 => k_asm); (case k2 => k_asm); (case k3 => k_asm); (case k4 => k_asm); (case k5 => k_asm); (case kK => first | exact rfl | assumption); (case kd => ktr_room); (case ku => ktr_units); k_whole); intro t9 h9 tk9 F9 N9; (try dsimp only); (try k_fold); (try k_sweep)))
local macro_rules | `(tactic| walk_at "call ref") => `(tactic| (k_here; k_dflt (refine' con_use (jwday_con _ _ _ ?hp) ?k1 ?k2 ?k3 ?k4 ?k5 ?kK ?kd ?ku ?_; (case hp => omega); (case k1 => k_asm); (case k2 => k_asm); (case k3 => k_asm); (case k4 => k_asm); (case k5 => k_asm); (case kK => first | exact rfl | assumption); (case kd => ktr_room); (case ku => ktr_units); k_whole); intro t9 h9 tk9 F9 N9; (try dsimp only); (try k_fold); (try k_sweep)))
theorem legal_con (w : World) (y m d : Int) (t1 t2 t3 : Tok) (hd : 1 ≤ d ∧ d ≤ 28) : Con w 109 2 [.int y t1, .int m t2, .int d t3] (RetB true) := by
  dsimp only [Con, RetB]
  k_fill
  intros
  rename_i hret
  refine wpAny_call ?_
  k_dflt cell_enter
  k_steps
  all_goals exact endB hret (by k_asm) (by k_asm) rfl
end Mine
end

/-! part C3 -/
section
open PySem PySem.W PyProof.Rows PySem.Calls
namespace Mine
local macro_rules | `(tactic| walk_at "binaryOp Add float int") => `(tactic| first | (with_plain (refine' r_add_fi ?hA ?hx ?hb ?_); (case hA => with_plain (exact rfl)); (case hx => first | with_reducible rfl | exact hf_half | exact hf_epoch); (case hb => omega)) | (with_plain (refine' r_add_fi_any ?hA ?hb ?_); (case hA => with_plain (exact rfl)); (case hb => omega)))
local macro_rules | `(tactic| walk_at "binaryOp Add int float") => `(tactic| (with_plain (refine' r_add_if ?hA ?hx ?hb ?_); (case hA => with_plain (exact rfl)); (case hx => first | with_reducible rfl | exact hf_half | exact hf_epoch); (case hb => omega)))
local macro_rules | `(tactic| walk_at "inplaceOp Add int float") => `(tactic| (with_plain (refine' r_iadd_if ?hA ?hx ?hb ?_); (case hA => with_plain (exact rfl)); (case hx => first | with_reducible rfl | exact hf_half | exact hf_epoch); (case hb => omega)))
local macro_rules | `(tactic| walk_at "binaryOp Sub float int") => `(tactic| (with_plain (refine' r_sub_fi ?hA ?hx ?hb ?_); (case hA => with_plain (exact rfl)); (case hx => first | with_reducible rfl | exact hf_half | exact hf_epoch); (case hb => omega)))
local macro_rules | `(tactic| walk_at "binaryOp Sub int float") => `(tactic| (with_plain (refine' r_sub_if ?hA ?hx ?hb ?_); (case hA => with_plain (exact rfl)); (case hx => first | with_reducible rfl | exact hf_half | exact hf_epoch); (case hb => omega)))
local macro_rules | `(tactic| walk_at "binaryOp Add float float") => `(tactic| (with_plain (refine' r_add_ff ?hx ?hy ?hb ?_); (case hx => first | with_reducible rfl | exact hf_half | exact hf_epoch); (case hy => first | with_reducible rfl | exact hf_half | exact hf_epoch); (case hb => omega)))
local macro_rules | `(tactic| walk_at "binaryOp Sub float float") => `(tactic| (with_plain (refine' r_sub_ff ?hx ?hy ?hb ?_); (case hx => first | with_reducible rfl | exact hf_half | exact hf_epoch); (case hy => first | with_reducible rfl | exact hf_half | exact hf_epoch); (case hb => omega)))
local macro_rules | `(tactic| walk_at "binaryOp Mult float int") => `(tactic| (with_plain (refine' r_mul_fi ?hA ?hx ?hb ?_); (case hA => with_plain (exact rfl)); (case hx => with_reducible rfl); (case hb => omega)))
local macro_rules | `(tactic| walk_at "binaryOp Mod float int") => `(tactic| (with_plain (refine' r_mod_fi ?hA ?hx ?hb ?hs1 ?hs2 ?_); (case hA => with_plain (exact rfl)); (case hx => with_reducible rfl); (case hb => omega); (case hs1 => decide +kernel); (case hs2 => decide +kernel)))
local macro_rules | `(tactic| walk_at "binaryOp Div float int") => `(tactic| (with_plain (refine' r_div_fi ?hA ?hb ?_); (case hA => with_plain (exact rfl)); (case hb => omega)))
local macro_rules | `(tactic| walk_at "binaryOp Div int int") => `(tactic| (with_plain (refine' r_div_ii ?hA ?hb ?_); (case hA => with_plain (exact rfl)); (case hb => omega)))
local macro_rules | `(tactic| walk_at "call builtin:math.floor") => `(tactic| (with_plain (refine' r_floor ?hA ?hx ?_); (case hA => with_plain (exact rfl)); (case hx => first | (with_reducible refine' fl_half ?hb; (case hb => omega)) | (with_reducible refine' fl_frac ?hb; (case hb => omega)) | (with_reducible refine' fl_div ?hb; (case hb => omega)) | (with_reducible refine' fl_month' ?hm ?hl ?hd; (case hm => omega); (case hl => omega); (case hd => omega)))))
local macro_rules | `(tactic| walk_at "call builtin:math.trunc") => `(tactic| (with_plain (refine' r_trunc ?hA ?hx ?hb ?_); (case hA => with_plain (exact rfl)); (case hx => with_reducible rfl); (case hb => omega)))
local macro_rules | `(tactic| walk_at "call type:int") => `(tactic| (with_plain (refine' r_int ?hA ?hx ?hb ?_); (case hA => with_plain (exact rfl)); (case hx => with_reducible rfl); (case hb => omega)))
local macro_rules | `(tactic| walk_at "compareOp Lt float int") => `(tactic| (with_plain (refine' r_lt_fi ?hx ?hb ?_); (case hx => with_reducible rfl); (case hb => omega)))
local macro_rules | `(tactic| walk_at "compareOp NotEq float float") => `(tactic| (with_plain (refine' r_ne_ff ?hx ?hy ?hb ?_); (case hx => with_reducible rfl); (case hy => with_reducible rfl); (case hb => omega)))
local macro_rules | `(tactic| walk_at "binaryOp Mod int int") => `(tactic| (with_reducible refine' r_mod_ii ?hb ?_; (case hb => omega)))
local macro_rules | `(tactic| walk_at "binaryOp FloorDiv int int") => `(tactic| (with_reducible refine' r_fdiv_ii ?hb ?_; (case hb => omega)))
local macro_rules | `(tactic| walk_at "compareOp In int ref") => `(tactic| (k_here; k_dflt (refine' r_inK ?F ?X ?l ?i ?_; (case F => k_asm); (case X => k_asm); (case l => k_is); (case i => repeat constructor))))
local macro_rules | `(tactic| walk_at "binaryOp Add int bool") => `(tactic| (with_reducible refine' r_add_leap ?_))
local macro_rules | `(tactic| walk_at "storeName") => `(tactic| (k_here; (with_reducible refine' store_isI ?hi ?he ?_); (case hi => with_reducible assumption); (case he => (intro hP9; first | omega | ((have hl9 := lp_one (by with_reducible assumption)); omega) | ((have hl9 := lp_nil (by with_reducible assumption)); omega))); k_dflt (refine' storeX_L ?F ?N ?_ ?a ?b; (case F => k_asm); (case N => k_asm); (case a => rfl); (case b => rfl); k_whole; intro h' F' N'; (try k_sweep))))
local macro_rules | `(tactic| walk_at "storeName") => `(tactic| (k_here; (with_reducible refine' store_isF ?hi ?he ?_); (case hi => with_reducible assumption); (case he => (intro hP9; first | omega | ((have hl9 := lp_one (by with_reducible assumption)); omega) | ((have hl9 := lp_nil (by with_reducible assumption)); omega))); k_dflt (refine' storeX_L ?F ?N ?_ ?a ?b; (case F => k_asm); (case N => k_asm); (case a => rfl); (case b => rfl); k_whole; intro h' F' N'; (try k_sweep))))
local macro_rules | `(tactic| walk_at "CutV") => `(tactic| k_dflt (first | (refine' cutV_set ?F ?N; (case F => assumption); (case N => assumption)) | (refine' cutV_keep ?hi ?F ?N ?ho ?he; (case hi => assumption); (case F => assumption); (case N => assumption); (case ho => exact rfl); (case he => (intro hP9; omega)))))
local macro_rules | `(tactic| walk_at "exec If") => `(tactic| (k_here; k_dflt (refine' cut_if ?hc ?F ?N ?_ ?_; (case hc => with_reducible assumption); (case F => k_asm); (case N => k_asm)); rotate_left; intro t9 h9 tk9 F9 N9; (try dsimp only); (try k_sweep); rotate_right))
local macro_rules | `(tactic| walk_at "call ref") => `(tactic| (k_here; k_dflt (refine' con_use (isleap_con _ _ _) ?k1 ?k2 ?k3 ?k4 ?k5 ?kK ?kd ?ku ?_;  (case k1 => k_asm); (case k2 => k_asm); (case k3 => k_asm); (case k4 => k_asm); (case k5 => k_asm); (case kK => first | exact rfl | assumption); (case kd => ktr_room); (case ku => ktr_units); k_whole); intro t9 h9 tk9 F9 N9; (try dsimp only); (try k_fold); (try k_sweep)))
local macro_rules | `(tactic| walk_at "call ref") => `(tactic| (k_here; k_dflt (refine' con_use (jwday_con _ _ _ ?hp) ?k1 ?k2 ?k3 ?k4 ?k5 ?kK ?kd ?ku ?_; (case hp => omega); (case k1 => k_asm); (case k2 => k_asm); (case k3 => k_asm); (case k4 => k_asm); (case k5 => k_asm); (case kK => first | exact rfl | assumption); (case kd => ktr_room); (case ku => ktr_units); k_whole); intro t9 h9 tk9 F9 N9; (try dsimp only); (try k_fold); (try k_sweep)))
local macro_rules | `(tactic| walk_at "call ref") => `(tactic| (k_here; k_dflt (refine' con_use (legal_con _ _ _ _ _ _ _ ?hp) ?k1 ?k2 ?k3 ?k4 ?k5 ?kK ?kd ?ku ?_; (case hp => omega); (case k1 => k_asm); (case k2 => k_asm); (case k3 => k_asm); (case k4 => k_asm); (case k5 => k_asm); (case kK => first | exact rfl | assumption); (case kd => ktr_room); (case ku => ktr_units); k_whole); intro t9 h9 tk9 F9 N9; (try dsimp only); (try k_fold); (try k_sweep)))
theorem ladj_facts (y m : Int) : -2 ≤ ladj y m ∧ ladj y m ≤ 0 ∧ (m ≤ 2 → ladj y m = 0) ∧ (2 < m → ladj y m = lp y - 2) := by
  have h := lp_cases y
  have h1 := ladj_lo y m
  have h2 := ladj_eq y m
  by_cases hm : m ≤ 2
  · have := h1 hm; omega
  · have := h2 (by omega); omega
theorem to_jd_con (w : World) (y m d : Int) (t1 t2 t3 : Tok) (h : -20000000 ≤ y ∧ y ≤ 20000000 ∧ 1 ≤ m ∧ m ≤ 12 ∧ (d = 1 ∨ d = 28)) : Con w 116 3 [.int y t1, .int m t2, .int d t3] (RetF (hf (2 * gj y m d - 1))) := by
  dsimp only [Con, RetF]
  k_fill
  have i1 := Is.by (Str.ofString "leap_adj") (ladj y m) (ladj_facts y m)
  have i2 := CutAt.any ⟨44, 4, 49, 21⟩ (Str.ofString "leap_adj") (ladj y m)
  have i3 : -2 ≤ ladj y m ∧ ladj y m ≤ 0 := ⟨(ladj_facts y m).1, (ladj_facts y m).2.1⟩
  intros
  rename_i hret
  refine wpAny_call ?_
  k_dflt cell_enter
  k_steps
  all_goals (refine endF hret (by k_asm) (by k_asm) ?_)
  all_goals (unfold gj; omega)
end Mine
end

/-! part C4 -/
section
open PySem PySem.W PyProof.Rows PySem.Calls
namespace Mine
theorem isleap_at (w : World) {ye y : Int} {ty : Tok} {P : Prop} (hi : Is (Str.ofString "Y") y P) (he : P → ye = y) : Con w 102 1 [.int ye ty] (RetB (leapB y)) := by rw [he hi.out]; exact isleap_con w y ty
theorem to_jd_at (w : World) {ye y m d : Int} {t1 t2 t3 : Tok} {P : Prop} (hi : Is (Str.ofString "Y") y P) (he : P → ye = y) (h : -20000000 ≤ y ∧ y ≤ 20000000 ∧ 1 ≤ m ∧ m ≤ 12 ∧ (d = 1 ∨ d = 28)) : Con w 116 3 [.int ye t1, .int m t2, .int d t3] (RetF (hf (2 * gj y m d - 1))) := by rw [he hi.out]; exact to_jd_con w y m d t1 t2 t3 h
end Mine
end

/-! part C5 -/
section
open PySem PySem.W PyProof.Rows PySem.Calls
namespace Mine
local macro_rules | `(tactic| walk_at "binaryOp Add float int") => `(tactic| first | (with_plain (refine' r_add_fi ?hA ?hx ?hb ?_); (case hA => with_plain (exact rfl)); (case hx => first | with_reducible rfl | exact hf_half | exact hf_epoch); (case hb => omega)) | (with_plain (refine' r_add_fi_any ?hA ?hb ?_); (case hA => with_plain (exact rfl)); (case hb => omega)))
local macro_rules | `(tactic| walk_at "binaryOp Add int float") => `(tactic| (with_plain (refine' r_add_if ?hA ?hx ?hb ?_); (case hA => with_plain (exact rfl)); (case hx => first | with_reducible rfl | exact hf_half | exact hf_epoch); (case hb => omega)))
local macro_rules | `(tactic| walk_at "inplaceOp Add int float") => `(tactic| (with_plain (refine' r_iadd_if ?hA ?hx ?hb ?_); (case hA => with_plain (exact rfl)); (case hx => first | with_reducible rfl | exact hf_half | exact hf_epoch); (case hb => omega)))
local macro_rules | `(tactic| walk_at "binaryOp Sub float int") => `(tactic| (with_plain (refine' r_sub_fi ?hA ?hx ?hb ?_); (case hA => with_plain (exact rfl)); (case hx => first | with_reducible rfl | exact hf_half | exact hf_epoch); (case hb => omega)))
local macro_rules | `(tactic| walk_at "binaryOp Sub int float") => `(tactic| (with_plain (refine' r_sub_if ?hA ?hx ?hb ?_); (case hA => with_plain (exact rfl)); (case hx => first | with_reducible rfl | exact hf_half | exact hf_epoch); (case hb => omega)))
local macro_rules | `(tactic| walk_at "binaryOp Add float float") => `(tactic| (with_plain (refine' r_add_ff ?hx ?hy ?hb ?_); (case hx => first | with_reducible rfl | exact hf_half | exact hf_epoch); (case hy => first | with_reducible rfl | exact hf_half | exact hf_epoch); (case hb => omega)))
local macro_rules | `(tactic| walk_at "binaryOp Sub float float") => `(tactic| (with_plain (refine' r_sub_ff ?hx ?hy ?hb ?_); (case hx => first | with_reducible rfl | exact hf_half | exact hf_epoch); (case hy => first | with_reducible rfl | exact hf_half | exact hf_epoch); (case hb => omega)))
local macro_rules | `(tactic| walk_at "binaryOp Mult float int") => `(tactic| (with_plain (refine' r_mul_fi ?hA ?hx ?hb ?_); (case hA => with_plain (exact rfl)); (case hx => with_reducible rfl); (case hb => omega)))
local macro_rules | `(tactic| walk_at "binaryOp Mod float int") => `(tactic| (with_plain (refine' r_mod_fi ?hA ?hx ?hb ?hs1 ?hs2 ?_); (case hA => with_plain (exact rfl)); (case hx => with_reducible rfl); (case hb => omega); (case hs1 => decide +kernel); (case hs2 => decide +kernel)))
local macro_rules | `(tactic| walk_at "binaryOp Div float int") => `(tactic| (with_plain (refine' r_div_fi ?hA ?hb ?_); (case hA => with_plain (exact rfl)); (case hb => omega)))
local macro_rules | `(tactic| walk_at "binaryOp Div int int") => `(tactic| (with_plain (refine' r_div_ii ?hA ?hb ?_); (case hA => with_plain (exact rfl)); (case hb => omega)))
local macro_rules | `(tactic| walk_at "call builtin:math.floor") => `(tactic| (with_plain (refine' r_floor ?hA ?hx ?_); (case hA => with_plain (exact rfl)); (case hx => first | (with_reducible refine' fl_half ?hb; (case hb => omega)) | (with_reducible refine' fl_frac ?hb; (case hb => omega)) | (with_reducible refine' fl_div ?hb; (case hb => omega)) | (with_reducible refine' fl_month' ?hm ?hl ?hd; (case hm => omega); (case hl => omega); (case hd => omega)))))
local macro_rules | `(tactic| walk_at "call builtin:math.trunc") => `(tactic| (with_plain (refine' r_trunc ?hA ?hx ?hb ?_); (case hA => with_plain (exact rfl)); (case hx => with_reducible rfl); (case hb => omega)))
local macro_rules | `(tactic| walk_at "call type:int") => `(tactic| (with_plain (refine' r_int ?hA ?hx ?hb ?_); (case hA => with_plain (exact rfl)); (case hx => with_reducible rfl); (case hb => omega)))
local macro_rules | `(tactic| walk_at "compareOp Lt float int") => `(tactic| (with_plain (refine' r_lt_fi ?hx ?hb ?_); (case hx => with_reducible rfl); (case hb => omega)))
local macro_rules | `(tactic| walk_at "compareOp NotEq float float") => `(tactic| (with_plain (refine' r_ne_ff ?hx ?hy ?hb ?_); (case hx => with_reducible rfl); (case hy => with_reducible rfl); (case hb => omega)))
local macro_rules | `(tactic| walk_at "binaryOp Mod int int") => `(tactic| (with_reducible refine' r_mod_ii ?hb ?_; (case hb => omega)))
local macro_rules | `(tactic| walk_at "binaryOp FloorDiv int int") => `(tactic| (with_reducible refine' r_fdiv_ii ?hb ?_; (case hb => omega)))
local macro_rules | `(tactic| walk_at "compareOp In int ref") => `(tactic| (k_here; k_dflt (refine' r_inK ?F ?X ?l ?i ?_; (case F => k_asm); (case X => k_asm); (case l => k_is); (case i => repeat constructor))))
local macro_rules | `(tactic| walk_at "binaryOp Add int bool") => `(tactic| (with_reducible refine' r_add_leap ?_))
local macro_rules | `(tactic| walk_at "storeName") => `(tactic| (k_here; (with_reducible refine' store_isI ?hi ?he ?_); (case hi => with_reducible assumption); (case he => (intro hP9; first | omega | ((have hl9 := lp_one (by with_reducible assumption)); omega) | ((have hl9 := lp_nil (by with_reducible assumption)); omega))); k_dflt (refine' storeX_L ?F ?N ?_ ?a ?b; (case F => k_asm); (case N => k_asm); (case a => rfl); (case b => rfl); k_whole; intro h' F' N'; (try k_sweep))))
local macro_rules | `(tactic| walk_at "storeName") => `(tactic| (k_here; (with_reducible refine' store_isF ?hi ?he ?_); (case hi => with_reducible assumption); (case he => (intro hP9; first | omega | ((have hl9 := lp_one (by with_reducible assumption)); omega) | ((have hl9 := lp_nil (by with_reducible assumption)); omega))); k_dflt (refine' storeX_L ?F ?N ?_ ?a ?b; (case F => k_asm); (case N => k_asm); (case a => rfl); (case b => rfl); k_whole; intro h' F' N'; (try k_sweep))))
local macro_rules | `(tactic| walk_at "CutV") => `(tactic| k_dflt (first | (refine' cutV_set ?F ?N; (case F => assumption); (case N => assumption)) | (refine' cutV_keep ?hi ?F ?N ?ho ?he; (case hi => assumption); (case F => assumption); (case N => assumption); (case ho => exact rfl); (case he => (intro hP9; omega)))))
local macro_rules | `(tactic| walk_at "exec If") => `(tactic| (k_here; k_dflt (refine' cut_if ?hc ?F ?N ?_ ?_; (case hc => with_reducible assumption); (case F => k_asm); (case N => k_asm)); rotate_left; intro t9 h9 tk9 F9 N9; (try dsimp only); (try k_sweep); rotate_right))
local macro_rules | `(tactic| walk_at "call ref") => `(tactic| (k_here; k_dflt (refine' con_use (isleap_at _ ?hi ?he) ?k1 ?k2 ?k3 ?k4 ?k5 ?kK ?kd ?ku ?_; (case hi => with_reducible assumption); (case he => intro hP9; first | omega | ((have hl9 := lp_one (by with_reducible assumption)); omega) | ((have hl9 := lp_nil (by with_reducible assumption)); omega)); (case k1 => k_asm); (case k2 => k_asm); (case k3 => k_asm); (case k4 => k_asm); (case k5 => k_asm); (case kK => first | exact rfl | assumption); (case kd => ktr_room); (case ku => ktr_units); k_whole); intro t9 h9 tk9 F9 N9; (try dsimp only); (try k_fold); (try k_sweep)))
local macro_rules | `(tactic| walk_at "call ref") => `(tactic| (k_here; k_dflt (refine' con_use (to_jd_at _ ?hi ?he ?hp) ?k1 ?k2 ?k3 ?k4 ?k5 ?kK ?kd ?ku ?_; (case hi => with_reducible assumption); (case he => intro hP9; first | omega | ((have hl9 := lp_one (by with_reducible assumption)); omega) | ((have hl9 := lp_nil (by with_reducible assumption)); omega)); (case hp => omega); (case k1 => k_asm); (case k2 => k_asm); (case k3 => k_asm); (case k4 => k_asm); (case k5 => k_asm); (case kK => first | exact rfl | assumption); (case kd => ktr_room); (case ku => ktr_units); k_whole); intro t9 h9 tk9 F9 N9; (try dsimp only); (try k_fold); (try k_sweep)))
theorem gj_bound {y m d : Int} (hy : -10000100 ≤ y ∧ y ≤ 10000100) (h : 0 ≤ yday y m d ∧ yday y m d ≤ 366) : -4000000000 ≤ gj y m d ∧ gj y m d ≤ 4000000000 := by
  have h1 := gj_yday y m d
  have h2 := gj_first y
  omega
theorem yday_first {y m d : Int} (h : okDate y m d) : 0 ≤ yday y m 1 ∧ yday y m 1 ≤ 366 := by
  have h1 := yday_back h
  have h2 : yday y m d = yday y m 1 + d - 1 := by unfold yday; omega
  have h3 := h.2.2.1
  have h4 : okDate y m 1 := ⟨h.1, h.2.1, by omega, by have := h.2.2.2; omega⟩
  have h5 := yday_back h4
  have h6 := lp_cases y
  omega
/-- what from_jd adds ahead of the month -/
theorem la_ex {y m d : Int} (h : okDate y m d) : ∃ la : Int, 0 ≤ la ∧ la ≤ 2 ∧ ((yday y m d < 58 + lp y → 0 = la) ∧ (¬ yday y m d < 58 + lp y → lp y = 1 → 1 = la) ∧ (¬ yday y m d < 58 + lp y → lp y = 0 → 2 = la)) ∧ ((yday y m d + la) * 12 + 373) / 367 = m := by
  obtain ⟨b0, b1, b2, b3, b4⟩ := yday_back h
  have hl := lp_cases y
  by_cases c : yday y m d < 58 + lp y
  · exact ⟨0, by omega, by omega, by omega, by omega⟩
  · by_cases c2 : lp y = 1
    · exact ⟨1, by omega, by omega, by omega, by omega⟩
    · exact ⟨2, by omega, by omega, by omega, by omega⟩
theorem from_jd_con (w : World) (a y m d : Int) (t : Tok) (h : okDate y m d) (ha : a = 2 * gj y m d - 1) (hy : -10000100 ≤ y ∧ y ≤ 10000100) : Con w 123 5 [.float (hf a) t] (RetT3 y m d) := by
  dsimp only [Con, RetT3]
  k_fill
  obtain ⟨A, R1, Cn, R2, Qd, R3, Yi, hN, a1, a2, a3, a4, a5, a6, a7, a8, a9, a10, hx1, hx2⟩ := year_back h
  obtain ⟨b0, b1, b2, b3, b4⟩ := yday_back h
  obtain ⟨la, l1, l2, l3, l4⟩ := la_ex h
  have hl := lp_cases y
  have hl2 : 0 ≤ lp y ∧ lp y ≤ 1 := by omega
  have hg := gj_bound hy (by omega : 0 ≤ yday y m d ∧ yday y m d ≤ 366)
  have hg1 := gj_bound (m := m) (d := 1) hy (yday_first h)
  have hg0 := gj_bound (m := 1) (d := 1) hy (by unfold yday; rw [ladj_lo y 1 (by decide)]; omega)
  have i1 := Is.by (Str.ofString "wjd") a ha
  have i2 := Is.by (Str.ofString "depoch") (2 * (gj y m d - 1721426)) ha
  have i3 := Is.by (Str.ofString "quadricent") A (And.intro hN (And.intro a1 a2))
  have i4 := Is.by (Str.ofString "dqc") (2 * R1) (And.intro hN (And.intro a1 a2))
  have i5 := Is.by (Str.ofString "cent") Cn (And.intro a3 (And.intro a4 a5))
  have i6 := Is.by (Str.ofString "dcent") (2 * R2) (And.intro a3 (And.intro a4 a5))
  have i7 := Is.by (Str.ofString "quad") Qd (And.intro a6 (And.intro a7 a8))
  have i8 := Is.by (Str.ofString "dquad") (2 * R3) (And.intro a6 (And.intro a7 a8))
  have i9 := Is.by (Str.ofString "yindex") Yi (And.intro a9 a10)
  have i10 := Is.by (Str.ofString "year") y (And.intro hx1 hx2)
  have i11 := Is.by (Str.ofString "Y") y True.intro
  have i12 := Is.by (Str.ofString "yearday") (2 * yday y m d) (And.intro ha (gj_yday y m d))
  have i13 := Is.by (Str.ofString "month") m l4
  have i14 := Is.by (Str.ofString "day") d (And.intro ha (gj_day y m d))
  have i15 := Is.by (Str.ofString "leap_adj") la l3
  have c1 := CutAt.any ⟨63, 4, 64, 17⟩ (Str.ofString "year") y
  have c2 := CutAt.any ⟨67, 4, 72, 20⟩ (Str.ofString "leap_adj") la
  have b1' : yday y m d ≤ 365 := by omega
  have h12 : 1 ≤ m ∧ m ≤ 12 := ⟨h.1, h.2.1⟩
  have hab : a % 2 = 1 ∧ -8000000001 ≤ a ∧ a ≤ 8000000000 := by omega
  clear hx1 hx2 b1 b2 b3 b4 l3 l4 hl hN a3 a6 a9 a10 h ha
  intros
  rename_i hret
  refine wpAny_call ?_
  k_dflt cell_enter
  k_steps
  all_goals exact endT3 hret (by assumption) (by assumption) (by k_mem) (by first | exact mem_all0 | exact mem_all1 mem_all0) (by first | assumption | exact allLt_of (by assumption) | kcu_lt) (by omega)
end Mine
end

/-! part C6 -/
section
open PySem PySem.W PyProof.Rows PySem.Calls
namespace Mine
local macro_rules | `(tactic| walk_at "no such key") => `(tactic| fail)
local macro_rules | `(tactic| walk_at "binaryOp Add float int") => `(tactic| first | (with_plain (refine' r_add_fi ?hA ?hx ?hb ?_); (case hA => with_plain (exact rfl)); (case hx => first | with_reducible rfl | exact hf_half | exact hf_epoch); (case hb => omega)) | (with_plain (refine' r_add_fi_any ?hA ?hb ?_); (case hA => with_plain (exact rfl)); (case hb => omega)))
local macro_rules | `(tactic| walk_at "binaryOp Add int float") => `(tactic| (with_plain (refine' r_add_if ?hA ?hx ?hb ?_); (case hA => with_plain (exact rfl)); (case hx => first | with_reducible rfl | exact hf_half | exact hf_epoch); (case hb => omega)))
local macro_rules | `(tactic| walk_at "inplaceOp Add int float") => `(tactic| (with_plain (refine' r_iadd_if ?hA ?hx ?hb ?_); (case hA => with_plain (exact rfl)); (case hx => first | with_reducible rfl | exact hf_half | exact hf_epoch); (case hb => omega)))
local macro_rules | `(tactic| walk_at "binaryOp Sub float int") => `(tactic| (with_plain (refine' r_sub_fi ?hA ?hx ?hb ?_); (case hA => with_plain (exact rfl)); (case hx => first | with_reducible rfl | exact hf_half | exact hf_epoch); (case hb => omega)))
local macro_rules | `(tactic| walk_at "binaryOp Sub int float") => `(tactic| (with_plain (refine' r_sub_if ?hA ?hx ?hb ?_); (case hA => with_plain (exact rfl)); (case hx => first | with_reducible rfl | exact hf_half | exact hf_epoch); (case hb => omega)))
local macro_rules | `(tactic| walk_at "binaryOp Add float float") => `(tactic| (with_plain (refine' r_add_ff ?hx ?hy ?hb ?_); (case hx => first | with_reducible rfl | exact hf_half | exact hf_epoch); (case hy => first | with_reducible rfl | exact hf_half | exact hf_epoch); (case hb => omega)))
local macro_rules | `(tactic| walk_at "binaryOp Sub float float") => `(tactic| (with_plain (refine' r_sub_ff ?hx ?hy ?hb ?_); (case hx => first | with_reducible rfl | exact hf_half | exact hf_epoch); (case hy => first | with_reducible rfl | exact hf_half | exact hf_epoch); (case hb => omega)))
local macro_rules | `(tactic| walk_at "binaryOp Mult float int") => `(tactic| (with_plain (refine' r_mul_fi ?hA ?hx ?hb ?_); (case hA => with_plain (exact rfl)); (case hx => with_reducible rfl); (case hb => omega)))
local macro_rules | `(tactic| walk_at "binaryOp Mod float int") => `(tactic| (with_plain (refine' r_mod_fi ?hA ?hx ?hb ?hs1 ?hs2 ?_); (case hA => with_plain (exact rfl)); (case hx => with_reducible rfl); (case hb => omega); (case hs1 => decide +kernel); (case hs2 => decide +kernel)))
local macro_rules | `(tactic| walk_at "binaryOp Div float int") => `(tactic| (with_plain (refine' r_div_fi ?hA ?hb ?_); (case hA => with_plain (exact rfl)); (case hb => omega)))
local macro_rules | `(tactic| walk_at "binaryOp Div int int") => `(tactic| (with_plain (refine' r_div_ii ?hA ?hb ?_); (case hA => with_plain (exact rfl)); (case hb => omega)))
local macro_rules | `(tactic| walk_at "call builtin:math.floor") => `(tactic| (with_plain (refine' r_floor ?hA ?hx ?_); (case hA => with_plain (exact rfl)); (case hx => first | (with_reducible refine' fl_half ?hb; (case hb => omega)) | (with_reducible refine' fl_frac ?hb; (case hb => omega)) | (with_reducible refine' fl_div ?hb; (case hb => omega)) | (with_reducible refine' fl_month' ?hm ?hl ?hd; (case hm => omega); (case hl => omega); (case hd => omega)))))
local macro_rules | `(tactic| walk_at "call builtin:math.trunc") => `(tactic| (with_plain (refine' r_trunc ?hA ?hx ?hb ?_); (case hA => with_plain (exact rfl)); (case hx => with_reducible rfl); (case hb => omega)))
local macro_rules | `(tactic| walk_at "call type:int") => `(tactic| (with_plain (refine' r_int ?hA ?hx ?hb ?_); (case hA => with_plain (exact rfl)); (case hx => with_reducible rfl); (case hb => omega)))
local macro_rules | `(tactic| walk_at "compareOp Lt float int") => `(tactic| (with_plain (refine' r_lt_fi ?hx ?hb ?_); (case hx => with_reducible rfl); (case hb => omega)))
local macro_rules | `(tactic| walk_at "compareOp NotEq float float") => `(tactic| (with_plain (refine' r_ne_ff ?hx ?hy ?hb ?_); (case hx => with_reducible rfl); (case hy => with_reducible rfl); (case hb => omega)))
local macro_rules | `(tactic| walk_at "binaryOp Mod int int") => `(tactic| (with_reducible refine' r_mod_ii ?hb ?_; (case hb => omega)))
local macro_rules | `(tactic| walk_at "binaryOp FloorDiv int int") => `(tactic| (with_reducible refine' r_fdiv_ii ?hb ?_; (case hb => omega)))
local macro_rules | `(tactic| walk_at "compareOp In int ref") => `(tactic| (k_here; k_dflt (refine' r_inK ?F ?X ?l ?i ?_; (case F => k_asm); (case X => k_asm); (case l => k_is); (case i => repeat constructor))))
local macro_rules | `(tactic| walk_at "binaryOp Add int bool") => `(tactic| (with_reducible refine' r_add_leap ?_))
local macro_rules | `(tactic| walk_at "storeName") => `(tactic| (k_here; (with_reducible refine' store_isI ?hi ?he ?_); (case hi => with_reducible assumption); (case he => (intro hP9; first | omega | ((have hl9 := lp_one (by with_reducible assumption)); omega) | ((have hl9 := lp_nil (by with_reducible assumption)); omega))); k_dflt (refine' storeX_L ?F ?N ?_ ?a ?b; (case F => k_asm); (case N => k_asm); (case a => rfl); (case b => rfl); k_whole; intro h' F' N'; (try k_sweep))))
local macro_rules | `(tactic| walk_at "storeName") => `(tactic| (k_here; (with_reducible refine' store_isF ?hi ?he ?_); (case hi => with_reducible assumption); (case he => (intro hP9; first | omega | ((have hl9 := lp_one (by with_reducible assumption)); omega) | ((have hl9 := lp_nil (by with_reducible assumption)); omega))); k_dflt (refine' storeX_L ?F ?N ?_ ?a ?b; (case F => k_asm); (case N => k_asm); (case a => rfl); (case b => rfl); k_whole; intro h' F' N'; (try k_sweep))))
local macro_rules | `(tactic| walk_at "CutV") => `(tactic| k_dflt (first | (refine' cutV_set ?F ?N; (case F => assumption); (case N => assumption)) | (refine' cutV_keep ?hi ?F ?N ?ho ?he; (case hi => assumption); (case F => assumption); (case N => assumption); (case ho => exact rfl); (case he => (intro hP9; omega)))))
local macro_rules | `(tactic| walk_at "exec If") => `(tactic| (k_here; k_dflt (refine' cut_if ?hc ?F ?N ?_ ?_; (case hc => with_reducible assumption); (case F => k_asm); (case N => k_asm)); rotate_left; intro t9 h9 tk9 F9 N9; (try dsimp only); (try k_sweep); rotate_right))
local macro_rules | `(tactic| walk_at "call ref") => `(tactic| (k_here; k_dflt (refine' con_use (isleap_con _ _ _) ?k1 ?k2 ?k3 ?k4 ?k5 ?kK ?kd ?ku ?_;  (case k1 => k_asm); (case k2 => k_asm); (case k3 => k_asm); (case k4 => k_asm); (case k5 => k_asm); (case kK => first | exact rfl | assumption); (case kd => ktr_room); (case ku => ktr_units); k_whole); intro t9 h9 tk9 F9 N9; (try dsimp only); (try k_fold); (try k_sweep)))
local macro_rules | `(tactic| walk_at "call ref") => `(tactic| (k_here; k_dflt (refine' con_use (jwday_con _ _ _ ?hp) ?k1 ?k2 ?k3 ?k4 ?k5 ?kK ?kd ?ku ?_; (case hp => omega); (case k1 => k_asm); (case k2 => k_asm); (case k3 => k_asm); (case k4 => k_asm); (case k5 => k_asm); (case kK => first | exact rfl | assumption); (case kd => ktr_room); (case ku => ktr_units); k_whole); intro t9 h9 tk9 F9 N9; (try dsimp only); (try k_fold); (try k_sweep)))
theorem weekday_before_con (w : World) (a : Int) (t1 t2 : Tok) (h : a % 2 = 1 ∧ -9000000000 ≤ a ∧ a ≤ 9000000000) : Con w 66 2 [.int 6 t1, .float (hf a) t2] (RetF (hf (a - 2 * ((a - 11) / 2 % 7)))) := by
  dsimp only [Con, RetF]
  k_fill
  intros
  rename_i hret
  refine wpAny_call ?_
  k_dflt cell_enter
  k_steps
  all_goals (refine endF hret (by k_asm) (by k_asm) ?_)
  all_goals omega
end Mine
end

/-! part C6b -/
section
open PySem PySem.W PyProof.Rows PySem.Calls
namespace Mine
local macro_rules | `(tactic| walk_at "binaryOp Add float int") => `(tactic| first | (with_plain (refine' r_add_fi ?hA ?hx ?hb ?_); (case hA => with_plain (exact rfl)); (case hx => first | with_reducible rfl | exact hf_half | exact hf_epoch); (case hb => omega)) | (with_plain (refine' r_add_fi_any ?hA ?hb ?_); (case hA => with_plain (exact rfl)); (case hb => omega)))
local macro_rules | `(tactic| walk_at "binaryOp Add int float") => `(tactic| (with_plain (refine' r_add_if ?hA ?hx ?hb ?_); (case hA => with_plain (exact rfl)); (case hx => first | with_reducible rfl | exact hf_half | exact hf_epoch); (case hb => omega)))
local macro_rules | `(tactic| walk_at "inplaceOp Add int float") => `(tactic| (with_plain (refine' r_iadd_if ?hA ?hx ?hb ?_); (case hA => with_plain (exact rfl)); (case hx => first | with_reducible rfl | exact hf_half | exact hf_epoch); (case hb => omega)))
local macro_rules | `(tactic| walk_at "binaryOp Sub float int") => `(tactic| (with_plain (refine' r_sub_fi ?hA ?hx ?hb ?_); (case hA => with_plain (exact rfl)); (case hx => first | with_reducible rfl | exact hf_half | exact hf_epoch); (case hb => omega)))
local macro_rules | `(tactic| walk_at "binaryOp Sub int float") => `(tactic| (with_plain (refine' r_sub_if ?hA ?hx ?hb ?_); (case hA => with_plain (exact rfl)); (case hx => first | with_reducible rfl | exact hf_half | exact hf_epoch); (case hb => omega)))
local macro_rules | `(tactic| walk_at "binaryOp Add float float") => `(tactic| (with_plain (refine' r_add_ff ?hx ?hy ?hb ?_); (case hx => first | with_reducible rfl | exact hf_half | exact hf_epoch); (case hy => first | with_reducible rfl | exact hf_half | exact hf_epoch); (case hb => omega)))
local macro_rules | `(tactic| walk_at "binaryOp Sub float float") => `(tactic| (with_plain (refine' r_sub_ff ?hx ?hy ?hb ?_); (case hx => first | with_reducible rfl | exact hf_half | exact hf_epoch); (case hy => first | with_reducible rfl | exact hf_half | exact hf_epoch); (case hb => omega)))
local macro_rules | `(tactic| walk_at "binaryOp Mult float int") => `(tactic| (with_plain (refine' r_mul_fi ?hA ?hx ?hb ?_); (case hA => with_plain (exact rfl)); (case hx => with_reducible rfl); (case hb => omega)))
local macro_rules | `(tactic| walk_at "binaryOp Mod float int") => `(tactic| (with_plain (refine' r_mod_fi ?hA ?hx ?hb ?hs1 ?hs2 ?_); (case hA => with_plain (exact rfl)); (case hx => with_reducible rfl); (case hb => omega); (case hs1 => decide +kernel); (case hs2 => decide +kernel)))
local macro_rules | `(tactic| walk_at "binaryOp Div float int") => `(tactic| (with_plain (refine' r_div_fi ?hA ?hb ?_); (case hA => with_plain (exact rfl)); (case hb => omega)))
local macro_rules | `(tactic| walk_at "binaryOp Div int int") => `(tactic| (with_plain (refine' r_div_ii ?hA ?hb ?_); (case hA => with_plain (exact rfl)); (case hb => omega)))
local macro_rules | `(tactic| walk_at "call builtin:math.floor") => `(tactic| (with_plain (refine' r_floor ?hA ?hx ?_); (case hA => with_plain (exact rfl)); (case hx => first | (with_reducible refine' fl_half ?hb; (case hb => omega)) | (with_reducible refine' fl_frac ?hb; (case hb => omega)) | (with_reducible refine' fl_div ?hb; (case hb => omega)) | (with_reducible refine' fl_month' ?hm ?hl ?hd; (case hm => omega); (case hl => omega); (case hd => omega)))))
local macro_rules | `(tactic| walk_at "call builtin:math.trunc") => `(tactic| (with_plain (refine' r_trunc ?hA ?hx ?hb ?_); (case hA => with_plain (exact rfl)); (case hx => with_reducible rfl); (case hb => omega)))
local macro_rules | `(tactic| walk_at "call type:int") => `(tactic| (with_plain (refine' r_int ?hA ?hx ?hb ?_); (case hA => with_plain (exact rfl)); (case hx => with_reducible rfl); (case hb => omega)))
local macro_rules | `(tactic| walk_at "compareOp Lt float int") => `(tactic| (with_plain (refine' r_lt_fi ?hx ?hb ?_); (case hx => with_reducible rfl); (case hb => omega)))
local macro_rules | `(tactic| walk_at "compareOp NotEq float float") => `(tactic| (with_plain (refine' r_ne_ff ?hx ?hy ?hb ?_); (case hx => with_reducible rfl); (case hy => with_reducible rfl); (case hb => omega)))
local macro_rules | `(tactic| walk_at "binaryOp Mod int int") => `(tactic| (with_reducible refine' r_mod_ii ?hb ?_; (case hb => omega)))
local macro_rules | `(tactic| walk_at "binaryOp FloorDiv int int") => `(tactic| (with_reducible refine' r_fdiv_ii ?hb ?_; (case hb => omega)))
local macro_rules | `(tactic| walk_at "compareOp In int ref") => `(tactic| (k_here; k_dflt (refine' r_inK ?F ?X ?l ?i ?_; (case F => k_asm); (case X => k_asm); (case l => k_is); (case i => repeat constructor))))
local macro_rules | `(tactic| walk_at "binaryOp Add int bool") => `(tactic| (with_reducible refine' r_add_leap ?_))
local macro_rules | `(tactic| walk_at "storeName") => `(tactic| (k_here; (with_reducible refine' store_isI ?hi ?he ?_); (case hi => with_reducible assumption); (case he => (intro hP9; first | omega | ((have hl9 := lp_one (by with_reducible assumption)); omega) | ((have hl9 := lp_nil (by with_reducible assumption)); omega))); k_dflt (refine' storeX_L ?F ?N ?_ ?a ?b; (case F => k_asm); (case N => k_asm); (case a => rfl); (case b => rfl); k_whole; intro h' F' N'; (try k_sweep))))
local macro_rules | `(tactic| walk_at "storeName") => `(tactic| (k_here; (with_reducible refine' store_isF ?hi ?he ?_); (case hi => with_reducible assumption); (case he => (intro hP9; first | omega | ((have hl9 := lp_one (by with_reducible assumption)); omega) | ((have hl9 := lp_nil (by with_reducible assumption)); omega))); k_dflt (refine' storeX_L ?F ?N ?_ ?a ?b; (case F => k_asm); (case N => k_asm); (case a => rfl); (case b => rfl); k_whole; intro h' F' N'; (try k_sweep))))
local macro_rules | `(tactic| walk_at "CutV") => `(tactic| k_dflt (first | (refine' cutV_set ?F ?N; (case F => assumption); (case N => assumption)) | (refine' cutV_keep ?hi ?F ?N ?ho ?he; (case hi => assumption); (case F => assumption); (case N => assumption); (case ho => exact rfl); (case he => (intro hP9; omega)))))
local macro_rules | `(tactic| walk_at "exec If") => `(tactic| (k_here; k_dflt (refine' cut_if ?hc ?F ?N ?_ ?_; (case hc => with_reducible assumption); (case F => k_asm); (case N => k_asm)); rotate_left; intro t9 h9 tk9 F9 N9; (try dsimp only); (try k_sweep); rotate_right))
local macro_rules | `(tactic| walk_at "call ref") => `(tactic| (k_here; k_dflt (refine' con_use (weekday_before_con _ _ _ _ ?hp) ?k1 ?k2 ?k3 ?k4 ?k5 ?kK ?kd ?ku ?_; (case hp => omega); (case k1 => k_asm); (case k2 => k_asm); (case k3 => k_asm); (case k4 => k_asm); (case k5 => k_asm); (case kK => first | exact rfl | assumption); (case kd => ktr_room); (case ku => ktr_units); k_whole); intro t9 h9 tk9 F9 N9; (try dsimp only); (try k_fold); (try k_sweep)))
theorem search_con (w : World) (a : Int) (t1 t2 t3 t4 : Tok) (h : a % 2 = 1 ∧ -8900000000 ≤ a ∧ a ≤ 8900000000) : Con w 73 3 [.int 6 t1, .float (hf a) t2, .int (-1) t3, .int 1 t4] (RetF (hf (a - 2 - 2 * ((a - 13) / 2 % 7)))) := by
  dsimp only [Con, RetF]
  k_fill
  intros
  rename_i hret
  refine wpAny_call ?_
  k_dflt cell_enter
  k_steps
  all_goals (refine endF hret (by k_asm) (by k_asm) ?_)
  all_goals omega
end Mine
end

/-! part C6c -/
section
open PySem PySem.W PyProof.Rows PySem.Calls
namespace Mine
local macro_rules | `(tactic| walk_at "no such key") => `(tactic| fail)
local macro_rules | `(tactic| walk_at "binaryOp Add float int") => `(tactic| first | (with_plain (refine' r_add_fi ?hA ?hx ?hb ?_); (case hA => with_plain (exact rfl)); (case hx => first | with_reducible rfl | exact hf_half | exact hf_epoch); (case hb => omega)) | (with_plain (refine' r_add_fi_any ?hA ?hb ?_); (case hA => with_plain (exact rfl)); (case hb => omega)))
local macro_rules | `(tactic| walk_at "binaryOp Add int float") => `(tactic| (with_plain (refine' r_add_if ?hA ?hx ?hb ?_); (case hA => with_plain (exact rfl)); (case hx => first | with_reducible rfl | exact hf_half | exact hf_epoch); (case hb => omega)))
local macro_rules | `(tactic| walk_at "inplaceOp Add int float") => `(tactic| (with_plain (refine' r_iadd_if ?hA ?hx ?hb ?_); (case hA => with_plain (exact rfl)); (case hx => first | with_reducible rfl | exact hf_half | exact hf_epoch); (case hb => omega)))
local macro_rules | `(tactic| walk_at "binaryOp Sub float int") => `(tactic| (with_plain (refine' r_sub_fi ?hA ?hx ?hb ?_); (case hA => with_plain (exact rfl)); (case hx => first | with_reducible rfl | exact hf_half | exact hf_epoch); (case hb => omega)))
local macro_rules | `(tactic| walk_at "binaryOp Sub int float") => `(tactic| (with_plain (refine' r_sub_if ?hA ?hx ?hb ?_); (case hA => with_plain (exact rfl)); (case hx => first | with_reducible rfl | exact hf_half | exact hf_epoch); (case hb => omega)))
local macro_rules | `(tactic| walk_at "binaryOp Add float float") => `(tactic| (with_plain (refine' r_add_ff ?hx ?hy ?hb ?_); (case hx => first | with_reducible rfl | exact hf_half | exact hf_epoch); (case hy => first | with_reducible rfl | exact hf_half | exact hf_epoch); (case hb => omega)))
local macro_rules | `(tactic| walk_at "binaryOp Sub float float") => `(tactic| (with_plain (refine' r_sub_ff ?hx ?hy ?hb ?_); (case hx => first | with_reducible rfl | exact hf_half | exact hf_epoch); (case hy => first | with_reducible rfl | exact hf_half | exact hf_epoch); (case hb => omega)))
local macro_rules | `(tactic| walk_at "binaryOp Mult float int") => `(tactic| (with_plain (refine' r_mul_fi ?hA ?hx ?hb ?_); (case hA => with_plain (exact rfl)); (case hx => with_reducible rfl); (case hb => omega)))
local macro_rules | `(tactic| walk_at "binaryOp Mod float int") => `(tactic| (with_plain (refine' r_mod_fi ?hA ?hx ?hb ?hs1 ?hs2 ?_); (case hA => with_plain (exact rfl)); (case hx => with_reducible rfl); (case hb => omega); (case hs1 => decide +kernel); (case hs2 => decide +kernel)))
local macro_rules | `(tactic| walk_at "binaryOp Div float int") => `(tactic| (with_plain (refine' r_div_fi ?hA ?hb ?_); (case hA => with_plain (exact rfl)); (case hb => omega)))
local macro_rules | `(tactic| walk_at "binaryOp Div int int") => `(tactic| (with_plain (refine' r_div_ii ?hA ?hb ?_); (case hA => with_plain (exact rfl)); (case hb => omega)))
local macro_rules | `(tactic| walk_at "call builtin:math.floor") => `(tactic| (with_plain (refine' r_floor ?hA ?hx ?_); (case hA => with_plain (exact rfl)); (case hx => first | (with_reducible refine' fl_half ?hb; (case hb => omega)) | (with_reducible refine' fl_frac ?hb; (case hb => omega)) | (with_reducible refine' fl_div ?hb; (case hb => omega)) | (with_reducible refine' fl_month' ?hm ?hl ?hd; (case hm => omega); (case hl => omega); (case hd => omega)))))
local macro_rules | `(tactic| walk_at "call builtin:math.trunc") => `(tactic| (with_plain (refine' r_trunc ?hA ?hx ?hb ?_); (case hA => with_plain (exact rfl)); (case hx => with_reducible rfl); (case hb => omega)))
local macro_rules | `(tactic| walk_at "call type:int") => `(tactic| (with_plain (refine' r_int ?hA ?hx ?hb ?_); (case hA => with_plain (exact rfl)); (case hx => with_reducible rfl); (case hb => omega)))
local macro_rules | `(tactic| walk_at "compareOp Lt float int") => `(tactic| (with_plain (refine' r_lt_fi ?hx ?hb ?_); (case hx => with_reducible rfl); (case hb => omega)))
local macro_rules | `(tactic| walk_at "compareOp NotEq float float") => `(tactic| (with_plain (refine' r_ne_ff ?hx ?hy ?hb ?_); (case hx => with_reducible rfl); (case hy => with_reducible rfl); (case hb => omega)))
local macro_rules | `(tactic| walk_at "binaryOp Mod int int") => `(tactic| (with_reducible refine' r_mod_ii ?hb ?_; (case hb => omega)))
local macro_rules | `(tactic| walk_at "binaryOp FloorDiv int int") => `(tactic| (with_reducible refine' r_fdiv_ii ?hb ?_; (case hb => omega)))
local macro_rules | `(tactic| walk_at "compareOp In int ref") => `(tactic| (k_here; k_dflt (refine' r_inK ?F ?X ?l ?i ?_; (case F => k_asm); (case X => k_asm); (case l => k_is); (case i => repeat constructor))))
local macro_rules | `(tactic| walk_at "binaryOp Add int bool") => `(tactic| (with_reducible refine' r_add_leap ?_))
local macro_rules | `(tactic| walk_at "storeName") => `(tactic| (k_here; (with_reducible refine' store_isI ?hi ?he ?_); (case hi => with_reducible assumption); (case he => (intro hP9; first | omega | ((have hl9 := lp_one (by with_reducible assumption)); omega) | ((have hl9 := lp_nil (by with_reducible assumption)); omega))); k_dflt (refine' storeX_L ?F ?N ?_ ?a ?b; (case F => k_asm); (case N => k_asm); (case a => rfl); (case b => rfl); k_whole; intro h' F' N'; (try k_sweep))))
local macro_rules | `(tactic| walk_at "storeName") => `(tactic| (k_here; (with_reducible refine' store_isF ?hi ?he ?_); (case hi => with_reducible assumption); (case he => (intro hP9; first | omega | ((have hl9 := lp_one (by with_reducible assumption)); omega) | ((have hl9 := lp_nil (by with_reducible assumption)); omega))); k_dflt (refine' storeX_L ?F ?N ?_ ?a ?b; (case F => k_asm); (case N => k_asm); (case a => rfl); (case b => rfl); k_whole; intro h' F' N'; (try k_sweep))))
local macro_rules | `(tactic| walk_at "CutV") => `(tactic| k_dflt (first | (refine' cutV_set ?F ?N; (case F => assumption); (case N => assumption)) | (refine' cutV_keep ?hi ?F ?N ?ho ?he; (case hi => assumption); (case F => assumption); (case N => assumption); (case ho => exact rfl); (case he => (intro hP9; omega)))))
local macro_rules | `(tactic| walk_at "exec If") => `(tactic| (k_here; k_dflt (refine' cut_if ?hc ?F ?N ?_ ?_; (case hc => with_reducible assumption); (case F => k_asm); (case N => k_asm)); rotate_left; intro t9 h9 tk9 F9 N9; (try dsimp only); (try k_sweep); rotate_right))
local macro_rules | `(tactic| walk_at "call ref") => `(tactic| (k_here; k_dflt (refine' con_use (search_con _ _ _ _ _ _ ?hp) ?k1 ?k2 ?k3 ?k4 ?k5 ?kK ?kd ?ku ?_; (case hp => omega); (case k1 => k_asm); (case k2 => k_asm); (case k3 => k_asm); (case k4 => k_asm); (case k5 => k_asm); (case kK => first | exact rfl | assumption); (case kd => ktr_room); (case ku => ktr_units); k_whole); intro t9 h9 tk9 F9 N9; (try dsimp only); (try k_fold); (try k_sweep)))
theorem prev_con (w : World) (a : Int) (t1 t2 : Tok) (h : a % 2 = 1 ∧ -8900000000 ≤ a ∧ a ≤ 8900000000) : Con w 87 4 [.int 6 t1, .float (hf a) t2] (RetF (hf (a - 2 - 2 * ((a - 13) / 2 % 7)))) := by
  dsimp only [Con, RetF]
  k_fill
  intros
  rename_i hret
  refine wpAny_call ?_
  k_dflt cell_enter
  k_steps
  all_goals (refine endF hret (by k_asm) (by k_asm) ?_)
  all_goals omega
end Mine
end

/-! part C6d -/
section
open PySem PySem.W PyProof.Rows PySem.Calls
namespace Mine
local macro_rules | `(tactic| walk_at "binaryOp Add float int") => `(tactic| first | (with_plain (refine' r_add_fi ?hA ?hx ?hb ?_); (case hA => with_plain (exact rfl)); (case hx => first | with_reducible rfl | exact hf_half | exact hf_epoch); (case hb => omega)) | (with_plain (refine' r_add_fi_any ?hA ?hb ?_); (case hA => with_plain (exact rfl)); (case hb => omega)))
local macro_rules | `(tactic| walk_at "binaryOp Add int float") => `(tactic| (with_plain (refine' r_add_if ?hA ?hx ?hb ?_); (case hA => with_plain (exact rfl)); (case hx => first | with_reducible rfl | exact hf_half | exact hf_epoch); (case hb => omega)))
local macro_rules | `(tactic| walk_at "inplaceOp Add int float") => `(tactic| (with_plain (refine' r_iadd_if ?hA ?hx ?hb ?_); (case hA => with_plain (exact rfl)); (case hx => first | with_reducible rfl | exact hf_half | exact hf_epoch); (case hb => omega)))
local macro_rules | `(tactic| walk_at "binaryOp Sub float int") => `(tactic| (with_plain (refine' r_sub_fi ?hA ?hx ?hb ?_); (case hA => with_plain (exact rfl)); (case hx => first | with_reducible rfl | exact hf_half | exact hf_epoch); (case hb => omega)))
local macro_rules | `(tactic| walk_at "binaryOp Sub int float") => `(tactic| (with_plain (refine' r_sub_if ?hA ?hx ?hb ?_); (case hA => with_plain (exact rfl)); (case hx => first | with_reducible rfl | exact hf_half | exact hf_epoch); (case hb => omega)))
local macro_rules | `(tactic| walk_at "binaryOp Add float float") => `(tactic| (with_plain (refine' r_add_ff ?hx ?hy ?hb ?_); (case hx => first | with_reducible rfl | exact hf_half | exact hf_epoch); (case hy => first | with_reducible rfl | exact hf_half | exact hf_epoch); (case hb => omega)))
local macro_rules | `(tactic| walk_at "binaryOp Sub float float") => `(tactic| (with_plain (refine' r_sub_ff ?hx ?hy ?hb ?_); (case hx => first | with_reducible rfl | exact hf_half | exact hf_epoch); (case hy => first | with_reducible rfl | exact hf_half | exact hf_epoch); (case hb => omega)))
local macro_rules | `(tactic| walk_at "binaryOp Mult float int") => `(tactic| (with_plain (refine' r_mul_fi ?hA ?hx ?hb ?_); (case hA => with_plain (exact rfl)); (case hx => with_reducible rfl); (case hb => omega)))
local macro_rules | `(tactic| walk_at "binaryOp Mod float int") => `(tactic| (with_plain (refine' r_mod_fi ?hA ?hx ?hb ?hs1 ?hs2 ?_); (case hA => with_plain (exact rfl)); (case hx => with_reducible rfl); (case hb => omega); (case hs1 => decide +kernel); (case hs2 => decide +kernel)))
local macro_rules | `(tactic| walk_at "binaryOp Div float int") => `(tactic| (with_plain (refine' r_div_fi ?hA ?hb ?_); (case hA => with_plain (exact rfl)); (case hb => omega)))
local macro_rules | `(tactic| walk_at "binaryOp Div int int") => `(tactic| (with_plain (refine' r_div_ii ?hA ?hb ?_); (case hA => with_plain (exact rfl)); (case hb => omega)))
local macro_rules | `(tactic| walk_at "call builtin:math.floor") => `(tactic| (with_plain (refine' r_floor ?hA ?hx ?_); (case hA => with_plain (exact rfl)); (case hx => first | (with_reducible refine' fl_half ?hb; (case hb => omega)) | (with_reducible refine' fl_frac ?hb; (case hb => omega)) | (with_reducible refine' fl_div ?hb; (case hb => omega)) | (with_reducible refine' fl_month' ?hm ?hl ?hd; (case hm => omega); (case hl => omega); (case hd => omega)))))
local macro_rules | `(tactic| walk_at "call builtin:math.trunc") => `(tactic| (with_plain (refine' r_trunc ?hA ?hx ?hb ?_); (case hA => with_plain (exact rfl)); (case hx => with_reducible rfl); (case hb => omega)))
local macro_rules | `(tactic| walk_at "call type:int") => `(tactic| (with_plain (refine' r_int ?hA ?hx ?hb ?_); (case hA => with_plain (exact rfl)); (case hx => with_reducible rfl); (case hb => omega)))
local macro_rules | `(tactic| walk_at "compareOp Lt float int") => `(tactic| (with_plain (refine' r_lt_fi ?hx ?hb ?_); (case hx => with_reducible rfl); (case hb => omega)))
local macro_rules | `(tactic| walk_at "compareOp NotEq float float") => `(tactic| (with_plain (refine' r_ne_ff ?hx ?hy ?hb ?_); (case hx => with_reducible rfl); (case hy => with_reducible rfl); (case hb => omega)))
local macro_rules | `(tactic| walk_at "binaryOp Mod int int") => `(tactic| (with_reducible refine' r_mod_ii ?hb ?_; (case hb => omega)))
local macro_rules | `(tactic| walk_at "binaryOp FloorDiv int int") => `(tactic| (with_reducible refine' r_fdiv_ii ?hb ?_; (case hb => omega)))
local macro_rules | `(tactic| walk_at "compareOp In int ref") => `(tactic| (k_here; k_dflt (refine' r_inK ?F ?X ?l ?i ?_; (case F => k_asm); (case X => k_asm); (case l => k_is); (case i => repeat constructor))))
local macro_rules | `(tactic| walk_at "binaryOp Add int bool") => `(tactic| (with_reducible refine' r_add_leap ?_))
local macro_rules | `(tactic| walk_at "storeName") => `(tactic| (k_here; (with_reducible refine' store_isI ?hi ?he ?_); (case hi => with_reducible assumption); (case he => (intro hP9; first | omega | ((have hl9 := lp_one (by with_reducible assumption)); omega) | ((have hl9 := lp_nil (by with_reducible assumption)); omega))); k_dflt (refine' storeX_L ?F ?N ?_ ?a ?b; (case F => k_asm); (case N => k_asm); (case a => rfl); (case b => rfl); k_whole; intro h' F' N'; (try k_sweep))))
local macro_rules | `(tactic| walk_at "storeName") => `(tactic| (k_here; (with_reducible refine' store_isF ?hi ?he ?_); (case hi => with_reducible assumption); (case he => (intro hP9; first | omega | ((have hl9 := lp_one (by with_reducible assumption)); omega) | ((have hl9 := lp_nil (by with_reducible assumption)); omega))); k_dflt (refine' storeX_L ?F ?N ?_ ?a ?b; (case F => k_asm); (case N => k_asm); (case a => rfl); (case b => rfl); k_whole; intro h' F' N'; (try k_sweep))))
local macro_rules | `(tactic| walk_at "CutV") => `(tactic| k_dflt (first | (refine' cutV_set ?F ?N; (case F => assumption); (case N => assumption)) | (refine' cutV_keep ?hi ?F ?N ?ho ?he; (case hi => assumption); (case F => assumption); (case N => assumption); (case ho => exact rfl); (case he => (intro hP9; omega)))))
local macro_rules | `(tactic| walk_at "exec If") => `(tactic| (k_here; k_dflt (refine' cut_if ?hc ?F ?N ?_ ?_; (case hc => with_reducible assumption); (case F => k_asm); (case N => k_asm)); rotate_left; intro t9 h9 tk9 F9 N9; (try dsimp only); (try k_sweep); rotate_right))
local macro_rules | `(tactic| walk_at "call ref") => `(tactic| (k_here; k_dflt (refine' con_use (prev_con _ _ _ _ ?hp) ?k1 ?k2 ?k3 ?k4 ?k5 ?kK ?kd ?ku ?_; (case hp => omega); (case k1 => k_asm); (case k2 => k_asm); (case k3 => k_asm); (case k4 => k_asm); (case k5 => k_asm); (case kK => first | exact rfl | assumption); (case kd => ktr_room); (case ku => ktr_units); k_whole); intro t9 h9 tk9 F9 N9; (try dsimp only); (try k_fold); (try k_sweep)))
theorem n_weeks_con (w : World) (a k : Int) (t1 t2 t3 : Tok) (h : a % 2 = 1 ∧ -8900000000 ≤ a ∧ a ≤ 8900000000 ∧ 1 ≤ k ∧ k ≤ 100) : Con w 94 5 [.int 6 t1, .float (hf a) t2, .int k t3] (RetF (hf (14 * k + a - 2 - 2 * ((a - 13) / 2 % 7)))) := by
  dsimp only [Con, RetF]
  k_fill
  intros
  rename_i hret
  refine wpAny_call ?_
  k_dflt cell_enter
  k_steps
  all_goals (refine endF hret (by k_asm) (by k_asm) ?_)
  all_goals omega
end Mine
end

/-! part C6e -/
section
open PySem PySem.W PyProof.Rows PySem.Calls
namespace Mine
local macro_rules | `(tactic| walk_at "binaryOp Add float int") => `(tactic| first | (with_plain (refine' r_add_fi ?hA ?hx ?hb ?_); (case hA => with_plain (exact rfl)); (case hx => first | with_reducible rfl | exact hf_half | exact hf_epoch); (case hb => omega)) | (with_plain (refine' r_add_fi_any ?hA ?hb ?_); (case hA => with_plain (exact rfl)); (case hb => omega)))
local macro_rules | `(tactic| walk_at "binaryOp Add int float") => `(tactic| (with_plain (refine' r_add_if ?hA ?hx ?hb ?_); (case hA => with_plain (exact rfl)); (case hx => first | with_reducible rfl | exact hf_half | exact hf_epoch); (case hb => omega)))
local macro_rules | `(tactic| walk_at "inplaceOp Add int float") => `(tactic| (with_plain (refine' r_iadd_if ?hA ?hx ?hb ?_); (case hA => with_plain (exact rfl)); (case hx => first | with_reducible rfl | exact hf_half | exact hf_epoch); (case hb => omega)))
local macro_rules | `(tactic| walk_at "binaryOp Sub float int") => `(tactic| (with_plain (refine' r_sub_fi ?hA ?hx ?hb ?_); (case hA => with_plain (exact rfl)); (case hx => first | with_reducible rfl | exact hf_half | exact hf_epoch); (case hb => omega)))
local macro_rules | `(tactic| walk_at "binaryOp Sub int float") => `(tactic| (with_plain (refine' r_sub_if ?hA ?hx ?hb ?_); (case hA => with_plain (exact rfl)); (case hx => first | with_reducible rfl | exact hf_half | exact hf_epoch); (case hb => omega)))
local macro_rules | `(tactic| walk_at "binaryOp Add float float") => `(tactic| (with_plain (refine' r_add_ff ?hx ?hy ?hb ?_); (case hx => first | with_reducible rfl | exact hf_half | exact hf_epoch); (case hy => first | with_reducible rfl | exact hf_half | exact hf_epoch); (case hb => omega)))
local macro_rules | `(tactic| walk_at "binaryOp Sub float float") => `(tactic| (with_plain (refine' r_sub_ff ?hx ?hy ?hb ?_); (case hx => first | with_reducible rfl | exact hf_half | exact hf_epoch); (case hy => first | with_reducible rfl | exact hf_half | exact hf_epoch); (case hb => omega)))
local macro_rules | `(tactic| walk_at "binaryOp Mult float int") => `(tactic| (with_plain (refine' r_mul_fi ?hA ?hx ?hb ?_); (case hA => with_plain (exact rfl)); (case hx => with_reducible rfl); (case hb => omega)))
local macro_rules | `(tactic| walk_at "binaryOp Mod float int") => `(tactic| (with_plain (refine' r_mod_fi ?hA ?hx ?hb ?hs1 ?hs2 ?_); (case hA => with_plain (exact rfl)); (case hx => with_reducible rfl); (case hb => omega); (case hs1 => decide +kernel); (case hs2 => decide +kernel)))
local macro_rules | `(tactic| walk_at "binaryOp Div float int") => `(tactic| (with_plain (refine' r_div_fi ?hA ?hb ?_); (case hA => with_plain (exact rfl)); (case hb => omega)))
local macro_rules | `(tactic| walk_at "binaryOp Div int int") => `(tactic| (with_plain (refine' r_div_ii ?hA ?hb ?_); (case hA => with_plain (exact rfl)); (case hb => omega)))
local macro_rules | `(tactic| walk_at "call builtin:math.floor") => `(tactic| (with_plain (refine' r_floor ?hA ?hx ?_); (case hA => with_plain (exact rfl)); (case hx => first | (with_reducible refine' fl_half ?hb; (case hb => omega)) | (with_reducible refine' fl_frac ?hb; (case hb => omega)) | (with_reducible refine' fl_div ?hb; (case hb => omega)) | (with_reducible refine' fl_month' ?hm ?hl ?hd; (case hm => omega); (case hl => omega); (case hd => omega)))))
local macro_rules | `(tactic| walk_at "call builtin:math.trunc") => `(tactic| (with_plain (refine' r_trunc ?hA ?hx ?hb ?_); (case hA => with_plain (exact rfl)); (case hx => with_reducible rfl); (case hb => omega)))
local macro_rules | `(tactic| walk_at "call type:int") => `(tactic| (with_plain (refine' r_int ?hA ?hx ?hb ?_); (case hA => with_plain (exact rfl)); (case hx => with_reducible rfl); (case hb => omega)))
local macro_rules | `(tactic| walk_at "compareOp Lt float int") => `(tactic| (with_plain (refine' r_lt_fi ?hx ?hb ?_); (case hx => with_reducible rfl); (case hb => omega)))
local macro_rules | `(tactic| walk_at "compareOp NotEq float float") => `(tactic| (with_plain (refine' r_ne_ff ?hx ?hy ?hb ?_); (case hx => with_reducible rfl); (case hy => with_reducible rfl); (case hb => omega)))
local macro_rules | `(tactic| walk_at "binaryOp Mod int int") => `(tactic| (with_reducible refine' r_mod_ii ?hb ?_; (case hb => omega)))
local macro_rules | `(tactic| walk_at "binaryOp FloorDiv int int") => `(tactic| (with_reducible refine' r_fdiv_ii ?hb ?_; (case hb => omega)))
local macro_rules | `(tactic| walk_at "compareOp In int ref") => `(tactic| (k_here; k_dflt (refine' r_inK ?F ?X ?l ?i ?_; (case F => k_asm); (case X => k_asm); (case l => k_is); (case i => repeat constructor))))
local macro_rules | `(tactic| walk_at "binaryOp Add int bool") => `(tactic| (with_reducible refine' r_add_leap ?_))
local macro_rules | `(tactic| walk_at "storeName") => `(tactic| (k_here; (with_reducible refine' store_isI ?hi ?he ?_); (case hi => with_reducible assumption); (case he => (intro hP9; first | omega | ((have hl9 := lp_one (by with_reducible assumption)); omega) | ((have hl9 := lp_nil (by with_reducible assumption)); omega))); k_dflt (refine' storeX_L ?F ?N ?_ ?a ?b; (case F => k_asm); (case N => k_asm); (case a => rfl); (case b => rfl); k_whole; intro h' F' N'; (try k_sweep))))
local macro_rules | `(tactic| walk_at "storeName") => `(tactic| (k_here; (with_reducible refine' store_isF ?hi ?he ?_); (case hi => with_reducible assumption); (case he => (intro hP9; first | omega | ((have hl9 := lp_one (by with_reducible assumption)); omega) | ((have hl9 := lp_nil (by with_reducible assumption)); omega))); k_dflt (refine' storeX_L ?F ?N ?_ ?a ?b; (case F => k_asm); (case N => k_asm); (case a => rfl); (case b => rfl); k_whole; intro h' F' N'; (try k_sweep))))
local macro_rules | `(tactic| walk_at "CutV") => `(tactic| k_dflt (first | (refine' cutV_set ?F ?N; (case F => assumption); (case N => assumption)) | (refine' cutV_keep ?hi ?F ?N ?ho ?he; (case hi => assumption); (case F => assumption); (case N => assumption); (case ho => exact rfl); (case he => (intro hP9; omega)))))
local macro_rules | `(tactic| walk_at "exec If") => `(tactic| (k_here; k_dflt (refine' cut_if ?hc ?F ?N ?_ ?_; (case hc => with_reducible assumption); (case F => k_asm); (case N => k_asm)); rotate_left; intro t9 h9 tk9 F9 N9; (try dsimp only); (try k_sweep); rotate_right))
local macro_rules | `(tactic| walk_at "call ref") => `(tactic| (k_here; k_dflt (refine' con_use (n_weeks_con _ _ _ _ _ _ ?hp) ?k1 ?k2 ?k3 ?k4 ?k5 ?kK ?kd ?ku ?_; (case hp => omega); (case k1 => k_asm); (case k2 => k_asm); (case k3 => k_asm); (case k4 => k_asm); (case k5 => k_asm); (case kK => first | exact rfl | assumption); (case kd => ktr_room); (case ku => ktr_units); k_whole); intro t9 h9 tk9 F9 N9; (try dsimp only); (try k_fold); (try k_sweep)))
local macro_rules | `(tactic| walk_at "call ref") => `(tactic| (k_here; k_dflt (refine' con_use (to_jd_con _ _ _ _ _ _ _ ?hp) ?k1 ?k2 ?k3 ?k4 ?k5 ?kK ?kd ?ku ?_; (case hp => omega); (case k1 => k_asm); (case k2 => k_asm); (case k3 => k_asm); (case k4 => k_asm); (case k5 => k_asm); (case kK => first | exact rfl | assumption); (case kd => ktr_room); (case ku => ktr_units); k_whole); intro t9 h9 tk9 F9 N9; (try dsimp only); (try k_fold); (try k_sweep)))
theorem gj_dec (y : Int) (h : -10000200 ≤ y ∧ y ≤ 10000200) : -4300000000 ≤ gj y 12 28 ∧ gj y 12 28 ≤ 4300000000 := by
  have h1 := gj_yday y 12 28
  have h2 := gj_first y
  have h3 := yday_back (y := y) (m := 12) (d := 28) ⟨by decide, by decide, by decide, by have := dim_facts y 12; omega⟩
  have h4 := lp_cases y
  omega
theorem to_jd_iso_con (w : World) (y k d : Int) (t1 t2 t3 : Tok) (h : -10000100 ≤ y ∧ y ≤ 10000100 ∧ 1 ≤ k ∧ k ≤ 100 ∧ 1 ≤ d ∧ d ≤ 7) : Con w 130 6 [.int y t1, .int k t2, .int d t3] (RetF (hf (2 * iso y k d - 1))) := by
  dsimp only [Con, RetF]
  k_fill
  have hb := gj_dec (y - 1) (by omega)
  intros
  rename_i hret
  refine wpAny_call ?_
  k_dflt cell_enter
  k_steps
  all_goals (refine endF hret (by k_asm) (by k_asm) ?_)
  all_goals (unfold iso; omega)
end Mine
end

/-! part C7 -/
section
open PySem PySem.W PyProof.Rows PySem.Calls
namespace Mine
local macro_rules | `(tactic| walk_at "binaryOp Add float int") => `(tactic| first | (with_plain (refine' r_add_fi ?hA ?hx ?hb ?_); (case hA => with_plain (exact rfl)); (case hx => first | with_reducible rfl | exact hf_half | exact hf_epoch); (case hb => omega)) | (with_plain (refine' r_add_fi_any ?hA ?hb ?_); (case hA => with_plain (exact rfl)); (case hb => omega)))
local macro_rules | `(tactic| walk_at "binaryOp Add int float") => `(tactic| (with_plain (refine' r_add_if ?hA ?hx ?hb ?_); (case hA => with_plain (exact rfl)); (case hx => first | with_reducible rfl | exact hf_half | exact hf_epoch); (case hb => omega)))
local macro_rules | `(tactic| walk_at "inplaceOp Add int float") => `(tactic| (with_plain (refine' r_iadd_if ?hA ?hx ?hb ?_); (case hA => with_plain (exact rfl)); (case hx => first | with_reducible rfl | exact hf_half | exact hf_epoch); (case hb => omega)))
local macro_rules | `(tactic| walk_at "binaryOp Sub float int") => `(tactic| (with_plain (refine' r_sub_fi ?hA ?hx ?hb ?_); (case hA => with_plain (exact rfl)); (case hx => first | with_reducible rfl | exact hf_half | exact hf_epoch); (case hb => omega)))
local macro_rules | `(tactic| walk_at "binaryOp Sub int float") => `(tactic| (with_plain (refine' r_sub_if ?hA ?hx ?hb ?_); (case hA => with_plain (exact rfl)); (case hx => first | with_reducible rfl | exact hf_half | exact hf_epoch); (case hb => omega)))
local macro_rules | `(tactic| walk_at "binaryOp Add float float") => `(tactic| (with_plain (refine' r_add_ff ?hx ?hy ?hb ?_); (case hx => first | with_reducible rfl | exact hf_half | exact hf_epoch); (case hy => first | with_reducible rfl | exact hf_half | exact hf_epoch); (case hb => omega)))
local macro_rules | `(tactic| walk_at "binaryOp Sub float float") => `(tactic| (with_plain (refine' r_sub_ff ?hx ?hy ?hb ?_); (case hx => first | with_reducible rfl | exact hf_half | exact hf_epoch); (case hy => first | with_reducible rfl | exact hf_half | exact hf_epoch); (case hb => omega)))
local macro_rules | `(tactic| walk_at "binaryOp Mult float int") => `(tactic| (with_plain (refine' r_mul_fi ?hA ?hx ?hb ?_); (case hA => with_plain (exact rfl)); (case hx => with_reducible rfl); (case hb => omega)))
local macro_rules | `(tactic| walk_at "binaryOp Mod float int") => `(tactic| (with_plain (refine' r_mod_fi ?hA ?hx ?hb ?hs1 ?hs2 ?_); (case hA => with_plain (exact rfl)); (case hx => with_reducible rfl); (case hb => omega); (case hs1 => decide +kernel); (case hs2 => decide +kernel)))
local macro_rules | `(tactic| walk_at "binaryOp Div float int") => `(tactic| (with_plain (refine' r_div_fi ?hA ?hb ?_); (case hA => with_plain (exact rfl)); (case hb => omega)))
local macro_rules | `(tactic| walk_at "binaryOp Div int int") => `(tactic| (with_plain (refine' r_div_ii ?hA ?hb ?_); (case hA => with_plain (exact rfl)); (case hb => omega)))
local macro_rules | `(tactic| walk_at "call builtin:math.floor") => `(tactic| (with_plain (refine' r_floor ?hA ?hx ?_); (case hA => with_plain (exact rfl)); (case hx => first | (with_reducible refine' fl_half ?hb; (case hb => omega)) | (with_reducible refine' fl_frac ?hb; (case hb => omega)) | (with_reducible refine' fl_div ?hb; (case hb => omega)) | (with_reducible refine' fl_month' ?hm ?hl ?hd; (case hm => omega); (case hl => omega); (case hd => omega)))))
local macro_rules | `(tactic| walk_at "call builtin:math.trunc") => `(tactic| (with_plain (refine' r_trunc ?hA ?hx ?hb ?_); (case hA => with_plain (exact rfl)); (case hx => with_reducible rfl); (case hb => omega)))
local macro_rules | `(tactic| walk_at "call type:int") => `(tactic| (with_plain (refine' r_int ?hA ?hx ?hb ?_); (case hA => with_plain (exact rfl)); (case hx => with_reducible rfl); (case hb => omega)))
local macro_rules | `(tactic| walk_at "compareOp Lt float int") => `(tactic| (with_plain (refine' r_lt_fi ?hx ?hb ?_); (case hx => with_reducible rfl); (case hb => omega)))
local macro_rules | `(tactic| walk_at "compareOp NotEq float float") => `(tactic| (with_plain (refine' r_ne_ff ?hx ?hy ?hb ?_); (case hx => with_reducible rfl); (case hy => with_reducible rfl); (case hb => omega)))
local macro_rules | `(tactic| walk_at "binaryOp Mod int int") => `(tactic| (with_reducible refine' r_mod_ii ?hb ?_; (case hb => omega)))
local macro_rules | `(tactic| walk_at "binaryOp FloorDiv int int") => `(tactic| (with_reducible refine' r_fdiv_ii ?hb ?_; (case hb => omega)))
local macro_rules | `(tactic| walk_at "compareOp In int ref") => `(tactic| (k_here; k_dflt (refine' r_inK ?F ?X ?l ?i ?_; (case F => k_asm); (case X => k_asm); (case l => k_is); (case i => repeat constructor))))
local macro_rules | `(tactic| walk_at "binaryOp Add int bool") => `(tactic| (with_reducible refine' r_add_leap ?_))
local macro_rules | `(tactic| walk_at "storeName") => `(tactic| (k_here; (with_reducible refine' store_isI ?hi ?he ?_); (case hi => with_reducible assumption); (case he => (intro hP9; first | omega | ((have hl9 := lp_one (by with_reducible assumption)); omega) | ((have hl9 := lp_nil (by with_reducible assumption)); omega))); k_dflt (refine' storeX_L ?F ?N ?_ ?a ?b; (case F => k_asm); (case N => k_asm); (case a => rfl); (case b => rfl); k_whole; intro h' F' N'; (try k_sweep))))
local macro_rules | `(tactic| walk_at "storeName") => `(tactic| (k_here; (with_reducible refine' store_isF ?hi ?he ?_); (case hi => with_reducible assumption); (case he => (intro hP9; first | omega | ((have hl9 := lp_one (by with_reducible assumption)); omega) | ((have hl9 := lp_nil (by with_reducible assumption)); omega))); k_dflt (refine' storeX_L ?F ?N ?_ ?a ?b; (case F => k_asm); (case N => k_asm); (case a => rfl); (case b => rfl); k_whole; intro h' F' N'; (try k_sweep))))
local macro_rules | `(tactic| walk_at "CutV") => `(tactic| k_dflt (first | (refine' cutV_set ?F ?N; (case F => assumption); (case N => assumption)) | (refine' cutV_keep ?hi ?F ?N ?ho ?he; (case hi => assumption); (case F => assumption); (case N => assumption); (case ho => exact rfl); (case he => (intro hP9; omega)))))
local macro_rules | `(tactic| walk_at "exec If") => `(tactic| (k_here; k_dflt (refine' cut_if ?hc ?F ?N ?_ ?_; (case hc => with_reducible assumption); (case F => k_asm); (case N => k_asm)); rotate_left; intro t9 h9 tk9 F9 N9; (try dsimp only); (try k_sweep); rotate_right))
local macro_rules | `(tactic| walk_at "call ref") => `(tactic| (k_here; k_dflt (refine' con_use (isleap_con _ _ _) ?k1 ?k2 ?k3 ?k4 ?k5 ?kK ?kd ?ku ?_;  (case k1 => k_asm); (case k2 => k_asm); (case k3 => k_asm); (case k4 => k_asm); (case k5 => k_asm); (case kK => first | exact rfl | assumption); (case kd => ktr_room); (case ku => ktr_units); k_whole); intro t9 h9 tk9 F9 N9; (try dsimp only); (try k_fold); (try k_sweep)))
local macro_rules | `(tactic| walk_at "call ref") => `(tactic| (k_here; k_dflt (refine' con_use (jwday_con _ _ _ ?hp) ?k1 ?k2 ?k3 ?k4 ?k5 ?kK ?kd ?ku ?_; (case hp => omega); (case k1 => k_asm); (case k2 => k_asm); (case k3 => k_asm); (case k4 => k_asm); (case k5 => k_asm); (case kK => first | exact rfl | assumption); (case kd => ktr_room); (case ku => ktr_units); k_whole); intro t9 h9 tk9 F9 N9; (try dsimp only); (try k_fold); (try k_sweep)))
local macro_rules | `(tactic| walk_at "call ref") => `(tactic| (k_here; k_dflt (refine' con_use (to_jd_con _ _ _ _ _ _ _ ?hp) ?k1 ?k2 ?k3 ?k4 ?k5 ?kK ?kd ?ku ?_; (case hp => omega); (case k1 => k_asm); (case k2 => k_asm); (case k3 => k_asm); (case k4 => k_asm); (case k5 => k_asm); (case kK => first | exact rfl | assumption); (case kd => ktr_room); (case ku => ktr_units); k_whole); intro t9 h9 tk9 F9 N9; (try dsimp only); (try k_fold); (try k_sweep)))
theorem gj_jan (y : Int) (h : -20000000 ≤ y ∧ y ≤ 20000000) : -8000000000 ≤ gj y 1 1 ∧ gj y 1 1 ≤ 8000000000 := by
  have h2 := gj_first y
  omega
theorem weeks_con (w : World) (y : Int) (t1 : Tok) (h : -10000100 ≤ y ∧ y ≤ 10000100) : Con w 144 4 [.int y t1] (RetI (wpy y)) := by
  dsimp only [Con, RetI]
  k_fill
  have hb := gj_jan y (by omega)
  intros
  rename_i hret
  refine wpAny_call ?_
  k_dflt cell_enter
  k_steps
  all_goals (refine endI hret (by k_asm) (by k_asm) ?_)
  all_goals (unfold wpy)
  all_goals (first | (rw [if_pos (by first | omega | ((have hl9 := lp_one (by with_reducible assumption)); omega))]) | (rw [if_neg (by first | omega | ((have hl9 := lp_one (by with_reducible assumption)); omega) | ((have hl9 := lp_nil (by with_reducible assumption)); omega))]))
end Mine
end

/-! part C8 -/
section
open PySem PySem.W PyProof.Rows PySem.Calls
namespace Mine
local macro_rules | `(tactic| walk_at "binaryOp Add float int") => `(tactic| first | (with_plain (refine' r_add_fi ?hA ?hx ?hb ?_); (case hA => with_plain (exact rfl)); (case hx => first | with_reducible rfl | exact hf_half | exact hf_epoch); (case hb => omega)) | (with_plain (refine' r_add_fi_any ?hA ?hb ?_); (case hA => with_plain (exact rfl)); (case hb => omega)))
local macro_rules | `(tactic| walk_at "binaryOp Add int float") => `(tactic| (with_plain (refine' r_add_if ?hA ?hx ?hb ?_); (case hA => with_plain (exact rfl)); (case hx => first | with_reducible rfl | exact hf_half | exact hf_epoch); (case hb => omega)))
local macro_rules | `(tactic| walk_at "inplaceOp Add int float") => `(tactic| (with_plain (refine' r_iadd_if ?hA ?hx ?hb ?_); (case hA => with_plain (exact rfl)); (case hx => first | with_reducible rfl | exact hf_half | exact hf_epoch); (case hb => omega)))
local macro_rules | `(tactic| walk_at "binaryOp Sub float int") => `(tactic| (with_plain (refine' r_sub_fi ?hA ?hx ?hb ?_); (case hA => with_plain (exact rfl)); (case hx => first | with_reducible rfl | exact hf_half | exact hf_epoch); (case hb => omega)))
local macro_rules | `(tactic| walk_at "binaryOp Sub int float") => `(tactic| (with_plain (refine' r_sub_if ?hA ?hx ?hb ?_); (case hA => with_plain (exact rfl)); (case hx => first | with_reducible rfl | exact hf_half | exact hf_epoch); (case hb => omega)))
local macro_rules | `(tactic| walk_at "binaryOp Add float float") => `(tactic| (with_plain (refine' r_add_ff ?hx ?hy ?hb ?_); (case hx => first | with_reducible rfl | exact hf_half | exact hf_epoch); (case hy => first | with_reducible rfl | exact hf_half | exact hf_epoch); (case hb => omega)))
local macro_rules | `(tactic| walk_at "binaryOp Sub float float") => `(tactic| (with_plain (refine' r_sub_ff ?hx ?hy ?hb ?_); (case hx => first | with_reducible rfl | exact hf_half | exact hf_epoch); (case hy => first | with_reducible rfl | exact hf_half | exact hf_epoch); (case hb => omega)))
local macro_rules | `(tactic| walk_at "binaryOp Mult float int") => `(tactic| (with_plain (refine' r_mul_fi ?hA ?hx ?hb ?_); (case hA => with_plain (exact rfl)); (case hx => with_reducible rfl); (case hb => omega)))
local macro_rules | `(tactic| walk_at "binaryOp Mod float int") => `(tactic| (with_plain (refine' r_mod_fi ?hA ?hx ?hb ?hs1 ?hs2 ?_); (case hA => with_plain (exact rfl)); (case hx => with_reducible rfl); (case hb => omega); (case hs1 => decide +kernel); (case hs2 => decide +kernel)))
local macro_rules | `(tactic| walk_at "binaryOp Div float int") => `(tactic| (with_plain (refine' r_div_fi ?hA ?hb ?_); (case hA => with_plain (exact rfl)); (case hb => omega)))
local macro_rules | `(tactic| walk_at "binaryOp Div int int") => `(tactic| (with_plain (refine' r_div_ii ?hA ?hb ?_); (case hA => with_plain (exact rfl)); (case hb => omega)))
local macro_rules | `(tactic| walk_at "call builtin:math.floor") => `(tactic| (with_plain (refine' r_floor ?hA ?hx ?_); (case hA => with_plain (exact rfl)); (case hx => first | (with_reducible refine' fl_half ?hb; (case hb => omega)) | (with_reducible refine' fl_frac ?hb; (case hb => omega)) | (with_reducible refine' fl_div ?hb; (case hb => omega)) | (with_reducible refine' fl_month' ?hm ?hl ?hd; (case hm => omega); (case hl => omega); (case hd => omega)))))
local macro_rules | `(tactic| walk_at "call builtin:math.trunc") => `(tactic| (with_plain (refine' r_trunc ?hA ?hx ?hb ?_); (case hA => with_plain (exact rfl)); (case hx => with_reducible rfl); (case hb => omega)))
local macro_rules | `(tactic| walk_at "call type:int") => `(tactic| (with_plain (refine' r_int ?hA ?hx ?hb ?_); (case hA => with_plain (exact rfl)); (case hx => with_reducible rfl); (case hb => omega)))
local macro_rules | `(tactic| walk_at "compareOp Lt float int") => `(tactic| (with_plain (refine' r_lt_fi ?hx ?hb ?_); (case hx => with_reducible rfl); (case hb => omega)))
local macro_rules | `(tactic| walk_at "compareOp NotEq float float") => `(tactic| (with_plain (refine' r_ne_ff ?hx ?hy ?hb ?_); (case hx => with_reducible rfl); (case hy => with_reducible rfl); (case hb => omega)))
local macro_rules | `(tactic| walk_at "binaryOp Mod int int") => `(tactic| (with_reducible refine' r_mod_ii ?hb ?_; (case hb => omega)))
local macro_rules | `(tactic| walk_at "binaryOp FloorDiv int int") => `(tactic| (with_reducible refine' r_fdiv_ii ?hb ?_; (case hb => omega)))
local macro_rules | `(tactic| walk_at "compareOp In int ref") => `(tactic| (k_here; k_dflt (refine' r_inK ?F ?X ?l ?i ?_; (case F => k_asm); (case X => k_asm); (case l => k_is); (case i => repeat constructor))))
local macro_rules | `(tactic| walk_at "binaryOp Add int bool") => `(tactic| (with_reducible refine' r_add_leap ?_))
local macro_rules | `(tactic| walk_at "storeName") => `(tactic| (k_here; (with_reducible refine' store_isI ?hi ?he ?_); (case hi => with_reducible assumption); (case he => (intro hP9; first | omega | ((have hl9 := lp_one (by with_reducible assumption)); omega) | ((have hl9 := lp_nil (by with_reducible assumption)); omega))); k_dflt (refine' storeX_L ?F ?N ?_ ?a ?b; (case F => k_asm); (case N => k_asm); (case a => rfl); (case b => rfl); k_whole; intro h' F' N'; (try k_sweep))))
local macro_rules | `(tactic| walk_at "storeName") => `(tactic| (k_here; (with_reducible refine' store_isF ?hi ?he ?_); (case hi => with_reducible assumption); (case he => (intro hP9; first | omega | ((have hl9 := lp_one (by with_reducible assumption)); omega) | ((have hl9 := lp_nil (by with_reducible assumption)); omega))); k_dflt (refine' storeX_L ?F ?N ?_ ?a ?b; (case F => k_asm); (case N => k_asm); (case a => rfl); (case b => rfl); k_whole; intro h' F' N'; (try k_sweep))))
local macro_rules | `(tactic| walk_at "CutV") => `(tactic| k_dflt (first | (refine' cutV_set ?F ?N; (case F => assumption); (case N => assumption)) | (refine' cutV_keep ?hi ?F ?N ?ho ?he; (case hi => assumption); (case F => assumption); (case N => assumption); (case ho => exact rfl); (case he => (intro hP9; omega)))))
local macro_rules | `(tactic| walk_at "exec If") => `(tactic| (k_here; k_dflt (refine' cut_if ?hc ?F ?N ?_ ?_; (case hc => with_reducible assumption); (case F => k_asm); (case N => k_asm)); rotate_left; intro t9 h9 tk9 F9 N9; (try dsimp only); (try k_sweep); rotate_right))
theorem first_con (w : World) (y : Int) (t1 : Tok) : Con w 165 2 [.int y t1] (RetI (gj y 1 1)) := by
  dsimp only [Con, RetI]
  k_fill
  intros
  rename_i hret
  refine wpAny_call ?_
  k_dflt cell_enter
  k_steps
  all_goals (refine endI hret (by k_asm) (by (refine' cb_drop ?cbN ?cbS; (case cbN => assumption); (case cbS => (repeat' (first | with_reducible exact mem_all0 | with_reducible refine mem_all1 ?_))))) ?_)
  all_goals (simp only [Int.fdiv_eq_ediv_of_nonneg _ (by decide : (0 : Int) ≤ 400), Int.fmod_eq_emod_of_nonneg _ (by decide : (0 : Int) ≤ 400)]; rw [gj_first]; split <;> omega)
end Mine
end

/-! part C12 -/
section
open PySem PySem.W PyProof.Rows PySem.Calls
namespace Mine
local macro_rules | `(tactic| walk_at "binaryOp Add float int") => `(tactic| first | (with_plain (refine' r_add_fi ?hA ?hx ?hb ?_); (case hA => with_plain (exact rfl)); (case hx => first | with_reducible rfl | exact hf_half | exact hf_epoch); (case hb => omega)) | (with_plain (refine' r_add_fi_any ?hA ?hb ?_); (case hA => with_plain (exact rfl)); (case hb => omega)))
local macro_rules | `(tactic| walk_at "binaryOp Add int float") => `(tactic| (with_plain (refine' r_add_if ?hA ?hx ?hb ?_); (case hA => with_plain (exact rfl)); (case hx => first | with_reducible rfl | exact hf_half | exact hf_epoch); (case hb => omega)))
local macro_rules | `(tactic| walk_at "inplaceOp Add int float") => `(tactic| (with_plain (refine' r_iadd_if ?hA ?hx ?hb ?_); (case hA => with_plain (exact rfl)); (case hx => first | with_reducible rfl | exact hf_half | exact hf_epoch); (case hb => omega)))
local macro_rules | `(tactic| walk_at "binaryOp Sub float int") => `(tactic| (with_plain (refine' r_sub_fi ?hA ?hx ?hb ?_); (case hA => with_plain (exact rfl)); (case hx => first | with_reducible rfl | exact hf_half | exact hf_epoch); (case hb => omega)))
local macro_rules | `(tactic| walk_at "binaryOp Sub int float") => `(tactic| (with_plain (refine' r_sub_if ?hA ?hx ?hb ?_); (case hA => with_plain (exact rfl)); (case hx => first | with_reducible rfl | exact hf_half | exact hf_epoch); (case hb => omega)))
local macro_rules | `(tactic| walk_at "binaryOp Add float float") => `(tactic| (with_plain (refine' r_add_ff ?hx ?hy ?hb ?_); (case hx => first | with_reducible rfl | exact hf_half | exact hf_epoch); (case hy => first | with_reducible rfl | exact hf_half | exact hf_epoch); (case hb => omega)))
local macro_rules | `(tactic| walk_at "binaryOp Sub float float") => `(tactic| (with_plain (refine' r_sub_ff ?hx ?hy ?hb ?_); (case hx => first | with_reducible rfl | exact hf_half | exact hf_epoch); (case hy => first | with_reducible rfl | exact hf_half | exact hf_epoch); (case hb => omega)))
local macro_rules | `(tactic| walk_at "binaryOp Mult float int") => `(tactic| (with_plain (refine' r_mul_fi ?hA ?hx ?hb ?_); (case hA => with_plain (exact rfl)); (case hx => with_reducible rfl); (case hb => omega)))
local macro_rules | `(tactic| walk_at "binaryOp Mod float int") => `(tactic| (with_plain (refine' r_mod_fi ?hA ?hx ?hb ?hs1 ?hs2 ?_); (case hA => with_plain (exact rfl)); (case hx => with_reducible rfl); (case hb => omega); (case hs1 => decide +kernel); (case hs2 => decide +kernel)))
local macro_rules | `(tactic| walk_at "binaryOp Div float int") => `(tactic| (with_plain (refine' r_div_fi ?hA ?hb ?_); (case hA => with_plain (exact rfl)); (case hb => omega)))
local macro_rules | `(tactic| walk_at "binaryOp Div int int") => `(tactic| (with_plain (refine' r_div_ii ?hA ?hb ?_); (case hA => with_plain (exact rfl)); (case hb => omega)))
local macro_rules | `(tactic| walk_at "call builtin:math.floor") => `(tactic| (with_plain (refine' r_floor ?hA ?hx ?_); (case hA => with_plain (exact rfl)); (case hx => first | (with_reducible refine' fl_half ?hb; (case hb => omega)) | (with_reducible refine' fl_frac ?hb; (case hb => omega)) | (with_reducible refine' fl_div ?hb; (case hb => omega)) | (with_reducible refine' fl_month' ?hm ?hl ?hd; (case hm => omega); (case hl => omega); (case hd => omega)))))
local macro_rules | `(tactic| walk_at "call builtin:math.trunc") => `(tactic| (with_plain (refine' r_trunc ?hA ?hx ?hb ?_); (case hA => with_plain (exact rfl)); (case hx => with_reducible rfl); (case hb => omega)))
local macro_rules | `(tactic| walk_at "call type:int") => `(tactic| (with_plain (refine' r_int ?hA ?hx ?hb ?_); (case hA => with_plain (exact rfl)); (case hx => with_reducible rfl); (case hb => omega)))
local macro_rules | `(tactic| walk_at "compareOp Lt float int") => `(tactic| (with_plain (refine' r_lt_fi ?hx ?hb ?_); (case hx => with_reducible rfl); (case hb => omega)))
local macro_rules | `(tactic| walk_at "compareOp NotEq float float") => `(tactic| (with_plain (refine' r_ne_ff ?hx ?hy ?hb ?_); (case hx => with_reducible rfl); (case hy => with_reducible rfl); (case hb => omega)))
local macro_rules | `(tactic| walk_at "binaryOp Mod int int") => `(tactic| (with_reducible refine' r_mod_ii ?hb ?_; (case hb => omega)))
local macro_rules | `(tactic| walk_at "binaryOp FloorDiv int int") => `(tactic| (with_reducible refine' r_fdiv_ii ?hb ?_; (case hb => omega)))
local macro_rules | `(tactic| walk_at "compareOp In int ref") => `(tactic| (k_here; k_dflt (refine' r_inK ?F ?X ?l ?i ?_; (case F => k_asm); (case X => k_asm); (case l => k_is); (case i => repeat constructor))))
local macro_rules | `(tactic| walk_at "binaryOp Add int bool") => `(tactic| (with_reducible refine' r_add_leap ?_))
local macro_rules | `(tactic| walk_at "storeName") => `(tactic| (k_here; (with_reducible refine' store_isI ?hi ?he ?_); (case hi => with_reducible assumption); (case he => (intro hP9; first | omega | ((have hl9 := lp_one (by with_reducible assumption)); omega) | ((have hl9 := lp_nil (by with_reducible assumption)); omega))); k_dflt (refine' storeX_L ?F ?N ?_ ?a ?b; (case F => k_asm); (case N => k_asm); (case a => rfl); (case b => rfl); k_whole; intro h' F' N'; (try k_sweep))))
local macro_rules | `(tactic| walk_at "storeName") => `(tactic| (k_here; (with_reducible refine' store_isF ?hi ?he ?_); (case hi => with_reducible assumption); (case he => (intro hP9; first | omega | ((have hl9 := lp_one (by with_reducible assumption)); omega) | ((have hl9 := lp_nil (by with_reducible assumption)); omega))); k_dflt (refine' storeX_L ?F ?N ?_ ?a ?b; (case F => k_asm); (case N => k_asm); (case a => rfl); (case b => rfl); k_whole; intro h' F' N'; (try k_sweep))))
local macro_rules | `(tactic| walk_at "CutV") => `(tactic| k_dflt (first | (refine' cutV_set ?F ?N; (case F => assumption); (case N => assumption)) | (refine' cutV_keep ?hi ?F ?N ?ho ?he; (case hi => assumption); (case F => assumption); (case N => assumption); (case ho => exact rfl); (case he => (intro hP9; omega)))))
local macro_rules | `(tactic| walk_at "exec If") => `(tactic| (k_here; k_dflt (refine' cut_if ?hc ?F ?N ?_ ?_; (case hc => with_reducible assumption); (case F => k_asm); (case N => k_asm)); rotate_left; intro t9 h9 tk9 F9 N9; (try dsimp only); (try k_sweep); rotate_right))
local macro_rules | `(tactic| walk_at "storeName") => `(tactic| (k_here; (with_reducible refine' store_isB ?hi ?he ?_); (case hi => with_reducible assumption); (case he => (intro hP9; omega)); k_dflt (refine' storeX_L ?F ?N ?_ ?a ?b; (case F => k_asm); (case N => k_asm); (case a => rfl); (case b => rfl); k_whole; intro h' F' N'; (try k_sweep))))
local macro_rules | `(tactic| walk_at "exec While") => `(tactic| (k_here; k_dflt (refine whl_start 100 ?_)))
local macro_rules | `(tactic| walk_at "WhlIf") => `(tactic| first | (refine WhlIf.yes (decide_eq_true (by omega)) ?_) | (refine WhlIf.no (decide_eq_false (by omega)) ?_) | (refine' whl_two ?_ ?_ <;> intro hC9))
local macro_rules | `(tactic| walk_at "call ref") => `(tactic| (k_here; k_dflt (refine' con_use (first_con _ _ _) ?k1 ?k2 ?k3 ?k4 ?k5 ?kK ?kd ?ku ?_;  (case k1 => k_asm); (case k2 => k_asm); (case k3 => k_asm); (case k4 => k_asm); (case k5 => k_asm); (case kK => first | exact rfl | assumption); (case kd => ktr_room); (case ku => ktr_units); k_whole); intro t9 h9 tk9 F9 N9; (try dsimp only); (try k_fold); (try k_sweep)))
theorem year_con (w : World) (n Y : Int) (t : Tok) (h1 : gj Y 1 1 ≤ n) (h2 : n < gj (Y + 1) 1 1) (hn : -8000000000 ≤ n ∧ n ≤ 8000000000) : Con w 179 4 [.int n t] (RetI Y) := by
  dsimp only [Con, RetI]
  k_fill
  obtain ⟨g, hg, g1, g2, g3, g4⟩ := guess_ex h1 h2
  have i1 := Is.by (Str.ofString "year") Y g3
  have i2 := IsB.by (Str.ofString "year") g hg
  clear hg
  intros
  rename_i hret
  refine wpAny_call ?_
  k_dflt cell_enter
  k_steps
  all_goals (refine endI hret (by k_asm) (by first | k_asm | (refine' cb_drop ?cbN ?cbS; (case cbN => assumption); (case cbS => (repeat' (first | with_reducible exact mem_all0 | with_reducible refine mem_all1 ?_))))) ?_)
  all_goals omega
end Mine
end

/-! part C13 -/
section
open PySem PySem.W PyProof.Rows PySem.Calls
namespace Mine
local macro_rules | `(tactic| walk_at "binaryOp Add float int") => `(tactic| first | (with_plain (refine' r_add_fi ?hA ?hx ?hb ?_); (case hA => with_plain (exact rfl)); (case hx => first | with_reducible rfl | exact hf_half | exact hf_epoch); (case hb => omega)) | (with_plain (refine' r_add_fi_any ?hA ?hb ?_); (case hA => with_plain (exact rfl)); (case hb => omega)))
local macro_rules | `(tactic| walk_at "binaryOp Add int float") => `(tactic| (with_plain (refine' r_add_if ?hA ?hx ?hb ?_); (case hA => with_plain (exact rfl)); (case hx => first | with_reducible rfl | exact hf_half | exact hf_epoch); (case hb => omega)))
local macro_rules | `(tactic| walk_at "inplaceOp Add int float") => `(tactic| (with_plain (refine' r_iadd_if ?hA ?hx ?hb ?_); (case hA => with_plain (exact rfl)); (case hx => first | with_reducible rfl | exact hf_half | exact hf_epoch); (case hb => omega)))
local macro_rules | `(tactic| walk_at "binaryOp Sub float int") => `(tactic| (with_plain (refine' r_sub_fi ?hA ?hx ?hb ?_); (case hA => with_plain (exact rfl)); (case hx => first | with_reducible rfl | exact hf_half | exact hf_epoch); (case hb => omega)))
local macro_rules | `(tactic| walk_at "binaryOp Sub int float") => `(tactic| (with_plain (refine' r_sub_if ?hA ?hx ?hb ?_); (case hA => with_plain (exact rfl)); (case hx => first | with_reducible rfl | exact hf_half | exact hf_epoch); (case hb => omega)))
local macro_rules | `(tactic| walk_at "binaryOp Add float float") => `(tactic| (with_plain (refine' r_add_ff ?hx ?hy ?hb ?_); (case hx => first | with_reducible rfl | exact hf_half | exact hf_epoch); (case hy => first | with_reducible rfl | exact hf_half | exact hf_epoch); (case hb => omega)))
local macro_rules | `(tactic| walk_at "binaryOp Sub float float") => `(tactic| (with_plain (refine' r_sub_ff ?hx ?hy ?hb ?_); (case hx => first | with_reducible rfl | exact hf_half | exact hf_epoch); (case hy => first | with_reducible rfl | exact hf_half | exact hf_epoch); (case hb => omega)))
local macro_rules | `(tactic| walk_at "binaryOp Mult float int") => `(tactic| (with_plain (refine' r_mul_fi ?hA ?hx ?hb ?_); (case hA => with_plain (exact rfl)); (case hx => with_reducible rfl); (case hb => omega)))
local macro_rules | `(tactic| walk_at "binaryOp Mod float int") => `(tactic| (with_plain (refine' r_mod_fi ?hA ?hx ?hb ?hs1 ?hs2 ?_); (case hA => with_plain (exact rfl)); (case hx => with_reducible rfl); (case hb => omega); (case hs1 => decide +kernel); (case hs2 => decide +kernel)))
local macro_rules | `(tactic| walk_at "binaryOp Div float int") => `(tactic| (with_plain (refine' r_div_fi ?hA ?hb ?_); (case hA => with_plain (exact rfl)); (case hb => omega)))
local macro_rules | `(tactic| walk_at "binaryOp Div int int") => `(tactic| (with_plain (refine' r_div_ii ?hA ?hb ?_); (case hA => with_plain (exact rfl)); (case hb => omega)))
local macro_rules | `(tactic| walk_at "call builtin:math.floor") => `(tactic| (with_plain (refine' r_floor ?hA ?hx ?_); (case hA => with_plain (exact rfl)); (case hx => first | (with_reducible refine' fl_half ?hb; (case hb => omega)) | (with_reducible refine' fl_frac ?hb; (case hb => omega)) | (with_reducible refine' fl_div ?hb; (case hb => omega)) | (with_reducible refine' fl_month' ?hm ?hl ?hd; (case hm => omega); (case hl => omega); (case hd => omega)))))
local macro_rules | `(tactic| walk_at "call builtin:math.trunc") => `(tactic| (with_plain (refine' r_trunc ?hA ?hx ?hb ?_); (case hA => with_plain (exact rfl)); (case hx => with_reducible rfl); (case hb => omega)))
local macro_rules | `(tactic| walk_at "call type:int") => `(tactic| (with_plain (refine' r_int ?hA ?hx ?hb ?_); (case hA => with_plain (exact rfl)); (case hx => with_reducible rfl); (case hb => omega)))
local macro_rules | `(tactic| walk_at "compareOp Lt float int") => `(tactic| (with_plain (refine' r_lt_fi ?hx ?hb ?_); (case hx => with_reducible rfl); (case hb => omega)))
local macro_rules | `(tactic| walk_at "compareOp NotEq float float") => `(tactic| (with_plain (refine' r_ne_ff ?hx ?hy ?hb ?_); (case hx => with_reducible rfl); (case hy => with_reducible rfl); (case hb => omega)))
local macro_rules | `(tactic| walk_at "binaryOp Mod int int") => `(tactic| (with_reducible refine' r_mod_ii ?hb ?_; (case hb => omega)))
local macro_rules | `(tactic| walk_at "binaryOp FloorDiv int int") => `(tactic| (with_reducible refine' r_fdiv_ii ?hb ?_; (case hb => omega)))
local macro_rules | `(tactic| walk_at "compareOp In int ref") => `(tactic| (k_here; k_dflt (refine' r_inK ?F ?X ?l ?i ?_; (case F => k_asm); (case X => k_asm); (case l => k_is); (case i => repeat constructor))))
local macro_rules | `(tactic| walk_at "binaryOp Add int bool") => `(tactic| (with_reducible refine' r_add_leap ?_))
local macro_rules | `(tactic| walk_at "storeName") => `(tactic| (k_here; (with_reducible refine' store_isI ?hi ?he ?_); (case hi => with_reducible assumption); (case he => (intro hP9; first | omega | ((have hl9 := lp_one (by with_reducible assumption)); omega) | ((have hl9 := lp_nil (by with_reducible assumption)); omega))); k_dflt (refine' storeX_L ?F ?N ?_ ?a ?b; (case F => k_asm); (case N => k_asm); (case a => rfl); (case b => rfl); k_whole; intro h' F' N'; (try k_sweep))))
local macro_rules | `(tactic| walk_at "storeName") => `(tactic| (k_here; (with_reducible refine' store_isF ?hi ?he ?_); (case hi => with_reducible assumption); (case he => (intro hP9; first | omega | ((have hl9 := lp_one (by with_reducible assumption)); omega) | ((have hl9 := lp_nil (by with_reducible assumption)); omega))); k_dflt (refine' storeX_L ?F ?N ?_ ?a ?b; (case F => k_asm); (case N => k_asm); (case a => rfl); (case b => rfl); k_whole; intro h' F' N'; (try k_sweep))))
local macro_rules | `(tactic| walk_at "CutV") => `(tactic| k_dflt (first | (refine' cutV_set ?F ?N; (case F => assumption); (case N => assumption)) | (refine' cutV_keep ?hi ?F ?N ?ho ?he; (case hi => assumption); (case F => assumption); (case N => assumption); (case ho => exact rfl); (case he => (intro hP9; omega)))))
local macro_rules | `(tactic| walk_at "exec If") => `(tactic| (k_here; k_dflt (refine' cut_if ?hc ?F ?N ?_ ?_; (case hc => with_reducible assumption); (case F => k_asm); (case N => k_asm)); rotate_left; intro t9 h9 tk9 F9 N9; (try dsimp only); (try k_sweep); rotate_right))
local macro_rules | `(tactic| walk_at "call ref") => `(tactic| (k_here; k_dflt (refine' con_use (first_con _ _ _) ?k1 ?k2 ?k3 ?k4 ?k5 ?kK ?kd ?ku ?_;  (case k1 => k_asm); (case k2 => k_asm); (case k3 => k_asm); (case k4 => k_asm); (case k5 => k_asm); (case kK => first | exact rfl | assumption); (case kd => ktr_room); (case ku => ktr_units); k_whole); intro t9 h9 tk9 F9 N9; (try dsimp only); (try k_fold); (try k_sweep)))
abbrev lenObj (y : Int) (t1 t2 t3 t4 t5 t6 t7 t8 t9 t10 t11 t12 : Tok) (c : Nat) : Obj := listOf #[.int 31 t1, .int (28 + lp y) t2, .int 31 t3, .int 30 t4, .int 31 t5, .int 30 t6, .int 31 t7, .int 31 t8, .int 30 t9, .int 31 t10, .int 30 t11, .int 31 t12] c
abbrev RetL (y : Int) : Ends := fun h₀ L m news s Q _ => ∀ (D : Addr) (t1 t2 t3 t4 t5 t6 t7 t8 t9 t10 t11 t12 : Tok) (c : Nat) (h' : Heap) (tk' : Nat), Fr h₀ L h' m → News h₀ L h' ((D, lenObj y t1 t2 t3 t4 t5 t6 t7 t8 t9 t10 t11 t12 c) :: news) → AllLt D news → Q (.ref D) { s with heap := h', toks := tk' }
theorem endL {h₀ h' : Heap} {L D : Addr} {m : Str → Option Value} {news news' : List (Addr × Obj)} {s : Shared} {Q : Value → Shared → Prop} {y e : Int} {t1 t2 t3 t4 t5 t6 t7 t8 t9 t10 t11 t12 : Tok} {c : Nat} {tk' : Nat}
    (hret : ∀ (D : Addr) (t1 t2 t3 t4 t5 t6 t7 t8 t9 t10 t11 t12 : Tok) (c : Nat) (h' : Heap) (tk' : Nat), Fr h₀ L h' m → News h₀ L h' ((D, lenObj y t1 t2 t3 t4 t5 t6 t7 t8 t9 t10 t11 t12 c) :: news) → AllLt D news → Q (.ref D) { s with heap := h', toks := tk' })
    (F : Fr h₀ L h' m) (N : News h₀ L h' news') (hm : (D, listOf #[.int 31 t1, .int e t2, .int 31 t3, .int 30 t4, .int 31 t5, .int 30 t6, .int 31 t7, .int 31 t8, .int 30 t9, .int 31 t10, .int 30 t11, .int 31 t12] c) ∈ news') (hs : ∀ p ∈ news, p ∈ news') (hl : AllLt D news) (he : e = 28 + lp y) : Q (.ref D) { s with heap := h', toks := tk' } := by
  subst he
  refine hret D t1 t2 t3 t4 t5 t6 t7 t8 t9 t10 t11 t12 c h' tk' F (fun p hp => ?_) hl
  rcases List.mem_cons.mp hp with rfl | hp
  · exact N _ hm
  · exact N p (hs p hp)
theorem lengths_con (w : World) (y : Int) (t : Tok) : Con w 172 4 [.int y t] (RetL y) := by
  dsimp only [Con, RetL]
  k_fill
  have hy := gj_next y
  intros
  rename_i hret
  refine wpAny_call ?_
  k_dflt cell_enter
  k_steps
  all_goals exact endL hret (by assumption) (by assumption) (by k_mem) (by (repeat' (first | with_reducible exact mem_all0 | with_reducible refine mem_all1 ?_))) (by first | assumption | exact allLt_of (by assumption) | kcu_lt) (by omega)
end Mine
end

/-! part C14 -/
section
open PySem PySem.W PyProof.Rows PySem.Calls
namespace Mine
theorem year_at (w : World) {n Y : Int} {t : Tok} {P : Prop} (hi : Is (Str.ofString "Y") Y P) (h : P → gj Y 1 1 ≤ n ∧ n < gj (Y + 1) 1 1) (hn : -8000000000 ≤ n ∧ n ≤ 8000000000) : Con w 179 4 [.int n t] (RetI Y) := year_con w n Y t (h hi.out).1 (h hi.out).2 hn
end Mine
end

/-! part C10 -/
section
open PySem PySem.W PyProof.Rows PySem.Calls
namespace Mine
local macro_rules | `(tactic| walk_at "binaryOp Add float int") => `(tactic| first | (with_plain (refine' r_add_fi ?hA ?hx ?hb ?_); (case hA => with_plain (exact rfl)); (case hx => first | with_reducible rfl | exact hf_half | exact hf_epoch); (case hb => omega)) | (with_plain (refine' r_add_fi_any ?hA ?hb ?_); (case hA => with_plain (exact rfl)); (case hb => omega)))
local macro_rules | `(tactic| walk_at "binaryOp Add int float") => `(tactic| (with_plain (refine' r_add_if ?hA ?hx ?hb ?_); (case hA => with_plain (exact rfl)); (case hx => first | with_reducible rfl | exact hf_half | exact hf_epoch); (case hb => omega)))
local macro_rules | `(tactic| walk_at "inplaceOp Add int float") => `(tactic| (with_plain (refine' r_iadd_if ?hA ?hx ?hb ?_); (case hA => with_plain (exact rfl)); (case hx => first | with_reducible rfl | exact hf_half | exact hf_epoch); (case hb => omega)))
local macro_rules | `(tactic| walk_at "binaryOp Sub float int") => `(tactic| (with_plain (refine' r_sub_fi ?hA ?hx ?hb ?_); (case hA => with_plain (exact rfl)); (case hx => first | with_reducible rfl | exact hf_half | exact hf_epoch); (case hb => omega)))
local macro_rules | `(tactic| walk_at "binaryOp Sub int float") => `(tactic| (with_plain (refine' r_sub_if ?hA ?hx ?hb ?_); (case hA => with_plain (exact rfl)); (case hx => first | with_reducible rfl | exact hf_half | exact hf_epoch); (case hb => omega)))
local macro_rules | `(tactic| walk_at "binaryOp Add float float") => `(tactic| (with_plain (refine' r_add_ff ?hx ?hy ?hb ?_); (case hx => first | with_reducible rfl | exact hf_half | exact hf_epoch); (case hy => first | with_reducible rfl | exact hf_half | exact hf_epoch); (case hb => omega)))
local macro_rules | `(tactic| walk_at "binaryOp Sub float float") => `(tactic| (with_plain (refine' r_sub_ff ?hx ?hy ?hb ?_); (case hx => first | with_reducible rfl | exact hf_half | exact hf_epoch); (case hy => first | with_reducible rfl | exact hf_half | exact hf_epoch); (case hb => omega)))
local macro_rules | `(tactic| walk_at "binaryOp Mult float int") => `(tactic| (with_plain (refine' r_mul_fi ?hA ?hx ?hb ?_); (case hA => with_plain (exact rfl)); (case hx => with_reducible rfl); (case hb => omega)))
local macro_rules | `(tactic| walk_at "binaryOp Mod float int") => `(tactic| (with_plain (refine' r_mod_fi ?hA ?hx ?hb ?hs1 ?hs2 ?_); (case hA => with_plain (exact rfl)); (case hx => with_reducible rfl); (case hb => omega); (case hs1 => decide +kernel); (case hs2 => decide +kernel)))
local macro_rules | `(tactic| walk_at "binaryOp Div float int") => `(tactic| (with_plain (refine' r_div_fi ?hA ?hb ?_); (case hA => with_plain (exact rfl)); (case hb => omega)))
local macro_rules | `(tactic| walk_at "binaryOp Div int int") => `(tactic| (with_plain (refine' r_div_ii ?hA ?hb ?_); (case hA => with_plain (exact rfl)); (case hb => omega)))
local macro_rules | `(tactic| walk_at "call builtin:math.floor") => `(tactic| (with_plain (refine' r_floor ?hA ?hx ?_); (case hA => with_plain (exact rfl)); (case hx => first | (with_reducible refine' fl_half ?hb; (case hb => omega)) | (with_reducible refine' fl_frac ?hb; (case hb => omega)) | (with_reducible refine' fl_div ?hb; (case hb => omega)) | (with_reducible refine' fl_month' ?hm ?hl ?hd; (case hm => omega); (case hl => omega); (case hd => omega)))))
local macro_rules | `(tactic| walk_at "call builtin:math.trunc") => `(tactic| (with_plain (refine' r_trunc ?hA ?hx ?hb ?_); (case hA => with_plain (exact rfl)); (case hx => with_reducible rfl); (case hb => omega)))
local macro_rules | `(tactic| walk_at "call type:int") => `(tactic| (with_plain (refine' r_int ?hA ?hx ?hb ?_); (case hA => with_plain (exact rfl)); (case hx => with_reducible rfl); (case hb => omega)))
local macro_rules | `(tactic| walk_at "compareOp Lt float int") => `(tactic| (with_plain (refine' r_lt_fi ?hx ?hb ?_); (case hx => with_reducible rfl); (case hb => omega)))
local macro_rules | `(tactic| walk_at "compareOp NotEq float float") => `(tactic| (with_plain (refine' r_ne_ff ?hx ?hy ?hb ?_); (case hx => with_reducible rfl); (case hy => with_reducible rfl); (case hb => omega)))
local macro_rules | `(tactic| walk_at "binaryOp Mod int int") => `(tactic| (with_reducible refine' r_mod_ii ?hb ?_; (case hb => omega)))
local macro_rules | `(tactic| walk_at "binaryOp FloorDiv int int") => `(tactic| (with_reducible refine' r_fdiv_ii ?hb ?_; (case hb => omega)))
local macro_rules | `(tactic| walk_at "compareOp In int ref") => `(tactic| (k_here; k_dflt (refine' r_inK ?F ?X ?l ?i ?_; (case F => k_asm); (case X => k_asm); (case l => k_is); (case i => repeat constructor))))
local macro_rules | `(tactic| walk_at "binaryOp Add int bool") => `(tactic| (with_reducible refine' r_add_leap ?_))
local macro_rules | `(tactic| walk_at "storeName") => `(tactic| (k_here; (with_reducible refine' store_isI ?hi ?he ?_); (case hi => with_reducible assumption); (case he => (intro hP9; first | omega | ((have hl9 := lp_one (by with_reducible assumption)); omega) | ((have hl9 := lp_nil (by with_reducible assumption)); omega))); k_dflt (refine' storeX_L ?F ?N ?_ ?a ?b; (case F => k_asm); (case N => k_asm); (case a => rfl); (case b => rfl); k_whole; intro h' F' N'; (try k_sweep))))
local macro_rules | `(tactic| walk_at "storeName") => `(tactic| (k_here; (with_reducible refine' store_isF ?hi ?he ?_); (case hi => with_reducible assumption); (case he => (intro hP9; first | omega | ((have hl9 := lp_one (by with_reducible assumption)); omega) | ((have hl9 := lp_nil (by with_reducible assumption)); omega))); k_dflt (refine' storeX_L ?F ?N ?_ ?a ?b; (case F => k_asm); (case N => k_asm); (case a => rfl); (case b => rfl); k_whole; intro h' F' N'; (try k_sweep))))
local macro_rules | `(tactic| walk_at "CutV") => `(tactic| k_dflt (first | (refine' cutV_set ?F ?N; (case F => assumption); (case N => assumption)) | (refine' cutV_keep ?hi ?F ?N ?ho ?he; (case hi => assumption); (case F => assumption); (case N => assumption); (case ho => exact rfl); (case he => (intro hP9; omega)))))
local macro_rules | `(tactic| walk_at "exec If") => `(tactic| (k_here; k_dflt (refine' cut_if ?hc ?F ?N ?_ ?_; (case hc => with_reducible assumption); (case F => k_asm); (case N => k_asm)); rotate_left; intro t9 h9 tk9 F9 N9; (try dsimp only); (try k_sweep); rotate_right))
local macro_rules | `(tactic| k_room) => `(tactic| ktr_room)
local macro_rules | `(tactic| walk_at "call type:datetime.date") => `(tactic| (k_here; k_dflt (refine' date_K ?F ?N ?hA ?hb ?hE ?hQ; (case F => k_asm); (case N => k_asm); (case hA => exact rfl); (case hb => omega)); first
  | ((case hE => (intro hF; exact absurd (by with_reducible assumption) hF)); intro hok D' h' F' N' l1; (try k_lt l1); (try k_sweep))
  | ((case hQ => (intro hF; exact absurd hF (by with_reducible assumption))); intro hF h' tk' e' hN'; (try dsimp only))))
local macro_rules | `(tactic| walk_at "getMethod ref") => `(tactic| (k_here; k_dflt (refine' getiso_K ?N ?D ?_; (case N => k_asm); (case D => k_mem); k_whole)))
local macro_rules | `(tactic| walk_at "call builtin:datetime.date.isocalendar") => `(tactic| (k_here; k_dflt (refine' isocal_K ?F ?N ?D ?_; (case F => k_asm); (case N => k_asm); (case D => k_mem); k_whole); intro C' u1 u2 u3 h' tk' F' N' l1; (try k_lt l1); (try k_sweep)))
local macro_rules | `(tactic| walk_at "call ref") => `(tactic| (k_here; k_dflt (refine' con_use (from_jd_con _ _ _ _ _ _ ?ho ?ha ?hy) ?k1 ?k2 ?k3 ?k4 ?k5 ?kK ?kd ?ku ?_; (case ho => with_reducible assumption); (case ha => with_reducible assumption); (case hy => omega); (case k1 => k_asm); (case k2 => k_asm); (case k3 => k_asm); (case k4 => k_asm); (case k5 => k_asm); (case kK => first | exact rfl | assumption); (case kd => ktr_room); (case ku => ktr_units); k_whole); intro D9 u1 u2 u3 c9 h9 tk9 F9 N9 l9; (try dsimp only); (try k_fold); (try k_sweep)))
theorem asked0_ok (w : World) (a y m d : Int) (t0 t1 t2 t3 : Tok) (h : okDate y m d) (ha : a = 2 * gj y m d - 1) (hy : -10000100 ≤ y ∧ y ≤ 10000100) (hr : inRange y m d) :
    Con0 w 200 10 [.int 0 t0, .float (hf a) t1, .int 0 t2, .int 0 t3] (RetIso (PySem.Builtin._datetime.isoCalendarOf y m d).1 (PySem.Builtin._datetime.isoCalendarOf y m d).2.1 (PySem.Builtin._datetime.isoCalendarOf y m d).2.2) := by
  dsimp only [Con0, RetIso]
  k_fill
  have hb : (1 ≤ y ∧ y ≤ 9999) ∧ (1 ≤ m ∧ m ≤ 12) ∧ 1 ≤ d := ⟨hr.1, hr.2.1, hr.2.2.1⟩
  have hd : d ≤ 31 := by
    have h1 := h.2.2.2
    have h2 := dim_facts y m
    have h3 := lp_cases y
    omega
  intros
  rename_i hret
  refine wpAny_call ?_
  k_dflt (refine' code_defS0 ?k1 ?k2 ?k3 ?k4 ?k5 ?kA ?k6 ?k7 ?k8 ?k9 ?kB ?_ ?cK ?c2 ?c3 ?c4 ?c5; (case kA => exact rfl); (case k2 => k_asm); (case k1 => k_asm); (case k3 => k_asm); (case k4 => k_asm); (case k5 => k_asm); (case k6 => k_is); (case k7 => k_is); (case k8 => ktr_room); (case k9 => exact BindsTo.of_eq rfl); (case kB => exact locs rfl); (case cK => assumption); (case c2 => exact rfl); (case c3 => exact rfl); (case c4 => exact rfl); (case c5 => decide); k_whole; intro g' L' h' FG' F' N' B' X' T' D'; (try dsimp only); (try k_lift B'); (try k_fold))
  k_steps
  all_goals exact endIso hret (by assumption) (by assumption) (by k_mem) (by (repeat' (first | with_reducible exact mem_all0 | with_reducible refine mem_all1 ?_))) (by first | assumption | exact allLt_of (by assumption) | exact And.right (by assumption) | exact And.right (And.right (by assumption)) | kcu_lt) (by exact ⟨rfl, rfl, rfl⟩)
theorem asked0_no (w : World) (a y m d : Int) (t0 t1 t2 t3 : Tok) (h : okDate y m d) (ha : a = 2 * gj y m d - 1) (hy : -10000100 ≤ y ∧ y ≤ 10000100) (hr : ¬ inRange y m d) :
    Con0 w 200 10 [.int 0 t0, .float (hf a) t1, .int 0 t2, .int 0 t3] (RetS (Str.ofString "refused")) := by
  dsimp only [Con0, RetS]
  k_fill
  have hd : 1 ≤ m ∧ m ≤ 12 ∧ 1 ≤ d ∧ d ≤ 31 := by
    have h1 := h.2.2.2
    have h2 := dim_facts y m
    have h3 := lp_cases y
    have h4 := h.1
    have h5 := h.2.1
    have h6 := h.2.2.1
    omega
  intros
  rename_i hret
  refine wpAny_call ?_
  k_dflt (refine' code_defS0 ?k1 ?k2 ?k3 ?k4 ?k5 ?kA ?k6 ?k7 ?k8 ?k9 ?kB ?_ ?cK ?c2 ?c3 ?c4 ?c5; (case kA => exact rfl); (case k2 => k_asm); (case k1 => k_asm); (case k3 => k_asm); (case k4 => k_asm); (case k5 => k_asm); (case k6 => k_is); (case k7 => k_is); (case k8 => ktr_room); (case k9 => exact BindsTo.of_eq rfl); (case kB => exact locs rfl); (case cK => assumption); (case c2 => exact rfl); (case c3 => exact rfl); (case c4 => exact rfl); (case c5 => decide); k_whole; intro g' L' h' FG' F' N' B' X' T' D'; (try dsimp only); (try k_lift B'); (try k_fold))
  k_steps
  all_goals exact endS hret (by assumption) (by assumption) (by (repeat' (first | with_reducible exact mem_all0 | with_reducible refine mem_all1 ?_)))
end Mine
end

/-! part C11 -/
section
open PySem PySem.W PyProof.Rows PySem.Calls
namespace Mine
local macro_rules | `(tactic| walk_at "binaryOp Add float int") => `(tactic| first | (with_plain (refine' r_add_fi ?hA ?hx ?hb ?_); (case hA => with_plain (exact rfl)); (case hx => first | with_reducible rfl | exact hf_half | exact hf_epoch); (case hb => omega)) | (with_plain (refine' r_add_fi_any ?hA ?hb ?_); (case hA => with_plain (exact rfl)); (case hb => omega)))
local macro_rules | `(tactic| walk_at "binaryOp Add int float") => `(tactic| (with_plain (refine' r_add_if ?hA ?hx ?hb ?_); (case hA => with_plain (exact rfl)); (case hx => first | with_reducible rfl | exact hf_half | exact hf_epoch); (case hb => omega)))
local macro_rules | `(tactic| walk_at "inplaceOp Add int float") => `(tactic| (with_plain (refine' r_iadd_if ?hA ?hx ?hb ?_); (case hA => with_plain (exact rfl)); (case hx => first | with_reducible rfl | exact hf_half | exact hf_epoch); (case hb => omega)))
local macro_rules | `(tactic| walk_at "binaryOp Sub float int") => `(tactic| (with_plain (refine' r_sub_fi ?hA ?hx ?hb ?_); (case hA => with_plain (exact rfl)); (case hx => first | with_reducible rfl | exact hf_half | exact hf_epoch); (case hb => omega)))
local macro_rules | `(tactic| walk_at "binaryOp Sub int float") => `(tactic| (with_plain (refine' r_sub_if ?hA ?hx ?hb ?_); (case hA => with_plain (exact rfl)); (case hx => first | with_reducible rfl | exact hf_half | exact hf_epoch); (case hb => omega)))
local macro_rules | `(tactic| walk_at "binaryOp Add float float") => `(tactic| (with_plain (refine' r_add_ff ?hx ?hy ?hb ?_); (case hx => first | with_reducible rfl | exact hf_half | exact hf_epoch); (case hy => first | with_reducible rfl | exact hf_half | exact hf_epoch); (case hb => omega)))
local macro_rules | `(tactic| walk_at "binaryOp Sub float float") => `(tactic| (with_plain (refine' r_sub_ff ?hx ?hy ?hb ?_); (case hx => first | with_reducible rfl | exact hf_half | exact hf_epoch); (case hy => first | with_reducible rfl | exact hf_half | exact hf_epoch); (case hb => omega)))
local macro_rules | `(tactic| walk_at "binaryOp Mult float int") => `(tactic| (with_plain (refine' r_mul_fi ?hA ?hx ?hb ?_); (case hA => with_plain (exact rfl)); (case hx => with_reducible rfl); (case hb => omega)))
local macro_rules | `(tactic| walk_at "binaryOp Mod float int") => `(tactic| (with_plain (refine' r_mod_fi ?hA ?hx ?hb ?hs1 ?hs2 ?_); (case hA => with_plain (exact rfl)); (case hx => with_reducible rfl); (case hb => omega); (case hs1 => decide +kernel); (case hs2 => decide +kernel)))
local macro_rules | `(tactic| walk_at "binaryOp Div float int") => `(tactic| (with_plain (refine' r_div_fi ?hA ?hb ?_); (case hA => with_plain (exact rfl)); (case hb => omega)))
local macro_rules | `(tactic| walk_at "binaryOp Div int int") => `(tactic| (with_plain (refine' r_div_ii ?hA ?hb ?_); (case hA => with_plain (exact rfl)); (case hb => omega)))
local macro_rules | `(tactic| walk_at "call builtin:math.floor") => `(tactic| (with_plain (refine' r_floor ?hA ?hx ?_); (case hA => with_plain (exact rfl)); (case hx => first | (with_reducible refine' fl_half ?hb; (case hb => omega)) | (with_reducible refine' fl_frac ?hb; (case hb => omega)) | (with_reducible refine' fl_div ?hb; (case hb => omega)) | (with_reducible refine' fl_month' ?hm ?hl ?hd; (case hm => omega); (case hl => omega); (case hd => omega)))))
local macro_rules | `(tactic| walk_at "call builtin:math.trunc") => `(tactic| (with_plain (refine' r_trunc ?hA ?hx ?hb ?_); (case hA => with_plain (exact rfl)); (case hx => with_reducible rfl); (case hb => omega)))
local macro_rules | `(tactic| walk_at "call type:int") => `(tactic| (with_plain (refine' r_int ?hA ?hx ?hb ?_); (case hA => with_plain (exact rfl)); (case hx => with_reducible rfl); (case hb => omega)))
local macro_rules | `(tactic| walk_at "compareOp Lt float int") => `(tactic| (with_plain (refine' r_lt_fi ?hx ?hb ?_); (case hx => with_reducible rfl); (case hb => omega)))
local macro_rules | `(tactic| walk_at "compareOp NotEq float float") => `(tactic| (with_plain (refine' r_ne_ff ?hx ?hy ?hb ?_); (case hx => with_reducible rfl); (case hy => with_reducible rfl); (case hb => omega)))
local macro_rules | `(tactic| walk_at "binaryOp Mod int int") => `(tactic| (with_reducible refine' r_mod_ii ?hb ?_; (case hb => omega)))
local macro_rules | `(tactic| walk_at "binaryOp FloorDiv int int") => `(tactic| (with_reducible refine' r_fdiv_ii ?hb ?_; (case hb => omega)))
local macro_rules | `(tactic| walk_at "compareOp In int ref") => `(tactic| (k_here; k_dflt (refine' r_inK ?F ?X ?l ?i ?_; (case F => k_asm); (case X => k_asm); (case l => k_is); (case i => repeat constructor))))
local macro_rules | `(tactic| walk_at "binaryOp Add int bool") => `(tactic| (with_reducible refine' r_add_leap ?_))
local macro_rules | `(tactic| walk_at "storeName") => `(tactic| (k_here; (with_reducible refine' store_isI ?hi ?he ?_); (case hi => with_reducible assumption); (case he => (intro hP9; first | omega | ((have hl9 := lp_one (by with_reducible assumption)); omega) | ((have hl9 := lp_nil (by with_reducible assumption)); omega))); k_dflt (refine' storeX_L ?F ?N ?_ ?a ?b; (case F => k_asm); (case N => k_asm); (case a => rfl); (case b => rfl); k_whole; intro h' F' N'; (try k_sweep))))
local macro_rules | `(tactic| walk_at "storeName") => `(tactic| (k_here; (with_reducible refine' store_isF ?hi ?he ?_); (case hi => with_reducible assumption); (case he => (intro hP9; first | omega | ((have hl9 := lp_one (by with_reducible assumption)); omega) | ((have hl9 := lp_nil (by with_reducible assumption)); omega))); k_dflt (refine' storeX_L ?F ?N ?_ ?a ?b; (case F => k_asm); (case N => k_asm); (case a => rfl); (case b => rfl); k_whole; intro h' F' N'; (try k_sweep))))
local macro_rules | `(tactic| walk_at "CutV") => `(tactic| k_dflt (first | (refine' cutV_set ?F ?N; (case F => assumption); (case N => assumption)) | (refine' cutV_keep ?hi ?F ?N ?ho ?he; (case hi => assumption); (case F => assumption); (case N => assumption); (case ho => exact rfl); (case he => (intro hP9; omega)))))
local macro_rules | `(tactic| walk_at "exec If") => `(tactic| (k_here; k_dflt (refine' cut_if ?hc ?F ?N ?_ ?_; (case hc => with_reducible assumption); (case F => k_asm); (case N => k_asm)); rotate_left; intro t9 h9 tk9 F9 N9; (try dsimp only); (try k_sweep); rotate_right))
local macro_rules | `(tactic| k_room) => `(tactic| ktr_room)
local macro_rules | `(tactic| walk_at "call type:datetime.date") => `(tactic| (k_here; k_dflt (refine' date_K ?F ?N ?hA ?hb ?hE ?hQ; (case F => k_asm); (case N => k_asm); (case hA => exact rfl); (case hb => omega)); first
  | ((case hE => (intro hF; exact absurd (by with_reducible assumption) hF)); intro hok D' h' F' N' l1; (try k_lt l1); (try k_sweep))
  | ((case hQ => (intro hF; exact absurd hF (by with_reducible assumption))); intro hF h' tk' e' hN'; (try dsimp only))))
local macro_rules | `(tactic| walk_at "getMethod ref") => `(tactic| (k_here; k_dflt (refine' getiso_K ?N ?D ?_; (case N => k_asm); (case D => k_mem); k_whole)))
local macro_rules | `(tactic| walk_at "call builtin:datetime.date.isocalendar") => `(tactic| (k_here; k_dflt (refine' isocal_K ?F ?N ?D ?_; (case F => k_asm); (case N => k_asm); (case D => k_mem); k_whole); intro C' u1 u2 u3 h' tk' F' N' l1; (try k_lt l1); (try k_sweep)))
theorem asked1_ok (w : World) (y m d : Int) (t0 t1 t2 t3 : Tok) (hr : inRange y m d) (hd : d ≤ 1000) :
    Con0 w 200 10 [.int 1 t0, .int y t1, .int m t2, .int d t3] (RetIso (PySem.Builtin._datetime.isoCalendarOf y m d).1 (PySem.Builtin._datetime.isoCalendarOf y m d).2.1 (PySem.Builtin._datetime.isoCalendarOf y m d).2.2) := by
  dsimp only [Con0, RetIso]
  k_fill
  have hb : (1 ≤ y ∧ y ≤ 9999) ∧ (1 ≤ m ∧ m ≤ 12) ∧ 1 ≤ d := ⟨hr.1, hr.2.1, hr.2.2.1⟩
  intros
  rename_i hret
  refine wpAny_call ?_
  k_dflt (refine' code_defS0 ?k1 ?k2 ?k3 ?k4 ?k5 ?kA ?k6 ?k7 ?k8 ?k9 ?kB ?_ ?cK ?c2 ?c3 ?c4 ?c5; (case kA => exact rfl); (case k2 => k_asm); (case k1 => k_asm); (case k3 => k_asm); (case k4 => k_asm); (case k5 => k_asm); (case k6 => k_is); (case k7 => k_is); (case k8 => ktr_room); (case k9 => exact BindsTo.of_eq rfl); (case kB => exact locs rfl); (case cK => assumption); (case c2 => exact rfl); (case c3 => exact rfl); (case c4 => exact rfl); (case c5 => decide); k_whole; intro g' L' h' FG' F' N' B' X' T' D'; (try dsimp only); (try k_lift B'); (try k_fold))
  k_steps
  all_goals exact endIso hret (by assumption) (by assumption) (by k_mem) (by (repeat' (first | with_reducible exact mem_all0 | with_reducible refine mem_all1 ?_))) (by first | assumption | exact allLt_of (by assumption) | exact And.right (by assumption) | exact And.right (And.right (by assumption)) | kcu_lt) (by exact ⟨rfl, rfl, rfl⟩)
theorem asked1_no (w : World) (y m d : Int) (t0 t1 t2 t3 : Tok) (hr : ¬ inRange y m d) (hd : (-100000 ≤ y ∧ y ≤ 100000) ∧ (-1000 ≤ m ∧ m ≤ 1000) ∧ -1000 ≤ d ∧ d ≤ 1000) :
    Con0 w 200 10 [.int 1 t0, .int y t1, .int m t2, .int d t3] (RetS (Str.ofString "refused")) := by
  dsimp only [Con0, RetS]
  k_fill
  intros
  rename_i hret
  refine wpAny_call ?_
  k_dflt (refine' code_defS0 ?k1 ?k2 ?k3 ?k4 ?k5 ?kA ?k6 ?k7 ?k8 ?k9 ?kB ?_ ?cK ?c2 ?c3 ?c4 ?c5; (case kA => exact rfl); (case k2 => k_asm); (case k1 => k_asm); (case k3 => k_asm); (case k4 => k_asm); (case k5 => k_asm); (case k6 => k_is); (case k7 => k_is); (case k8 => ktr_room); (case k9 => exact BindsTo.of_eq rfl); (case kB => exact locs rfl); (case cK => assumption); (case c2 => exact rfl); (case c3 => exact rfl); (case c4 => exact rfl); (case c5 => decide); k_whole; intro g' L' h' FG' F' N' B' X' T' D'; (try dsimp only); (try k_lift B'); (try k_fold))
  k_steps
  all_goals exact endS hret (by assumption) (by assumption) (by (repeat' (first | with_reducible exact mem_all0 | with_reducible refine mem_all1 ?_)))
end Mine
end

/-! part C15 -/
section
open PySem PySem.W PyProof.Rows PySem.Calls
namespace Mine
local macro_rules | `(tactic| walk_at "binaryOp Add float int") => `(tactic| first | (with_plain (refine' r_add_fi ?hA ?hx ?hb ?_); (case hA => with_plain (exact rfl)); (case hx => first | with_reducible rfl | exact hf_half | exact hf_epoch); (case hb => omega)) | (with_plain (refine' r_add_fi_any ?hA ?hb ?_); (case hA => with_plain (exact rfl)); (case hb => omega)))
local macro_rules | `(tactic| walk_at "binaryOp Add int float") => `(tactic| (with_plain (refine' r_add_if ?hA ?hx ?hb ?_); (case hA => with_plain (exact rfl)); (case hx => first | with_reducible rfl | exact hf_half | exact hf_epoch); (case hb => omega)))
local macro_rules | `(tactic| walk_at "inplaceOp Add int float") => `(tactic| (with_plain (refine' r_iadd_if ?hA ?hx ?hb ?_); (case hA => with_plain (exact rfl)); (case hx => first | with_reducible rfl | exact hf_half | exact hf_epoch); (case hb => omega)))
local macro_rules | `(tactic| walk_at "binaryOp Sub float int") => `(tactic| (with_plain (refine' r_sub_fi ?hA ?hx ?hb ?_); (case hA => with_plain (exact rfl)); (case hx => first | with_reducible rfl | exact hf_half | exact hf_epoch); (case hb => omega)))
local macro_rules | `(tactic| walk_at "binaryOp Sub int float") => `(tactic| (with_plain (refine' r_sub_if ?hA ?hx ?hb ?_); (case hA => with_plain (exact rfl)); (case hx => first | with_reducible rfl | exact hf_half | exact hf_epoch); (case hb => omega)))
local macro_rules | `(tactic| walk_at "binaryOp Add float float") => `(tactic| (with_plain (refine' r_add_ff ?hx ?hy ?hb ?_); (case hx => first | with_reducible rfl | exact hf_half | exact hf_epoch); (case hy => first | with_reducible rfl | exact hf_half | exact hf_epoch); (case hb => omega)))
local macro_rules | `(tactic| walk_at "binaryOp Sub float float") => `(tactic| (with_plain (refine' r_sub_ff ?hx ?hy ?hb ?_); (case hx => first | with_reducible rfl | exact hf_half | exact hf_epoch); (case hy => first | with_reducible rfl | exact hf_half | exact hf_epoch); (case hb => omega)))
local macro_rules | `(tactic| walk_at "binaryOp Mult float int") => `(tactic| (with_plain (refine' r_mul_fi ?hA ?hx ?hb ?_); (case hA => with_plain (exact rfl)); (case hx => with_reducible rfl); (case hb => omega)))
local macro_rules | `(tactic| walk_at "binaryOp Mod float int") => `(tactic| (with_plain (refine' r_mod_fi ?hA ?hx ?hb ?hs1 ?hs2 ?_); (case hA => with_plain (exact rfl)); (case hx => with_reducible rfl); (case hb => omega); (case hs1 => decide +kernel); (case hs2 => decide +kernel)))
local macro_rules | `(tactic| walk_at "binaryOp Div float int") => `(tactic| (with_plain (refine' r_div_fi ?hA ?hb ?_); (case hA => with_plain (exact rfl)); (case hb => omega)))
local macro_rules | `(tactic| walk_at "binaryOp Div int int") => `(tactic| (with_plain (refine' r_div_ii ?hA ?hb ?_); (case hA => with_plain (exact rfl)); (case hb => omega)))
local macro_rules | `(tactic| walk_at "call builtin:math.floor") => `(tactic| (with_plain (refine' r_floor ?hA ?hx ?_); (case hA => with_plain (exact rfl)); (case hx => first | (with_reducible refine' fl_half ?hb; (case hb => omega)) | (with_reducible refine' fl_frac ?hb; (case hb => omega)) | (with_reducible refine' fl_div ?hb; (case hb => omega)) | (with_reducible refine' fl_month' ?hm ?hl ?hd; (case hm => omega); (case hl => omega); (case hd => omega)))))
local macro_rules | `(tactic| walk_at "call builtin:math.trunc") => `(tactic| (with_plain (refine' r_trunc ?hA ?hx ?hb ?_); (case hA => with_plain (exact rfl)); (case hx => with_reducible rfl); (case hb => omega)))
local macro_rules | `(tactic| walk_at "call type:int") => `(tactic| (with_plain (refine' r_int ?hA ?hx ?hb ?_); (case hA => with_plain (exact rfl)); (case hx => with_reducible rfl); (case hb => omega)))
local macro_rules | `(tactic| walk_at "compareOp Lt float int") => `(tactic| (with_plain (refine' r_lt_fi ?hx ?hb ?_); (case hx => with_reducible rfl); (case hb => omega)))
local macro_rules | `(tactic| walk_at "compareOp NotEq float float") => `(tactic| (with_plain (refine' r_ne_ff ?hx ?hy ?hb ?_); (case hx => with_reducible rfl); (case hy => with_reducible rfl); (case hb => omega)))
local macro_rules | `(tactic| walk_at "binaryOp Mod int int") => `(tactic| (with_reducible refine' r_mod_ii ?hb ?_; (case hb => omega)))
local macro_rules | `(tactic| walk_at "binaryOp FloorDiv int int") => `(tactic| (with_reducible refine' r_fdiv_ii ?hb ?_; (case hb => omega)))
local macro_rules | `(tactic| walk_at "compareOp In int ref") => `(tactic| (k_here; k_dflt (refine' r_inK ?F ?X ?l ?i ?_; (case F => k_asm); (case X => k_asm); (case l => k_is); (case i => repeat constructor))))
local macro_rules | `(tactic| walk_at "binaryOp Add int bool") => `(tactic| (with_reducible refine' r_add_leap ?_))
local macro_rules | `(tactic| walk_at "storeName") => `(tactic| (k_here; (with_reducible refine' store_isI ?hi ?he ?_); (case hi => with_reducible assumption); (case he => (intro hP9; first | omega | ((have hl9 := lp_one (by with_reducible assumption)); omega) | ((have hl9 := lp_nil (by with_reducible assumption)); omega))); k_dflt (refine' storeX_L ?F ?N ?_ ?a ?b; (case F => k_asm); (case N => k_asm); (case a => rfl); (case b => rfl); k_whole; intro h' F' N'; (try k_sweep))))
local macro_rules | `(tactic| walk_at "storeName") => `(tactic| (k_here; (with_reducible refine' store_isF ?hi ?he ?_); (case hi => with_reducible assumption); (case he => (intro hP9; first | omega | ((have hl9 := lp_one (by with_reducible assumption)); omega) | ((have hl9 := lp_nil (by with_reducible assumption)); omega))); k_dflt (refine' storeX_L ?F ?N ?_ ?a ?b; (case F => k_asm); (case N => k_asm); (case a => rfl); (case b => rfl); k_whole; intro h' F' N'; (try k_sweep))))
local macro_rules | `(tactic| walk_at "CutV") => `(tactic| k_dflt (first | (refine' cutV_set ?F ?N; (case F => assumption); (case N => assumption)) | (refine' cutV_keep ?hi ?F ?N ?ho ?he; (case hi => assumption); (case F => assumption); (case N => assumption); (case ho => exact rfl); (case he => (intro hP9; omega)))))
local macro_rules | `(tactic| walk_at "exec If") => `(tactic| (k_here; k_dflt (refine' cut_if ?hc ?F ?N ?_ ?_; (case hc => with_reducible assumption); (case F => k_asm); (case N => k_asm)); rotate_left; intro t9 h9 tk9 F9 N9; (try dsimp only); (try k_sweep); rotate_right))
theorem unr_end {h₀ : Heap} {L I D : Addr} {it lo : Obj} {rest : (Str → Option Value) → List (Addr × Obj) → Prop} {s₁ : Shared} {h' : Heap} {tk : Nat} {m' : Str → Option Value} {news : List (Addr × Obj)} (F : Fr h₀ L h' m') (N : News h₀ L h' ((I, it) :: (D, lo) :: news))
    (hl : ∀ p ∈ (D, lo) :: news, p.1 < I) (r : rest m' ((D, lo) :: news)) : UnrEnd h₀ L s₁ I it rest { s₁ with heap := h', toks := tk } :=
  UnrEnd.intro F N ((D, lo) :: news) (fun _ hp => hp) (fun p hp => Nat.ne_of_lt (hl p hp)) r
local macro_rules | `(tactic| walk_at "pyIter ref") => `(tactic| ((with_reducible show wpAny _ _ (pyIter (Value.ref _)) (fun it s₂ => LoopAtV _ _ _ _ _ _ _ _ _ it s₂) _ _); (rename Fr _ _ _ _ => lF'); (rename News _ _ _ _ => lN'); (with_unfolding_all refine iter_listUnr (lo := lenObj _ _ _ _ _ _ _ _ _ _ _ _ _ _) (vs := [_, _, _, _, _, _, _, _, _, _, _, _]) (by rfl) lF' lN' (by exact List.Mem.head _) (by rfl) (by rfl) ?_); clear lF'; intro i' l1))
local macro_rules | `(tactic| walk_at "UnrEnd") => `(tactic| (k_dflt (refine' unr_end ?F ?N ?hl ⟨List.Mem.head _, ?_⟩; (case F => assumption); (case N => assumption); (case hl => assumption))))
local macro_rules | `(tactic| walk_at "call ref") => `(tactic| (k_here; k_dflt (refine' con_use (first_con _ _ _) ?k1 ?k2 ?k3 ?k4 ?k5 ?kK ?kd ?ku ?_;  (case k1 => k_asm); (case k2 => k_asm); (case k3 => k_asm); (case k4 => k_asm); (case k5 => k_asm); (case kK => first | exact rfl | assumption); (case kd => ktr_room); (case ku => ktr_units); k_whole); intro t9 h9 tk9 F9 N9; (try dsimp only); (try k_fold); (try k_sweep)))
local macro_rules | `(tactic| walk_at "call ref") => `(tactic| (k_here; k_dflt (refine' con_use (lengths_con _ _ _) ?k1 ?k2 ?k3 ?k4 ?k5 ?kK ?kd ?ku ?_;  (case k1 => k_asm); (case k2 => k_asm); (case k3 => k_asm); (case k4 => k_asm); (case k5 => k_asm); (case kK => first | exact rfl | assumption); (case kd => ktr_room); (case ku => ktr_units); k_whole); intro D9 t1 t2 t3 t4 t5 t6 t7 t8 t9 t10 t11 t12 c9 h9 tk9 F9 N9 l9; (try dsimp only); (try k_sweep)))
local macro_rules | `(tactic| walk_at "call ref") => `(tactic| (k_here; k_dflt (refine' con_use (year_at _ ?hi ?h ?hn) ?k1 ?k2 ?k3 ?k4 ?k5 ?kK ?kd ?ku ?_; (case hi => with_reducible assumption); (case h => (intro hP9; omega)); (case hn => omega); (case k1 => k_asm); (case k2 => k_asm); (case k3 => k_asm); (case k4 => k_asm); (case k5 => k_asm); (case kK => first | exact rfl | assumption); (case kd => ktr_room); (case ku => ktr_units); k_whole); intro t9 h9 tk9 F9 N9; (try dsimp only); (try k_fold); (try k_sweep)))
theorem date_con (w : World) (n y m d : Int) (t : Tok) (h : okDate y m d) (hn : n = gj y m d) (hy : -10000100 ≤ y ∧ y ≤ 10000100) : Con w 186 6 [.int n t] (RetT3 y m d) := by
  dsimp only [Con, RetT3]
  k_fill
  obtain ⟨b0, b1, b2, b3, b4⟩ := yday_back h
  have hl := lp_cases y
  have hl2 : 0 ≤ lp y ∧ lp y ≤ 1 := by omega
  have hg := gj_yday y m d
  have hN := gj_next y
  have hb := gj_bound (m := m) (d := d) hy (by omega)
  have i1 := Is.by (Str.ofString "Y") y (And.intro hg hN)
  clear b2 b3 b4 hl
  intros
  rename_i hret
  refine wpAny_call ?_
  k_dflt cell_enter
  k_steps
  all_goals (refine endT3 hret (by k_asm) (by k_asm) (by k_mem) (by (repeat' (first | with_reducible exact mem_all0 | with_reducible refine mem_all1 ?_))) (by first | assumption | exact allLt_of (by assumption) | exact And.right (by assumption) | exact And.right (And.right (by assumption)) | kcu_lt) ⟨rfl, ?_⟩)
  all_goals ((try simp only [Int.reduceAdd]); refine date_uniq h ⟨by decide, by decide⟩ ?_ ?_ <;> simp only [dim_1, yd_1, dim_2, yd_2, dim_3, yd_3, dim_4, yd_4, dim_5, yd_5, dim_6, yd_6, dim_7, yd_7, dim_8, yd_8, dim_9, yd_9, dim_10, yd_10, dim_11, yd_11, dim_12, yd_12] <;> omega)
end Mine
end

/-! part C16 -/
section
open PySem PySem.W PyProof.Rows PySem.Calls
namespace Mine
local macro_rules | `(tactic| walk_at "binaryOp Add float int") => `(tactic| first | (with_plain (refine' r_add_fi ?hA ?hx ?hb ?_); (case hA => with_plain (exact rfl)); (case hx => first | with_reducible rfl | exact hf_half | exact hf_epoch); (case hb => omega)) | (with_plain (refine' r_add_fi_any ?hA ?hb ?_); (case hA => with_plain (exact rfl)); (case hb => omega)))
local macro_rules | `(tactic| walk_at "binaryOp Add int float") => `(tactic| (with_plain (refine' r_add_if ?hA ?hx ?hb ?_); (case hA => with_plain (exact rfl)); (case hx => first | with_reducible rfl | exact hf_half | exact hf_epoch); (case hb => omega)))
local macro_rules | `(tactic| walk_at "inplaceOp Add int float") => `(tactic| (with_plain (refine' r_iadd_if ?hA ?hx ?hb ?_); (case hA => with_plain (exact rfl)); (case hx => first | with_reducible rfl | exact hf_half | exact hf_epoch); (case hb => omega)))
local macro_rules | `(tactic| walk_at "binaryOp Sub float int") => `(tactic| (with_plain (refine' r_sub_fi ?hA ?hx ?hb ?_); (case hA => with_plain (exact rfl)); (case hx => first | with_reducible rfl | exact hf_half | exact hf_epoch); (case hb => omega)))
local macro_rules | `(tactic| walk_at "binaryOp Sub int float") => `(tactic| (with_plain (refine' r_sub_if ?hA ?hx ?hb ?_); (case hA => with_plain (exact rfl)); (case hx => first | with_reducible rfl | exact hf_half | exact hf_epoch); (case hb => omega)))
local macro_rules | `(tactic| walk_at "binaryOp Add float float") => `(tactic| (with_plain (refine' r_add_ff ?hx ?hy ?hb ?_); (case hx => first | with_reducible rfl | exact hf_half | exact hf_epoch); (case hy => first | with_reducible rfl | exact hf_half | exact hf_epoch); (case hb => omega)))
local macro_rules | `(tactic| walk_at "binaryOp Sub float float") => `(tactic| (with_plain (refine' r_sub_ff ?hx ?hy ?hb ?_); (case hx => first | with_reducible rfl | exact hf_half | exact hf_epoch); (case hy => first | with_reducible rfl | exact hf_half | exact hf_epoch); (case hb => omega)))
local macro_rules | `(tactic| walk_at "binaryOp Mult float int") => `(tactic| (with_plain (refine' r_mul_fi ?hA ?hx ?hb ?_); (case hA => with_plain (exact rfl)); (case hx => with_reducible rfl); (case hb => omega)))
local macro_rules | `(tactic| walk_at "binaryOp Mod float int") => `(tactic| (with_plain (refine' r_mod_fi ?hA ?hx ?hb ?hs1 ?hs2 ?_); (case hA => with_plain (exact rfl)); (case hx => with_reducible rfl); (case hb => omega); (case hs1 => decide +kernel); (case hs2 => decide +kernel)))
local macro_rules | `(tactic| walk_at "binaryOp Div float int") => `(tactic| (with_plain (refine' r_div_fi ?hA ?hb ?_); (case hA => with_plain (exact rfl)); (case hb => omega)))
local macro_rules | `(tactic| walk_at "binaryOp Div int int") => `(tactic| (with_plain (refine' r_div_ii ?hA ?hb ?_); (case hA => with_plain (exact rfl)); (case hb => omega)))
local macro_rules | `(tactic| walk_at "call builtin:math.floor") => `(tactic| (with_plain (refine' r_floor ?hA ?hx ?_); (case hA => with_plain (exact rfl)); (case hx => first | (with_reducible refine' fl_half ?hb; (case hb => omega)) | (with_reducible refine' fl_frac ?hb; (case hb => omega)) | (with_reducible refine' fl_div ?hb; (case hb => omega)) | (with_reducible refine' fl_month' ?hm ?hl ?hd; (case hm => omega); (case hl => omega); (case hd => omega)))))
local macro_rules | `(tactic| walk_at "call builtin:math.trunc") => `(tactic| (with_plain (refine' r_trunc ?hA ?hx ?hb ?_); (case hA => with_plain (exact rfl)); (case hx => with_reducible rfl); (case hb => omega)))
local macro_rules | `(tactic| walk_at "call type:int") => `(tactic| (with_plain (refine' r_int ?hA ?hx ?hb ?_); (case hA => with_plain (exact rfl)); (case hx => with_reducible rfl); (case hb => omega)))
local macro_rules | `(tactic| walk_at "compareOp Lt float int") => `(tactic| (with_plain (refine' r_lt_fi ?hx ?hb ?_); (case hx => with_reducible rfl); (case hb => omega)))
local macro_rules | `(tactic| walk_at "compareOp NotEq float float") => `(tactic| (with_plain (refine' r_ne_ff ?hx ?hy ?hb ?_); (case hx => with_reducible rfl); (case hy => with_reducible rfl); (case hb => omega)))
local macro_rules | `(tactic| walk_at "binaryOp Mod int int") => `(tactic| (with_reducible refine' r_mod_ii ?hb ?_; (case hb => omega)))
local macro_rules | `(tactic| walk_at "binaryOp FloorDiv int int") => `(tactic| (with_reducible refine' r_fdiv_ii ?hb ?_; (case hb => omega)))
local macro_rules | `(tactic| walk_at "compareOp In int ref") => `(tactic| (k_here; k_dflt (refine' r_inK ?F ?X ?l ?i ?_; (case F => k_asm); (case X => k_asm); (case l => k_is); (case i => repeat constructor))))
local macro_rules | `(tactic| walk_at "binaryOp Add int bool") => `(tactic| (with_reducible refine' r_add_leap ?_))
local macro_rules | `(tactic| walk_at "storeName") => `(tactic| (k_here; (with_reducible refine' store_isI ?hi ?he ?_); (case hi => with_reducible assumption); (case he => (intro hP9; first | omega | ((have hl9 := lp_one (by with_reducible assumption)); omega) | ((have hl9 := lp_nil (by with_reducible assumption)); omega))); k_dflt (refine' storeX_L ?F ?N ?_ ?a ?b; (case F => k_asm); (case N => k_asm); (case a => rfl); (case b => rfl); k_whole; intro h' F' N'; (try k_sweep))))
local macro_rules | `(tactic| walk_at "storeName") => `(tactic| (k_here; (with_reducible refine' store_isF ?hi ?he ?_); (case hi => with_reducible assumption); (case he => (intro hP9; first | omega | ((have hl9 := lp_one (by with_reducible assumption)); omega) | ((have hl9 := lp_nil (by with_reducible assumption)); omega))); k_dflt (refine' storeX_L ?F ?N ?_ ?a ?b; (case F => k_asm); (case N => k_asm); (case a => rfl); (case b => rfl); k_whole; intro h' F' N'; (try k_sweep))))
local macro_rules | `(tactic| walk_at "CutV") => `(tactic| k_dflt (first | (refine' cutV_set ?F ?N; (case F => assumption); (case N => assumption)) | (refine' cutV_keep ?hi ?F ?N ?ho ?he; (case hi => assumption); (case F => assumption); (case N => assumption); (case ho => exact rfl); (case he => (intro hP9; omega)))))
local macro_rules | `(tactic| walk_at "exec If") => `(tactic| (k_here; k_dflt (refine' cut_if ?hc ?F ?N ?_ ?_; (case hc => with_reducible assumption); (case F => k_asm); (case N => k_asm)); rotate_left; intro t9 h9 tk9 F9 N9; (try dsimp only); (try k_sweep); rotate_right))
local macro_rules | `(tactic| walk_at "call ref") => `(tactic| (k_here; k_dflt (refine' con_use (first_con _ _ _) ?k1 ?k2 ?k3 ?k4 ?k5 ?kK ?kd ?ku ?_;  (case k1 => k_asm); (case k2 => k_asm); (case k3 => k_asm); (case k4 => k_asm); (case k5 => k_asm); (case kK => first | exact rfl | assumption); (case kd => ktr_room); (case ku => ktr_units); k_whole); intro t9 h9 tk9 F9 N9; (try dsimp only); (try k_fold); (try k_sweep)))
local macro_rules | `(tactic| walk_at "call ref") => `(tactic| (k_here; k_dflt (refine' con_use (year_at _ ?hi ?h ?hn) ?k1 ?k2 ?k3 ?k4 ?k5 ?kK ?kd ?ku ?_; (case hi => with_reducible assumption); (case h => (intro hP9; exact hP9)); (case hn => omega); (case k1 => k_asm); (case k2 => k_asm); (case k3 => k_asm); (case k4 => k_asm); (case k5 => k_asm); (case kK => first | exact rfl | assumption); (case kd => ktr_room); (case ku => ktr_units); k_whole); intro t9 h9 tk9 F9 N9; (try dsimp only); (try k_fold); (try k_sweep)))
theorem tell_con (w : World) (n Y : Int) (t : Tok) (h1 : gj Y 1 1 ≤ n - n % 7 + 3) (h2 : n - n % 7 + 3 < gj (Y + 1) 1 1) (hn : -7000000000 ≤ n ∧ n ≤ 7000000000) : Con w 193 6 [.int n t] (RetT3 Y ((n - n % 7 + 3 - gj Y 1 1) / 7 + 1) (n % 7 + 1)) := by
  dsimp only [Con, RetT3]
  k_fill
  have i1 := Is.by (Str.ofString "Y") Y (And.intro h1 h2)
  intros
  rename_i hret
  refine wpAny_call ?_
  k_dflt cell_enter
  k_steps
  all_goals (refine endT3 hret (by k_asm) (by k_asm) (by k_mem) (by (repeat' (first | with_reducible exact mem_all0 | with_reducible refine mem_all1 ?_))) (by first | assumption | exact allLt_of (by assumption) | exact And.right (by assumption) | exact And.right (And.right (by assumption)) | kcu_lt) ⟨rfl, rfl, rfl⟩)
end Mine
end

/-! part Any -/
section
open PySem PySem.W PyProof.Rows PySem.Calls
namespace Mine
theorem tell_any (w : World) (n : Int) (t : Tok) (hn : 1721426 ≤ n ∧ n ≤ 5373484) : Con w 193 6 [.int n t] (fun h₀ L m news s Q E => ∀ Y k wd : Int, TellIs n Y k wd → (gj Y 1 1 + (3 - gj Y 1 1) % 7 - 3 + 7 * (k - 1) + wd - 1 = n ∧ 1 ≤ k ∧ k ≤ 53 ∧ 1 ≤ wd ∧ wd ≤ 7) → (0 ≤ Y ∧ Y ≤ 10001) → RetT3 Y k wd h₀ L m news s Q E) := by
  intro p loose mean mg mb news dp un gd cn cs a ccd cl outer A₀ base h₀ L m s Q E B F X N T hk hd hu hret
  obtain ⟨Y, h1, h2⟩ := year_ex (thu n)
  have hT : TellIs n Y ((thu n - gj Y 1 1) / 7 + 1) (n % 7 + 1) := ⟨h1, h2, rfl, rfl⟩
  have hY : 0 ≤ Y ∧ Y ≤ 10001 := by
    have e1 := gj_first Y
    have e2 := gj_first (Y + 1)
    unfold thu at h1 h2
    omega
  exact tell_con w n Y t h1 h2 (by omega) p loose mean mg mb news dp un gd cn cs a ccd cl outer A₀ base h₀ L m s Q E B F X N T hk hd hu (hret Y _ _ hT (tell_back hT) hY)
theorem far_year {y n : Int} (h1 : gj y 1 1 ≤ n) (h2 : n < gj (y + 1) 1 1) (hn : -3650722202 ≤ n ∧ n < 3654164323) : -10000100 ≤ y ∧ y ≤ 10000100 := by
  have e1 := gj_first y
  have e2 := gj_first (y + 1)
  omega
theorem date_any (w : World) (n : Int) (t : Tok) (hn : -3650722202 ≤ n ∧ n < 3654164323) : Con w 186 6 [.int n t] (fun h₀ L m news s Q E => ∀ y mo d : Int, okDate y mo d → gj y mo d = n → RetT3 y mo d h₀ L m news s Q E) := by
  intro p loose mean mg mb news dp un gd cn cs a ccd cl outer A₀ base h₀ L m s Q E B F X N T hk hd hu hret
  obtain ⟨y, mo, d, h1, h2, h3, h4⟩ := date_ex n
  exact date_con w n y mo d t h1 h2.symm (far_year h3 h4 hn) p loose mean mg mb news dp un gd cn cs a ccd cl outer A₀ base h₀ L m s Q E B F X N T hk hd hu (hret y mo d h1 h2)
theorem to_jd_iso_any (w : World) (y k d : Int) (t1 t2 t3 : Tok) (h : -10000100 ≤ y ∧ y ≤ 10000100 ∧ 1 ≤ k ∧ k ≤ 100 ∧ 1 ≤ d ∧ d ≤ 7) : Con w 130 6 [.int y t1, .int k t2, .int d t3] (RetF (hf (2 * (gj y 1 1 + (3 - gj y 1 1) % 7 - 3 + 7 * (k - 1) + d - 1) - 1))) := by
  have e := iso_eq y k d
  unfold thu1 at e
  rw [← e]
  exact to_jd_iso_con w y k d t1 t2 t3 h
theorem weeks_any (w : World) (y : Int) (t1 : Tok) (h : -10000100 ≤ y ∧ y ≤ 10000100) : Con w 144 4 [.int y t1] (fun h₀ L m news s Q E => wpy y = (gj (y + 1) 1 1 - 1 - (gj y 1 1 + (3 - gj y 1 1) % 7)) / 7 + 1 → (52 ≤ wpy y ∧ wpy y ≤ 53) → RetI (wpy y) h₀ L m news s Q E) := by
  intro p loose mean mg mb news dp un gd cn cs a ccd cl outer A₀ base h₀ L m s Q E B F X N T hk hd hu hret
  have e := wpy_eq y
  exact weeks_con w y t1 h p loose mean mg mb news dp un gd cn cs a ccd cl outer A₀ base h₀ L m s Q E B F X N T hk hd hu (hret e.1 e.2)
theorem first_any (w : World) (y : Int) (t1 : Tok) (h : -10000001 ≤ y ∧ y ≤ 10000001) : Con w 165 2 [.int y t1] (fun h₀ L m news s Q E => (-3650710000 ≤ gj y 1 1 ∧ gj y 1 1 ≤ 3654150000) → RetI (gj y 1 1) h₀ L m news s Q E) := by
  intro p loose mean mg mb news dp un gd cn cs a ccd cl outer A₀ base h₀ L m s Q E B F X N T hk hd hu hret
  exact first_con w y t1 p loose mean mg mb news dp un gd cn cs a ccd cl outer A₀ base h₀ L m s Q E B F X N T hk hd hu (hret (by rw [gj_first]; omega))
theorem in_range {y mo d : Int} (h : okDate y mo d) (hy : 1 ≤ y ∧ y ≤ 9999) : inRange y mo d := ⟨hy, ⟨h.1, h.2.1⟩, h.2.2.1, by rw [dim_model ⟨h.1, h.2.1⟩]; exact h.2.2.2⟩
theorem of_range {y mo d : Int} (h : inRange y mo d) : okDate y mo d ∧ 1 ≤ y ∧ y ≤ 9999 := ⟨⟨h.2.1.1, h.2.1.2, h.2.2.1, by rw [← dim_model h.2.1]; exact h.2.2.2⟩, h.1⟩
theorem asked0_any (w : World) (n : Int) (t0 t1 t2 t3 : Tok) (hn : -3650722202 ≤ n ∧ n < 3654164323) : Con0 w 200 10 [.int 0 t0, .float (hf (2 * n - 1)) t1, .int 0 t2, .int 0 t3]
    (fun h₀ L m news s Q E => ((1721426 ≤ n ∧ n ≤ 5373484) → ∀ Y k wd : Int, TellIs n Y k wd → RetIso Y k wd h₀ L m news s Q E) ∧ (¬ (1721426 ≤ n ∧ n ≤ 5373484) → RetS (Str.ofString "refused") h₀ L m news s Q E)) := by
  intro p loose mean mg mb news dp un gd cn cs a ccd A₀ base h₀ L m s Q E B F X N T hk XB TB hd hu hret
  obtain ⟨y, mo, d, h1, h2, h3, h4⟩ := date_ex n
  have hf := far_year h3 h4 hn
  have hr := range_iff h3 h4
  by_cases c : 1721426 ≤ n ∧ n ≤ 5373484
  · exact asked0_ok w (2 * n - 1) y mo d t0 t1 t2 t3 h1 (by rw [h2]) hf (in_range h1 (hr.mpr c)) p loose mean mg mb news dp un gd cn cs a ccd A₀ base h₀ L m s Q E B F X N T hk XB TB hd hu (hret.1 c _ _ _ (by rw [← h2]; exact iso_model h1))
  · exact asked0_no w (2 * n - 1) y mo d t0 t1 t2 t3 h1 (by rw [h2]) hf (fun g => c (hr.mp (of_range g).2)) p loose mean mg mb news dp un gd cn cs a ccd A₀ base h₀ L m s Q E B F X N T hk XB TB hd hu (hret.2 c)
theorem asked1_any (w : World) (y mo d : Int) (t0 t1 t2 t3 : Tok) (hb : (-100000 ≤ y ∧ y ≤ 100000) ∧ (-1000 ≤ mo ∧ mo ≤ 1000) ∧ -1000 ≤ d ∧ d ≤ 1000) : Con0 w 200 10 [.int 1 t0, .int y t1, .int mo t2, .int d t3]
    (fun h₀ L m news s Q E => (((1 ≤ y ∧ y ≤ 9999) ∧ (1 ≤ mo ∧ mo ≤ 12) ∧ 1 ≤ d ∧ d ≤ dim y mo) → ∀ Y k wd : Int, TellIs (gj y mo d) Y k wd → RetIso Y k wd h₀ L m news s Q E) ∧ (¬ ((1 ≤ y ∧ y ≤ 9999) ∧ (1 ≤ mo ∧ mo ≤ 12) ∧ 1 ≤ d ∧ d ≤ dim y mo) → RetS (Str.ofString "refused") h₀ L m news s Q E)) := by
  intro p loose mean mg mb news dp un gd cn cs a ccd A₀ base h₀ L m s Q E B F X N T hk XB TB hd hu hret
  by_cases c : (1 ≤ y ∧ y ≤ 9999) ∧ (1 ≤ mo ∧ mo ≤ 12) ∧ 1 ≤ d ∧ d ≤ dim y mo
  · have h1 : okDate y mo d := ⟨c.2.1.1, c.2.1.2, c.2.2.1, c.2.2.2⟩
    exact asked1_ok w y mo d t0 t1 t2 t3 (in_range h1 c.1) (by omega) p loose mean mg mb news dp un gd cn cs a ccd A₀ base h₀ L m s Q E B F X N T hk XB TB hd hu (hret.1 c _ _ _ (iso_model h1))
  · exact asked1_no w y mo d t0 t1 t2 t3 (fun g => c ⟨g.1, g.2.1, (of_range g).1.2.2⟩) hb p loose mean mg mb news dp un gd cn cs a ccd A₀ base h₀ L m s Q E B F X N T hk XB TB hd hu (hret.2 c)
theorem date_inj {y m d y' m' d' : Int} (h : okDate y m d) (h' : okDate y' m' d') (e : gj y m d = gj y' m' d') : y = y' ∧ m = m' ∧ d = d' := by
  have a1 := yday_back h
  have a2 := yday_back h'
  have g1 := gj_yday y m d
  have g2 := gj_yday y' m' d'
  have n1 := gj_next y
  have n2 := gj_next y'
  have ey : y = y' := year_uniq (t := gj y m d) (by omega) (by omega) (by omega) (by omega)
  subst ey
  have := date_uniq h' ⟨h.1, h.2.1⟩ h.2.2 (by omega)
  exact ⟨rfl, this.1, this.2⟩
end Mine
end

/-! part C17 -/
section
open PySem PySem.W PyProof.Rows PySem.Calls
namespace Mine
local macro_rules | `(tactic| walk_at "no such key") => `(tactic| fail)
local macro_rules | `(tactic| walk_at "binaryOp Add float int") => `(tactic| first | (with_plain (refine' r_add_fi ?hA ?hx ?hb ?_); (case hA => with_plain (exact rfl)); (case hx => first | with_reducible rfl | exact hf_half | exact hf_epoch); (case hb => omega)) | (with_plain (refine' r_add_fi_any ?hA ?hb ?_); (case hA => with_plain (exact rfl)); (case hb => omega)))
local macro_rules | `(tactic| walk_at "binaryOp Add int float") => `(tactic| (with_plain (refine' r_add_if ?hA ?hx ?hb ?_); (case hA => with_plain (exact rfl)); (case hx => first | with_reducible rfl | exact hf_half | exact hf_epoch); (case hb => omega)))
local macro_rules | `(tactic| walk_at "inplaceOp Add int float") => `(tactic| (with_plain (refine' r_iadd_if ?hA ?hx ?hb ?_); (case hA => with_plain (exact rfl)); (case hx => first | with_reducible rfl | exact hf_half | exact hf_epoch); (case hb => omega)))
local macro_rules | `(tactic| walk_at "binaryOp Sub float int") => `(tactic| (with_plain (refine' r_sub_fi ?hA ?hx ?hb ?_); (case hA => with_plain (exact rfl)); (case hx => first | with_reducible rfl | exact hf_half | exact hf_epoch); (case hb => omega)))
local macro_rules | `(tactic| walk_at "binaryOp Sub int float") => `(tactic| (with_plain (refine' r_sub_if ?hA ?hx ?hb ?_); (case hA => with_plain (exact rfl)); (case hx => first | with_reducible rfl | exact hf_half | exact hf_epoch); (case hb => omega)))
local macro_rules | `(tactic| walk_at "binaryOp Add float float") => `(tactic| (with_plain (refine' r_add_ff ?hx ?hy ?hb ?_); (case hx => first | with_reducible rfl | exact hf_half | exact hf_epoch); (case hy => first | with_reducible rfl | exact hf_half | exact hf_epoch); (case hb => omega)))
local macro_rules | `(tactic| walk_at "binaryOp Sub float float") => `(tactic| (with_plain (refine' r_sub_ff ?hx ?hy ?hb ?_); (case hx => first | with_reducible rfl | exact hf_half | exact hf_epoch); (case hy => first | with_reducible rfl | exact hf_half | exact hf_epoch); (case hb => omega)))
local macro_rules | `(tactic| walk_at "binaryOp Mult float int") => `(tactic| (with_plain (refine' r_mul_fi ?hA ?hx ?hb ?_); (case hA => with_plain (exact rfl)); (case hx => with_reducible rfl); (case hb => omega)))
local macro_rules | `(tactic| walk_at "binaryOp Mod float int") => `(tactic| (with_plain (refine' r_mod_fi ?hA ?hx ?hb ?hs1 ?hs2 ?_); (case hA => with_plain (exact rfl)); (case hx => with_reducible rfl); (case hb => omega); (case hs1 => decide +kernel); (case hs2 => decide +kernel)))
local macro_rules | `(tactic| walk_at "binaryOp Div float int") => `(tactic| (with_plain (refine' r_div_fi ?hA ?hb ?_); (case hA => with_plain (exact rfl)); (case hb => omega)))
local macro_rules | `(tactic| walk_at "binaryOp Div int int") => `(tactic| (with_plain (refine' r_div_ii ?hA ?hb ?_); (case hA => with_plain (exact rfl)); (case hb => omega)))
local macro_rules | `(tactic| walk_at "call builtin:math.floor") => `(tactic| (with_plain (refine' r_floor ?hA ?hx ?_); (case hA => with_plain (exact rfl)); (case hx => first | (with_reducible refine' fl_half ?hb; (case hb => omega)) | (with_reducible refine' fl_frac ?hb; (case hb => omega)) | (with_reducible refine' fl_div ?hb; (case hb => omega)) | (with_reducible refine' fl_month' ?hm ?hl ?hd; (case hm => omega); (case hl => omega); (case hd => omega)))))
local macro_rules | `(tactic| walk_at "call builtin:math.trunc") => `(tactic| (with_plain (refine' r_trunc ?hA ?hx ?hb ?_); (case hA => with_plain (exact rfl)); (case hx => with_reducible rfl); (case hb => omega)))
local macro_rules | `(tactic| walk_at "call type:int") => `(tactic| (with_plain (refine' r_int ?hA ?hx ?hb ?_); (case hA => with_plain (exact rfl)); (case hx => with_reducible rfl); (case hb => omega)))
local macro_rules | `(tactic| walk_at "compareOp Lt float int") => `(tactic| (with_plain (refine' r_lt_fi ?hx ?hb ?_); (case hx => with_reducible rfl); (case hb => omega)))
local macro_rules | `(tactic| walk_at "compareOp NotEq float float") => `(tactic| (with_plain (refine' r_ne_ff ?hx ?hy ?hb ?_); (case hx => with_reducible rfl); (case hy => with_reducible rfl); (case hb => omega)))
local macro_rules | `(tactic| walk_at "binaryOp Mod int int") => `(tactic| (with_reducible refine' r_mod_ii ?hb ?_; (case hb => omega)))
local macro_rules | `(tactic| walk_at "binaryOp FloorDiv int int") => `(tactic| (with_reducible refine' r_fdiv_ii ?hb ?_; (case hb => omega)))
local macro_rules | `(tactic| walk_at "compareOp In int ref") => `(tactic| (k_here; k_dflt (refine' r_inK ?F ?X ?l ?i ?_; (case F => k_asm); (case X => k_asm); (case l => k_is); (case i => repeat constructor))))
local macro_rules | `(tactic| walk_at "binaryOp Add int bool") => `(tactic| (with_reducible refine' r_add_leap ?_))
local macro_rules | `(tactic| walk_at "storeName") => `(tactic| (k_here; (with_reducible refine' store_isI ?hi ?he ?_); (case hi => with_reducible assumption); (case he => (intro hP9; first | omega | ((have hl9 := lp_one (by with_reducible assumption)); omega) | ((have hl9 := lp_nil (by with_reducible assumption)); omega))); k_dflt (refine' storeX_L ?F ?N ?_ ?a ?b; (case F => k_asm); (case N => k_asm); (case a => rfl); (case b => rfl); k_whole; intro h' F' N'; (try k_sweep))))
local macro_rules | `(tactic| walk_at "storeName") => `(tactic| (k_here; (with_reducible refine' store_isF ?hi ?he ?_); (case hi => with_reducible assumption); (case he => (intro hP9; first | omega | ((have hl9 := lp_one (by with_reducible assumption)); omega) | ((have hl9 := lp_nil (by with_reducible assumption)); omega))); k_dflt (refine' storeX_L ?F ?N ?_ ?a ?b; (case F => k_asm); (case N => k_asm); (case a => rfl); (case b => rfl); k_whole; intro h' F' N'; (try k_sweep))))
local macro_rules | `(tactic| walk_at "CutV") => `(tactic| k_dflt (first | (refine' cutV_set ?F ?N; (case F => assumption); (case N => assumption)) | (refine' cutV_keep ?hi ?F ?N ?ho ?he; (case hi => assumption); (case F => assumption); (case N => assumption); (case ho => exact rfl); (case he => (intro hP9; omega)))))
local macro_rules | `(tactic| walk_at "exec If") => `(tactic| (k_here; k_dflt (refine' cut_if ?hc ?F ?N ?_ ?_; (case hc => with_reducible assumption); (case F => k_asm); (case N => k_asm)); rotate_left; intro t9 h9 tk9 F9 N9; (try dsimp only); (try k_sweep); rotate_right))
local macro_rules | `(tactic| walk_at "call ref") => `(tactic| (k_here; k_dflt (refine' con_use (to_jd_iso_any _ _ _ _ _ _ _ ?hp) ?k1 ?k2 ?k3 ?k4 ?k5 ?kK ?kd ?ku ?_; (case hp => omega); (case k1 => k_asm); (case k2 => k_asm); (case k3 => k_asm); (case k4 => k_asm); (case k5 => k_asm); (case kK => first | exact rfl | assumption); (case kd => ktr_room); (case ku => ktr_units); k_whole); intro t9 h9 tk9 F9 N9; (try dsimp only); (try k_fold); (try k_sweep)))
local macro_rules | `(tactic| walk_at "call ref") => `(tactic| (k_here; k_dflt (refine' con_use (from_jd_con _ _ _ _ _ _ ?ho ?ha ?hy) ?k1 ?k2 ?k3 ?k4 ?k5 ?kK ?kd ?ku ?_; (case ho => with_reducible assumption); (case ha => omega); (case hy => omega); (case k1 => k_asm); (case k2 => k_asm); (case k3 => k_asm); (case k4 => k_asm); (case k5 => k_asm); (case kK => first | exact rfl | assumption); (case kd => ktr_room); (case ku => ktr_units); k_whole); intro D9 u1 u2 u3 c9 h9 tk9 F9 N9 l9; (try dsimp only); (try k_fold); (try k_sweep)))
theorem to_greg_con (w : World) (Y k wd y m d : Int) (t1 t2 t3 : Tok) (h : okDate y m d) (he : gj Y 1 1 + (3 - gj Y 1 1) % 7 - 3 + 7 * (k - 1) + wd - 1 = gj y m d) (hb : -10000100 ≤ Y ∧ Y ≤ 10000100 ∧ 1 ≤ k ∧ k ≤ 100 ∧ 1 ≤ wd ∧ wd ≤ 7) (hy : -10000100 ≤ y ∧ y ≤ 10000100) : Con w 158 8 [.int Y t1, .int k t2, .int wd t3] (RetT3 y m d) := by
  dsimp only [Con, RetT3]
  k_fill
  intros
  rename_i hret
  refine wpAny_call ?_
  k_dflt cell_enter
  k_steps
  all_goals (refine endT3 hret (by k_asm) (by k_asm) (by k_mem) (by (repeat' (first | with_reducible exact mem_all0 | with_reducible refine mem_all1 ?_))) (by first | assumption | exact allLt_of (by assumption) | exact And.right (by assumption) | exact And.right (And.right (by assumption)) | kcu_lt) ⟨rfl, rfl, rfl⟩)
theorem to_greg_any (w : World) (Y k wd : Int) (t1 t2 t3 : Tok) (hb : -10000100 ≤ Y ∧ Y ≤ 10000100 ∧ 1 ≤ k ∧ k ≤ 100 ∧ 1 ≤ wd ∧ wd ≤ 7) (hn : -3650722202 ≤ gj Y 1 1 + (3 - gj Y 1 1) % 7 - 3 + 7 * (k - 1) + wd - 1 ∧ gj Y 1 1 + (3 - gj Y 1 1) % 7 - 3 + 7 * (k - 1) + wd - 1 < 3654164323) : Con w 158 8 [.int Y t1, .int k t2, .int wd t3]
    (fun h₀ L m news s Q E => ∀ y mo d : Int, okDate y mo d → gj y mo d = gj Y 1 1 + (3 - gj Y 1 1) % 7 - 3 + 7 * (k - 1) + wd - 1 → RetT3 y mo d h₀ L m news s Q E) := by
  intro p loose mean mg mb news dp un gd cn cs a ccd cl outer A₀ base h₀ L m s Q E B F X N T hk hd hu hret
  obtain ⟨y, mo, d, h1, h2, h3, h4⟩ := date_ex (gj Y 1 1 + (3 - gj Y 1 1) % 7 - 3 + 7 * (k - 1) + wd - 1)
  exact to_greg_con w Y k wd y mo d t1 t2 t3 h1 h2.symm hb (far_year h3 h4 hn) p loose mean mg mb news dp un gd cn cs a ccd cl outer A₀ base h₀ L m s Q E B F X N T hk hd hu (hret y mo d h1 h2)
end Mine
end

/-! part C18 -/
section
open PySem PySem.W PyProof.Rows PySem.Calls
namespace Mine
theorem r_mod_var {prog : Program} {w : World} {A : Around} {E : Value → Shared → Prop} {s : Shared} {Q : Value → Shared → Prop} {t u : Tok} {a b : Int} (hb : 0 < b) (h : ∀ r : Int, 0 ≤ r ∧ r < b → Q (.int r s.toks) { s with toks := s.toks + 1 }) : wpAny (model prog w) A (binaryOp .Mod (.int a t) (.int b u)) Q E s :=
  mod_int' (by omega) (by rw [Int.fmod_eq_emod_of_nonneg _ (by omega)]; exact h _ ⟨Int.emod_nonneg _ (by omega), Int.emod_lt_of_pos _ hb⟩)
theorem tT_ne (a b c : Int) (t1 t2 t3 u1 u2 u3 : Tok) (n n2 : Nat) (D D2 : Addr) :
    Meets (PySem.Builtin.«tuple.__ne__» ⟨[.ref D, .ref D2], []⟩) (fun _ R s => s.heap.get? D = some (tup3 a b c t1 t2 t3 n) ∧ s.heap.get? D2 = some (tup3 a b c u1 u2 u3 n2) ∧ R (.ok (.ret (.bool false))) s) := by
  refine Meets.of_wp fun prog w A R s hs => ?_
  obtain ⟨hp, g, dd, tk, os⟩ := s
  have hg : hp.get? D = some (tup3 a b c t1 t2 t3 n) := hs.1
  have hg2 : hp.get? D2 = some (tup3 a b c u1 u2 u3 n2) := hs.2.1
  have hT2 : (⟨hp, g, dd, tk, os⟩ : Shared).TypeIs (.ref D2) "tuple" := ⟨_, hg2, rfl⟩
  have f1 := AutoSeq1.sub_tuple_tuple
  repeat (any_goals (first | assumption | (with_reducible refine wpAny_eqBool_int ?_) | wp_step))
  exact ⟨_, rfl, hs.2.2⟩
theorem neT_K {prog : Program} {w : World} {A : Around} {E : Value → Shared → Prop} {s : Shared} {h₀ : Heap} {L D D2 : Addr} {news : List (Addr × Obj)} {Q : Value → Shared → Prop} {a b c a' b' c' : Int} {t1 t2 t3 u1 u2 u3 : Tok} {n n2 : Nat}
    (N : News h₀ L s.heap news) (hD : (D, tup3 a b c t1 t2 t3 n) ∈ news) (hD2 : (D2, tup3 a' b' c' u1 u2 u3 n2) ∈ news) (he : a = a' ∧ b = b' ∧ c = c') (hu : A.units < cLine) (h : Q (.bool false) s) :
    wpAny (model prog w) A (compareOp .NotEq (.ref D) (.ref D2)) Q E s := by
  obtain ⟨rfl, rfl, rfl⟩ := he
  exact wpAny_richCompare_same_room (op := .NotEq) ⟨_, (N _ hD).1, rfl⟩ ⟨_, (N _ hD2).1, rfl⟩ F.slot_tuple_ne (call_meets F.slot_tuple_ne ⟨_, (N _ hD).1, rfl⟩ F.entry_tuple_ne (F.args_tuple_ne_2 _ _) (tT_ne a b c t1 t2 t3 u1 u2 u3 n n2 D D2) ⟨(N _ hD).1, (N _ hD2).1, (fun e => nomatch e), h⟩) hu
theorem ints_at {ws : List Value} {ns : List Int} (h : IntsAre ws ns) : ∀ {k : Nat}, k < ns.length → ∃ v t, ws[k]? = some (.int v t) ∧ v ∈ ns := by
  induction h with
  | nil => intro k hk; exact absurd hk (Nat.not_lt_zero _)
  | cons n t _ ih =>
    intro k hk
    cases k with
    | zero => exact ⟨n, t, rfl, List.mem_cons_self ..⟩
    | succ k =>
      obtain ⟨v, u, h1, h2⟩ := ih (k := k) (by simpa using hk)
      exact ⟨v, u, by simpa using h1, List.mem_cons_of_mem _ h2⟩
theorem nums_bound (l : List Int) : ∀ x ∈ List.map (fun k' : Int => if -10000000 < k' ∧ k' < 10000000 then k' else if -10000000 < k' ∧ ¬k' < 10000000 then k' % 10000000 else k' % 10000000) l ++ [0, 0, 0, 0, 0, 0, 0], -10000000 < x ∧ x < 10000000 := by
  intro x hx
  rcases List.mem_append.mp hx with h | h
  · obtain ⟨k, _, rfl⟩ := List.mem_map.mp h
    split
    · assumption
    · split <;> omega
  · have : x = 0 := by simpa using h
    subst this
    decide
theorem r_num {prog : Program} {w : World} {A : Around} {E : Value → Shared → Prop} {s : Shared} {h₀ : Heap} {L D : Addr} {news : List (Addr × Obj)} {Q : Value → Shared → Prop} {value slice : PySem.Expr} {ws : List Value} {l : List Int} {c : Nat} {k : Int} {u : Tok}
    (N : News h₀ L s.heap news) (hD : (D, listOf ws.toArray c) ∈ news)
    (hI : IntsAre ws (List.map (fun k' : Int => if -10000000 < k' ∧ k' < 10000000 then k' else if -10000000 < k' ∧ ¬k' < 10000000 then k' % 10000000 else k' % 10000000) l ++ [0, 0, 0, 0, 0, 0, 0])) (hk : 0 ≤ k ∧ k < 7)
    (h : ∀ (v : Int) (t : Tok), -10000000 < v ∧ v < 10000000 → Q (.int v t) s)
    (hs : subscripted slice false (.ref D) (.int k u) = operate [.ref D, .int k u] (getItem (.ref D) (.int k u)) := by with_unfolding_all rfl) :
    wpAny (model prog w) A (subscriptTail value slice (.ref D) (.int k u)) Q E s := by
  have hl : s.heap.IsList D ws.toArray := ⟨_, (N _ hD).1, rfl, c, rfl⟩
  obtain ⟨v, t, h1, h2⟩ := ints_at hI (k := k.toNat) (by rw [List.length_append, List.length_cons]; simp only [List.length_cons, List.length_nil]; omega)
  exact tail_any hl.typeIs slot_list_getitem.lookup (wpAny_getItem_list hl hk.1 (by omega) (by simpa using h1) (h v t (nums_bound l v h2))) hs
/-- the if at this place leaves all as it stood -/
inductive CutN (pos : Pos) : Prop where
  | mk : CutN pos
structure CutE (h₀ : Heap) (L : Addr) (m : Str → Option Value) (news : List (Addr × Obj)) (s : Shared) (f : Flow) (s' : Shared) : Prop where
  next : f = .next
  here : ∃ (h : Heap) (tk : Nat), s' = { s with heap := h, toks := tk } ∧ Fr h₀ L h m ∧ News h₀ L h news
section
variable {M : Model} {A : Around} {E : Value → Shared → Prop} {s : Shared} {env : Env} {h₀ : Heap} {L : Addr} {m : Str → Option Value} {news : List (Addr × Obj)}
theorem cut_n {test : PySem.Expr} {b o : List Stmt} {pos : Pos} {Q : Flow → Shared → Prop} (_hc : CutN pos) (_F : Fr h₀ L s.heap m) (_N : News h₀ L s.heap news)
    (h1 : wpAny M A (isTrue test env (eval test env)) (fun k s₂ => if k then wpAny M A (execs b env) (fun f s₃ => CutE h₀ L m news s f s₃) E s₂ else wpAny M A (execs o env) (fun f s₃ => CutE h₀ L m news s f s₃) E s₂) E s)
    (hk : ∀ (h : Heap) (tk : Nat), Fr h₀ L h m → News h₀ L h news → Q .next { s with heap := h, toks := tk }) :
    wpAny M A (exec (.If test b o pos) env) Q E s := by
  refine wpAny_mono (wpAny_If h1) (fun f s₂ hf => ?_) fun _ _ h => h
  obtain ⟨rfl, h, tk, rfl, F, N⟩ := hf
  exact hk h tk F N
theorem cutE_end {h : Heap} {tk : Nat} {news' : List (Addr × Obj)} (F : Fr h₀ L h m) (N : News h₀ L h news') (hs : ∀ p ∈ news, p ∈ news') : CutE h₀ L m news s .next { s with heap := h, toks := tk } := ⟨rfl, h, tk, rfl, F, cb_drop N hs⟩
end
theorem len_cases {y m : Int} (hm : 1 ≤ m ∧ m ≤ 12) (t1 t2 t3 t4 t5 t6 t7 t8 t9 t10 t11 t12 : Tok) : ∃ t : Tok, [Value.int 31 t1, .int (28 + lp y) t2, .int 31 t3, .int 30 t4, .int 31 t5, .int 30 t6, .int 31 t7, .int 31 t8, .int 30 t9, .int 31 t10, .int 30 t11, .int 31 t12][(m - 1).toNat]? = some (.int (dim y m) t) := by
  rcases m_cases hm.1 hm.2 with rfl | rfl | rfl | rfl | rfl | rfl | rfl | rfl | rfl | rfl | rfl | rfl
  · exact ⟨t1, by rw [dim_1]; rfl⟩
  · exact ⟨t2, by rw [dim_2]; rfl⟩
  · exact ⟨t3, by rw [dim_3]; rfl⟩
  · exact ⟨t4, by rw [dim_4]; rfl⟩
  · exact ⟨t5, by rw [dim_5]; rfl⟩
  · exact ⟨t6, by rw [dim_6]; rfl⟩
  · exact ⟨t7, by rw [dim_7]; rfl⟩
  · exact ⟨t8, by rw [dim_8]; rfl⟩
  · exact ⟨t9, by rw [dim_9]; rfl⟩
  · exact ⟨t10, by rw [dim_10]; rfl⟩
  · exact ⟨t11, by rw [dim_11]; rfl⟩
  · exact ⟨t12, by rw [dim_12]; rfl⟩
theorem r_len {prog : Program} {w : World} {A : Around} {E : Value → Shared → Prop} {s : Shared} {h₀ : Heap} {L D : Addr} {news : List (Addr × Obj)} {Q : Value → Shared → Prop} {value slice : PySem.Expr} {y m : Int} {t1 t2 t3 t4 t5 t6 t7 t8 t9 t10 t11 t12 : Tok} {c : Nat} {u : Tok}
    (N : News h₀ L s.heap news) (hD : (D, lenObj y t1 t2 t3 t4 t5 t6 t7 t8 t9 t10 t11 t12 c) ∈ news) (hm : 1 ≤ m ∧ m ≤ 12)
    (h : ∀ t : Tok, Q (.int (dim y m) t) s)
    (hs : subscripted slice false (.ref D) (.int (m - 1) u) = operate [.ref D, .int (m - 1) u] (getItem (.ref D) (.int (m - 1) u)) := by with_unfolding_all rfl) :
    wpAny (model prog w) A (subscriptTail value slice (.ref D) (.int (m - 1) u)) Q E s := by
  have hl : s.heap.IsList D #[.int 31 t1, .int (28 + lp y) t2, .int 31 t3, .int 30 t4, .int 31 t5, .int 30 t6, .int 31 t7, .int 31 t8, .int 30 t9, .int 31 t10, .int 30 t11, .int 31 t12] := ⟨_, (N _ hD).1, rfl, c, rfl⟩
  obtain ⟨t, ht⟩ := len_cases (y := y) hm t1 t2 t3 t4 t5 t6 t7 t8 t9 t10 t11 t12
  exact tail_any hl.typeIs slot_list_getitem.lookup (wpAny_getItem_list hl (by omega) (by omega) (by simpa using ht) (h t)) hs
theorem lens_sum {y m : Int} (hm : 1 ≤ m ∧ m ≤ 12) : (List.take (m - 1).toNat [31, 28 + lp y, 31, 30, 31, 30, 31, 31, 30, 31, 30, 31]).sum = yday y m 1 := by
  rcases m_cases hm.1 hm.2 with rfl | rfl | rfl | rfl | rfl | rfl | rfl | rfl | rfl | rfl | rfl | rfl
  · rw [yd_1]; rfl
  · rw [yd_2]; rfl
  · rw [yd_3]; show (31 : Int) + ((28 + lp y) + 0) = _; omega
  · rw [yd_4]; show (31 : Int) + ((28 + lp y) + (31 + 0)) = _; omega
  · rw [yd_5]; show (31 : Int) + ((28 + lp y) + (31 + (30 + 0))) = _; omega
  · rw [yd_6]; show (31 : Int) + ((28 + lp y) + (31 + (30 + (31 + 0)))) = _; omega
  · rw [yd_7]; show (31 : Int) + ((28 + lp y) + (31 + (30 + (31 + (30 + 0))))) = _; omega
  · rw [yd_8]; show (31 : Int) + ((28 + lp y) + (31 + (30 + (31 + (30 + (31 + 0)))))) = _; omega
  · rw [yd_9]; show (31 : Int) + ((28 + lp y) + (31 + (30 + (31 + (30 + (31 + (31 + 0))))))) = _; omega
  · rw [yd_10]; show (31 : Int) + ((28 + lp y) + (31 + (30 + (31 + (30 + (31 + (31 + (30 + 0)))))))) = _; omega
  · rw [yd_11]; show (31 : Int) + ((28 + lp y) + (31 + (30 + (31 + (30 + (31 + (31 + (30 + (31 + 0))))))))) = _; omega
  · rw [yd_12]; show (31 : Int) + ((28 + lp y) + (31 + (30 + (31 + (30 + (31 + (31 + (30 + (31 + (30 + 0)))))))))) = _; omega
theorem tell_sum (w : World) (y m d : Int) (t : Tok) (hb : (1 ≤ y ∧ y ≤ 9999) ∧ (1 ≤ m ∧ m ≤ 12) ∧ 1 ≤ d ∧ d ≤ dim y m) : Con w 193 6 [.int (gj y 1 1 + (List.take (m - 1).toNat [31, 28 + lp y, 31, 30, 31, 30, 31, 31, 30, 31, 30, 31]).sum + d - 1) t] (fun h₀ L m' news s Q E => ∀ Y k wd : Int, TellIs (gj y m d) Y k wd → RetT3 Y k wd h₀ L m' news s Q E) := by
  have hd : okDate y m d := ⟨hb.2.1.1, hb.2.1.2, hb.2.2.1, hb.2.2.2⟩
  have e : gj y 1 1 + (List.take (m - 1).toNat [31, 28 + lp y, 31, 30, 31, 30, 31, 31, 30, 31, 30, 31]).sum + d - 1 = gj y m d := by
    rw [lens_sum hb.2.1, gj_yday y m d]
    unfold yday
    omega
  rw [e]
  have hn : 1721426 ≤ gj y m d ∧ gj y m d ≤ 5373484 := by
    have a1 := yday_back hd
    have g1 := gj_yday y m d
    have n1 := gj_next y
    exact (range_iff (y := y) (by omega) (by omega)).mp hb.1
  intro p loose mean mg mb news dp un gd cn cs a ccd cl outer A₀ base h₀ L m' s Q E B F X N T hk hd' hu hret
  exact tell_any w (gj y m d) t hn p loose mean mg mb news dp un gd cn cs a ccd cl outer A₀ base h₀ L m' s Q E B F X N T hk hd' hu (fun Y k wd h1 _ _ => hret Y k wd h1)
theorem r_ne_eq {prog : Program} {w : World} {A : Around} {E : Value → Shared → Prop} {s : Shared} {Q : Value → Shared → Prop} {t u : Tok} {a b : Int} (e : a = b) (h : Q (.bool false) s) : wpAny (model prog w) A (compareOp .NotEq (.int a t) (.int b u)) Q E s := by
  subst e
  exact ne_int (by rw [bne_self_eq_false]; exact h)
theorem tell_uniq2 {n n' a b c a' b' c' : Int} (h : TellIs n a b c) (g : TellIs n' a' b' c') (e : n = n') : a = a' ∧ b = b' ∧ c = c' := by subst e; exact tell_uniq h g
theorem law_end {cl : Str → Option Addr} {mean : ExcName → Option Value} {args : List WData} {s₁ s' : Shared} {L : Addr} {m : Str → Option Value} (F : Fr s₁.heap L s'.heap m) (hg : s'.gens = #[]) (hos : s'.os = s₁.os) :
    GoodW PySem.Challenge.rw_ak5007_01.row.claim cl mean args s₁ (.ok (.ret (.bool true))) s' :=
  goodW_bool F hg (raisesW_false (by wrow_none_raised)) (postW_of (X := true) (by wrow_shape) (by wtm_val) rfl) hos
local macro_rules | `(tactic| wrow_close) => `(tactic| (w_end; k_dflt (refine' law_end ?F ?g ?o; (case F => k_asm); (case g => k_asm); (case o => rfl))))
local macro_rules | `(tactic| walk_at "binaryOp Add float int") => `(tactic| first | (with_plain (refine' r_add_fi ?hA ?hx ?hb ?_); (case hA => with_plain (exact rfl)); (case hx => first | with_reducible rfl | exact hf_half | exact hf_epoch); (case hb => omega)) | (with_plain (refine' r_add_fi_any ?hA ?hb ?_); (case hA => with_plain (exact rfl)); (case hb => omega)))
local macro_rules | `(tactic| walk_at "binaryOp Add int float") => `(tactic| (with_plain (refine' r_add_if ?hA ?hx ?hb ?_); (case hA => with_plain (exact rfl)); (case hx => first | with_reducible rfl | exact hf_half | exact hf_epoch); (case hb => omega)))
local macro_rules | `(tactic| walk_at "inplaceOp Add int float") => `(tactic| (with_plain (refine' r_iadd_if ?hA ?hx ?hb ?_); (case hA => with_plain (exact rfl)); (case hx => first | with_reducible rfl | exact hf_half | exact hf_epoch); (case hb => omega)))
local macro_rules | `(tactic| walk_at "binaryOp Sub float int") => `(tactic| (with_plain (refine' r_sub_fi ?hA ?hx ?hb ?_); (case hA => with_plain (exact rfl)); (case hx => first | with_reducible rfl | exact hf_half | exact hf_epoch); (case hb => omega)))
local macro_rules | `(tactic| walk_at "binaryOp Sub int float") => `(tactic| (with_plain (refine' r_sub_if ?hA ?hx ?hb ?_); (case hA => with_plain (exact rfl)); (case hx => first | with_reducible rfl | exact hf_half | exact hf_epoch); (case hb => omega)))
local macro_rules | `(tactic| walk_at "binaryOp Add float float") => `(tactic| (with_plain (refine' r_add_ff ?hx ?hy ?hb ?_); (case hx => first | with_reducible rfl | exact hf_half | exact hf_epoch); (case hy => first | with_reducible rfl | exact hf_half | exact hf_epoch); (case hb => omega)))
local macro_rules | `(tactic| walk_at "binaryOp Sub float float") => `(tactic| (with_plain (refine' r_sub_ff ?hx ?hy ?hb ?_); (case hx => first | with_reducible rfl | exact hf_half | exact hf_epoch); (case hy => first | with_reducible rfl | exact hf_half | exact hf_epoch); (case hb => omega)))
local macro_rules | `(tactic| walk_at "binaryOp Mult float int") => `(tactic| (with_plain (refine' r_mul_fi ?hA ?hx ?hb ?_); (case hA => with_plain (exact rfl)); (case hx => with_reducible rfl); (case hb => omega)))
local macro_rules | `(tactic| walk_at "binaryOp Mod float int") => `(tactic| (with_plain (refine' r_mod_fi ?hA ?hx ?hb ?hs1 ?hs2 ?_); (case hA => with_plain (exact rfl)); (case hx => with_reducible rfl); (case hb => omega); (case hs1 => decide +kernel); (case hs2 => decide +kernel)))
local macro_rules | `(tactic| walk_at "binaryOp Div float int") => `(tactic| (with_plain (refine' r_div_fi ?hA ?hb ?_); (case hA => with_plain (exact rfl)); (case hb => omega)))
local macro_rules | `(tactic| walk_at "binaryOp Div int int") => `(tactic| (with_plain (refine' r_div_ii ?hA ?hb ?_); (case hA => with_plain (exact rfl)); (case hb => omega)))
local macro_rules | `(tactic| walk_at "call builtin:math.floor") => `(tactic| (with_plain (refine' r_floor ?hA ?hx ?_); (case hA => with_plain (exact rfl)); (case hx => first | (with_reducible refine' fl_half ?hb; (case hb => omega)) | (with_reducible refine' fl_frac ?hb; (case hb => omega)) | (with_reducible refine' fl_div ?hb; (case hb => omega)) | (with_reducible refine' fl_month' ?hm ?hl ?hd; (case hm => omega); (case hl => omega); (case hd => omega)))))
local macro_rules | `(tactic| walk_at "call builtin:math.trunc") => `(tactic| (with_plain (refine' r_trunc ?hA ?hx ?hb ?_); (case hA => with_plain (exact rfl)); (case hx => with_reducible rfl); (case hb => omega)))
local macro_rules | `(tactic| walk_at "call type:int") => `(tactic| (with_plain (refine' r_int ?hA ?hx ?hb ?_); (case hA => with_plain (exact rfl)); (case hx => with_reducible rfl); (case hb => omega)))
local macro_rules | `(tactic| walk_at "compareOp Lt float int") => `(tactic| (with_plain (refine' r_lt_fi ?hx ?hb ?_); (case hx => with_reducible rfl); (case hb => omega)))
local macro_rules | `(tactic| walk_at "compareOp NotEq float float") => `(tactic| (with_plain (refine' r_ne_ff ?hx ?hy ?hb ?_); (case hx => with_reducible rfl); (case hy => with_reducible rfl); (case hb => omega)))
local macro_rules | `(tactic| walk_at "binaryOp Mod int int") => `(tactic| (with_reducible refine' r_mod_ii ?hb ?_; (case hb => omega)))
local macro_rules | `(tactic| walk_at "binaryOp FloorDiv int int") => `(tactic| (with_reducible refine' r_fdiv_ii ?hb ?_; (case hb => omega)))
local macro_rules | `(tactic| walk_at "compareOp In int ref") => `(tactic| (k_here; k_dflt (refine' r_inK ?F ?X ?l ?i ?_; (case F => k_asm); (case X => k_asm); (case l => k_is); (case i => repeat constructor))))
local macro_rules | `(tactic| walk_at "binaryOp Add int bool") => `(tactic| (with_reducible refine' r_add_leap ?_))
local macro_rules | `(tactic| walk_at "storeName") => `(tactic| (k_here; (with_reducible refine' store_isI ?hi ?he ?_); (case hi => with_reducible assumption); (case he => (intro hP9; first | omega | ((have hl9 := lp_one (by with_reducible assumption)); omega) | ((have hl9 := lp_nil (by with_reducible assumption)); omega))); k_dflt (refine' storeX_L ?F ?N ?_ ?a ?b; (case F => k_asm); (case N => k_asm); (case a => rfl); (case b => rfl); k_whole; intro h' F' N'; (try k_sweep))))
local macro_rules | `(tactic| walk_at "storeName") => `(tactic| (k_here; (with_reducible refine' store_isF ?hi ?he ?_); (case hi => with_reducible assumption); (case he => (intro hP9; first | omega | ((have hl9 := lp_one (by with_reducible assumption)); omega) | ((have hl9 := lp_nil (by with_reducible assumption)); omega))); k_dflt (refine' storeX_L ?F ?N ?_ ?a ?b; (case F => k_asm); (case N => k_asm); (case a => rfl); (case b => rfl); k_whole; intro h' F' N'; (try k_sweep))))
local macro_rules | `(tactic| walk_at "CutV") => `(tactic| k_dflt (first | (refine' cutV_set ?F ?N; (case F => assumption); (case N => assumption)) | (refine' cutV_keep ?hi ?F ?N ?ho ?he; (case hi => assumption); (case F => assumption); (case N => assumption); (case ho => exact rfl); (case he => (intro hP9; omega)))))
local macro_rules | `(tactic| walk_at "exec If") => `(tactic| (k_here; k_dflt (refine' cut_if ?hc ?F ?N ?_ ?_; (case hc => with_reducible assumption); (case F => k_asm); (case N => k_asm)); rotate_left; intro t9 h9 tk9 F9 N9; (try dsimp only); (try k_sweep); rotate_right))
local macro_rules | `(tactic| walk_at "call ref") => `(tactic| (k_here; k_dflt (refine' con_use (tell_any _ _ _ ?hn) ?k1 ?k2 ?k3 ?k4 ?k5 ?kK ?kd ?ku ?_; (case hn => omega); (case k1 => k_asm); (case k2 => k_asm); (case k3 => k_asm); (case k4 => k_asm); (case k5 => k_asm); (case kK => first | exact rfl | assumption); (case kd => ktr_room); (case ku => ktr_units); k_whole); intro Y9 k9 d9 T9 E9 B9 D9 u1 u2 u3 c9 h9 tk9 F9 N9 l9; (try dsimp only); (try k_fold); (try k_sweep)))
local macro_rules | `(tactic| walk_at "call ref") => `(tactic| (k_here; k_dflt (refine' con_use (date_any _ _ _ ?hn) ?k1 ?k2 ?k3 ?k4 ?k5 ?kK ?kd ?ku ?_; (case hn => omega); (case k1 => k_asm); (case k2 => k_asm); (case k3 => k_asm); (case k4 => k_asm); (case k5 => k_asm); (case kK => first | exact rfl | assumption); (case kd => ktr_room); (case ku => ktr_units); k_whole); intro y9 m9 d9 O9 G9 D9 u1 u2 u3 c9 h9 tk9 F9 N9 l9; (try dsimp only); (try k_fold); (try k_sweep)))
local macro_rules | `(tactic| walk_at "call ref") => `(tactic| (k_here; k_dflt (refine' con_use (to_greg_any _ _ _ _ _ _ _ ?hb ?hn) ?k1 ?k2 ?k3 ?k4 ?k5 ?kK ?kd ?ku ?_; (case hb => omega); (case hn => omega); (case k1 => k_asm); (case k2 => k_asm); (case k3 => k_asm); (case k4 => k_asm); (case k5 => k_asm); (case kK => first | exact rfl | assumption); (case kd => ktr_room); (case ku => ktr_units); k_whole); intro y9 m9 d9 O9 G9 D9 u1 u2 u3 c9 h9 tk9 F9 N9 l9; (try dsimp only); (try k_fold); (try k_sweep)))
local macro_rules | `(tactic| walk_at "call ref") => `(tactic| (k_here; k_dflt (refine' con_use (to_jd_iso_any _ _ _ _ _ _ _ ?hp) ?k1 ?k2 ?k3 ?k4 ?k5 ?kK ?kd ?ku ?_; (case hp => omega); (case k1 => k_asm); (case k2 => k_asm); (case k3 => k_asm); (case k4 => k_asm); (case k5 => k_asm); (case kK => first | exact rfl | assumption); (case kd => ktr_room); (case ku => ktr_units); k_whole); intro t9 h9 tk9 F9 N9; (try dsimp only); (try k_fold); (try k_sweep)))
local macro_rules | `(tactic| walk_at "call ref") => `(tactic| (k_here; k_dflt (refine' con_use (weeks_any _ _ _ ?hp) ?k1 ?k2 ?k3 ?k4 ?k5 ?kK ?kd ?ku ?_; (case hp => omega); (case k1 => k_asm); (case k2 => k_asm); (case k3 => k_asm); (case k4 => k_asm); (case k5 => k_asm); (case kK => first | exact rfl | assumption); (case kd => ktr_room); (case ku => ktr_units); k_whole); intro W9 V9 t9 h9 tk9 F9 N9; (try dsimp only); (try k_fold); (try k_sweep)))
local macro_rules | `(tactic| walk_at "call ref") => `(tactic| (k_here; k_dflt (refine' con_use (first_any _ _ _ ?hp) ?k1 ?k2 ?k3 ?k4 ?k5 ?kK ?kd ?ku ?_; (case hp => omega); (case k1 => k_asm); (case k2 => k_asm); (case k3 => k_asm); (case k4 => k_asm); (case k5 => k_asm); (case kK => first | exact rfl | assumption); (case kd => ktr_room); (case ku => ktr_units); k_whole); intro V9 t9 h9 tk9 F9 N9; (try dsimp only); (try k_fold); (try k_sweep)))
local macro_rules | `(tactic| walk_at "call ref") => `(tactic| (k_here; k_dflt (refine' con_use (lengths_con _ _ _) ?k1 ?k2 ?k3 ?k4 ?k5 ?kK ?kd ?ku ?_;  (case k1 => k_asm); (case k2 => k_asm); (case k3 => k_asm); (case k4 => k_asm); (case k5 => k_asm); (case kK => first | exact rfl | assumption); (case kd => ktr_room); (case ku => ktr_units); k_whole); intro D9 t1 t2 t3 t4 t5 t6 t7 t8 t9 t10 t11 t12 c9 h9 tk9 F9 N9 l9; (try dsimp only); (try k_fold); (try k_sweep)))
local macro_rules | `(tactic| walk_at "call ref") => `(tactic| (k_here; k_dflt (refine' con0_use (asked0_any _ _ _ _ _ _  ?hp) ?k1 ?k2 ?k3 ?k4 ?k5 ?kK ?k6 ?k7 ?kd ?ku ⟨?_, ?_⟩; (case hp => omega); (case k1 => k_asm); (case k2 => k_asm); (case k3 => k_asm); (case k4 => k_asm); (case k5 => k_asm); (case kK => first | exact rfl | assumption); (case k6 => k_asm); (case k7 => k_asm); (case kd => ktr_room); (case ku => ktr_units)); (intro C9; first | (exfalso; omega) | (intro Y9 k9 d9 T9 D9 u1 u2 u3 h9 tk9 F9 N9 l9; (try dsimp only); (try k_fold); (try k_sweep)) | (intro t9 h9 tk9 F9 N9; (try dsimp only); (try k_fold); (try k_sweep))); rotate_left; (intro C9; first | (exfalso; omega) | (intro t9 h9 tk9 F9 N9; (try dsimp only); (try k_fold); (try k_sweep)))))
local macro_rules | `(tactic| walk_at "call ref") => `(tactic| (k_here; k_dflt (refine' con0_use (asked1_any _ _ _ _ _ _ _ _  ?hp) ?k1 ?k2 ?k3 ?k4 ?k5 ?kK ?k6 ?k7 ?kd ?ku ⟨?_, ?_⟩; (case hp => omega); (case k1 => k_asm); (case k2 => k_asm); (case k3 => k_asm); (case k4 => k_asm); (case k5 => k_asm); (case kK => first | exact rfl | assumption); (case k6 => k_asm); (case k7 => k_asm); (case kd => ktr_room); (case ku => ktr_units)); (intro C9; first | (exfalso; omega) | (intro Y9 k9 d9 T9 D9 u1 u2 u3 h9 tk9 F9 N9 l9; (try dsimp only); (try k_fold); (try k_sweep)) | (intro t9 h9 tk9 F9 N9; (try dsimp only); (try k_fold); (try k_sweep))); rotate_left; (intro C9; first | (exfalso; omega) | (intro t9 h9 tk9 F9 N9; (try dsimp only); (try k_fold); (try k_sweep)))))
local macro_rules | `(tactic| walk_at "compareOp NotEq ref ref") => `(tactic| (k_here; k_dflt (first
  | (refine' ne_K ?N ?D ?D2 ?he ?hu ?_; (case N => k_asm); (case D => k_mem); (case D2 => k_mem); (case he => first | exact tell_uniq (by with_reducible assumption) (by with_reducible assumption) | exact tell_uniq (by with_reducible assumption) (tell_of (by unfold thu1; omega) (by omega) (by unfold thu1; omega))); (case hu => ke_room); k_whole)
  | (refine' neT_K ?N ?D ?D2 ?he ?hu ?_; (case N => k_asm); (case D => k_mem); (case D2 => k_mem); (case he => exact date_inj (by with_reducible assumption) (by with_reducible assumption) (by omega)); (case hu => ke_room); k_whole))))
local macro_rules | `(tactic| walk_at "compareOp Eq ref ref") => `(tactic| (k_here; k_dflt (refine' eq_K ?N ?D ?D2 ?he ?hu ?_; (case N => k_asm); (case D => k_mem); (case D2 => k_mem); (case he => first | exact tell_uniq (by with_reducible assumption) (by with_reducible assumption) | exact tell_uniq2 (by with_reducible assumption) (by with_reducible assumption) (by rw [gj_yday]; unfold yday; omega)); (case hu => ke_room); k_whole)))
local macro_rules | `(tactic| walk_at "binaryOp Mod int int") => `(tactic| (first | (with_reducible refine' r_mod_ii ?hb ?_; (case hb => (with_plain decide))) | ((with_reducible refine' r_mod_var ?hb ?_; (case hb => omega)); intro r9 hr9)))
local macro_rules | `(tactic| walk_at "subscriptTail") => `(tactic| (k_here; (with_reducible show wpAny _ _ (subscriptTail _ _ (Value.ref _) (Value.int _ _)) _ _ _); (with_unfolding_all refine' r_num ?N ?D ?I ?k ?_ ?hs; (case N => k_asm); (case D => k_mem); (case I => with_reducible assumption); (case k => decide); (case hs => with_unfolding_all rfl); k_whole); intro v9 t9 hv9))
local macro_rules | `(tactic| walk_at "subscriptTail Name Constant ref int") => `(tactic| (k_here; (with_reducible show wpAny _ _ (subscriptTail _ _ (Value.ref _) (Value.int _ _)) _ _ _); (with_unfolding_all refine' r_num ?N ?D ?I ?k ?_ ?hs; (case N => k_asm); (case D => k_mem); (case I => with_reducible assumption); (case k => decide); (case hs => with_unfolding_all rfl); k_whole); intro v9 t9 hv9))
local macro_rules | `(tactic| walk_at "exec If") => `(tactic| (k_here; k_dflt (refine' cut_n ?hc ?F ?N ?_ ?_; (case hc => with_reducible assumption); (case F => k_asm); (case N => k_asm)); rotate_left; intro h9 tk9 F9 N9; (try dsimp only); (try k_sweep); rotate_right))
local macro_rules | `(tactic| walk_at "CutE") => `(tactic| k_dflt (refine' cutE_end ?F ?N ?hs; (case F => k_asm); (case N => k_asm); (case hs => (repeat' (first | with_reducible exact mem_all0 | with_reducible refine mem_all1 ?_)))))

local macro_rules | `(tactic| walk_at "subscriptTail") => `(tactic| (k_here; (with_reducible show wpAny _ _ (subscriptTail _ _ (Value.ref _) (Value.int _ _)) _ _ _); (with_unfolding_all refine' r_len ?N ?D ?k ?_ ?hs; (case N => k_asm); (case D => k_mem); (case k => omega); (case hs => with_unfolding_all rfl); k_whole); intro t9))
local macro_rules | `(tactic| walk_at "subscriptTail Name BinOp ref int") => `(tactic| (k_here; (with_reducible show wpAny _ _ (subscriptTail _ _ (Value.ref _) (Value.int _ _)) _ _ _); (with_unfolding_all refine' r_len ?N ?D ?k ?_ ?hs; (case N => k_asm); (case D => k_mem); (case k => omega); (case hs => with_unfolding_all rfl); k_whole); intro t9))
local macro_rules | `(tactic| walk_at "compareOp NotEq int int") => `(tactic| ((with_reducible refine' r_ne_eq ?e ?_); (case e => omega)))
local macro_rules | `(tactic| walk_at "call ref") => `(tactic| (k_here; k_dflt (refine' con_use (tell_sum _ _ _ _ _ ?hp) ?k1 ?k2 ?k3 ?k4 ?k5 ?kK ?kd ?ku ?_; (case hp => omega); (case k1 => k_asm); (case k2 => k_asm); (case k3 => k_asm); (case k4 => k_asm); (case k5 => k_asm); (case kK => first | exact rfl | assumption); (case kd => ktr_room); (case ku => ktr_units); k_whole); intro Y9 k9 d9 T9 D9 u1 u2 u3 c9 h9 tk9 F9 N9 l9; (try dsimp only); (try k_fold); (try k_sweep)))
set_option maxHeartbeats 40000000 in
theorem law_holds : PySem.Challenge.rw_ak5007_01.Holds := Mine.hd (by
  have cN := CutN.mk (pos := ⟨150, 4, 151, 20⟩)
  k_go0
  all_goals (try k_fold)
  repeat' (first | (k_unfold; (try dsimp only)) | (k_end; wrow_close) | walk1 | (dsimp only; walk1) | fail "no step"))
end Mine
end

theorem PySem.Challenge.cw_ak5007_01_holds : PySem.Challenge.rw_ak5007_01.Holds :=
  Mine.law_holds
