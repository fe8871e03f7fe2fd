import PyProof.Rows.All
import Wide.All
import OpenK.AllK
import Wide.FinOn
import Lean
import PySem.Challenge.RW_ak5023_01
set_option Elab.async false

section
open PySem PySem.W PyProof.Rows
set_option Elab.async false
set_option maxRecDepth 100000
set_option maxHeartbeats 8000000
namespace AK
open_top hd for PySem.Challenge.rw_ak5023_01
end AK
end

section
set_option maxRecDepth 100000
namespace AK
def leapG (y : Int) : Bool := decide (y % 4 = 0) && (decide (y % 100 ≠ 0) || decide (y % 400 = 0))
theorem leapG_iff (y : Int) : leapG y = true ↔ (y % 4 = 0 ∧ (y % 100 ≠ 0 ∨ y % 400 = 0)) := by simp [leapG]
def dimG (y m : Int) : Int := if m = 2 then (if leapG y = true then 29 else 28) else if m = 4 ∨ m = 6 ∨ m = 9 ∨ m = 11 then 30 else 31
theorem dimG_pos (y m : Int) : 28 ≤ dimG y m ∧ dimG y m ≤ 31 :=
 (by intro h9x; exact h9x : have h9x : 28 ≤ dimG y m ∧ dimG y m ≤ 31 := (by
  unfold dimG
  (repeat' split) <;> omega
 ); 28 ≤ dimG y m ∧ dimG y m ≤ 31)
def ladj (y m : Int) : Int := if m ≤ 2 then 0 else if leapG y = true then -1 else -2
/-- the count of days to January 0 of the year y -/
def janG (y : Int) : Int := 365 * (y - 1) + (y - 1) / 4 - (y - 1) / 100 + (y - 1) / 400
/-- the day of the year, the first is 1 -/
def ydG (y m d : Int) : Int := (367 * m - 362) / 12 + ladj y m + d
def gJ (y m d : Int) : Int := janG y + ydG y m d

structure IsDate (y m d : Int) : Prop where
  m1 : 1 ≤ m
  m2 : m ≤ 12
  d1 : 1 ≤ d
  d2 : d ≤ dimG y m

theorem ydG_range {y m d : Int} (h : IsDate y m d) : 1 ≤ ydG y m d ∧ ydG y m d ≤ 366 ∧ (leapG y = false → ydG y m d ≤ 365) :=
 (by intro h9x; exact h9x : have h9x : 1 ≤ ydG y m d ∧ ydG y m d ≤ 366 ∧ (leapG y = false → ydG y m d ≤ 365) := (by
  obtain ⟨m1, m2, d1, d2⟩ := h
  unfold ydG ladj
  unfold dimG at d2
  cases hl : leapG y <;> rw [hl] at d2 <;> simp only [Bool.false_eq_true, if_false, if_true, true_implies, false_implies, and_true, reduceCtorEq] at d2 ⊢ <;>
  (have : m = 1 ∨ m = 2 ∨ m = 3 ∨ m = 4 ∨ m = 5 ∨ m = 6 ∨ m = 7 ∨ m = 8 ∨ m = 9 ∨ m = 10 ∨ m = 11 ∨ m = 12 := by omega) <;>
  rcases this with rfl | rfl | rfl | rfl | rfl | rfl | rfl | rfl | rfl | rfl | rfl | rfl <;> simp at d2 ⊢ <;> omega
 ); 1 ≤ ydG y m d ∧ ydG y m d ≤ 366 ∧ (leapG y = false → ydG y m d ≤ 365))
theorem not_leapG {y : Int} (h : leapG y = false) : ¬ (y % 4 = 0 ∧ (y % 100 ≠ 0 ∨ y % 400 = 0)) := fun c => by
  rw [(leapG_iff y).mpr c] at h; cases h

/-- what from_jd makes of the days since the epoch: the year -/
def yearOf (D : Int) : Int :=
  let dqc := D % 146097
  let cent := dqc / 36524
  let dcent := dqc % 36524
  let quad := dcent / 1461
  let yindex := dcent % 1461 / 365
  D / 146097 * 400 + cent * 100 + quad * 4 + yindex + (if cent = 4 ∨ yindex = 4 then 0 else 1)

theorem year_ok {y m d : Int} (h : IsDate y m d) : yearOf (gJ y m d - 1) = y :=
 (by intro h9x; exact h9x : have h9x : yearOf (gJ y m d - 1) = y := (by
  have hr := ydG_range h
  unfold gJ janG
  generalize ydG y m d = e at *
  have hl := leapG_iff y
  -- the year in its cycle
  obtain ⟨a, c, q, i, hy, hc, hq, hi⟩ : ∃ a c q i : Int, y - 1 = 400 * a + 100 * c + 4 * q + i ∧ (0 ≤ c ∧ c ≤ 3) ∧ (0 ≤ q ∧ q ≤ 24) ∧ (0 ≤ i ∧ i ≤ 3) :=
    ⟨(y - 1) / 400, (y - 1) % 400 / 100, (y - 1) % 100 / 4, (y - 1) % 4, by omega, by omega, by omega, by omega⟩
  have e4 : (y - 1) / 4 = 100 * a + 25 * c + q := by omega
  have e100 : (y - 1) / 100 = 4 * a + c := by omega
  have e400 : (y - 1) / 400 = a := by omega
  have hlast : e = 366 → i = 3 ∧ (q ≠ 24 ∨ c = 3) := by
    intro he
    cases hb : leapG y with
    | false => have := hr.2.2 hb; omega
    | true => have := hl.mp hb; omega
  rw [e4, e100, e400]
  have hD : 365 * (y - 1) + (100 * a + 25 * c + q) - (4 * a + c) + a + e - 1 = 146097 * a + (36524 * c + 1461 * q + 365 * i + (e - 1)) := by omega
  rw [hD]
  have hin : 0 ≤ 36524 * c + 1461 * q + 365 * i + (e - 1) ∧ 36524 * c + 1461 * q + 365 * i + (e - 1) < 146097 := by omega
  unfold yearOf
  have d1 : (146097 * a + (36524 * c + 1461 * q + 365 * i + (e - 1))) / 146097 = a := by omega
  have d2 : (146097 * a + (36524 * c + 1461 * q + 365 * i + (e - 1))) % 146097 = 36524 * c + 1461 * q + 365 * i + (e - 1) := by omega
  simp only [d1, d2]
  by_cases hx : c = 3 ∧ q = 24 ∧ i = 3 ∧ e = 366
  · obtain ⟨rfl, rfl, rfl, rfl⟩ := hx
    simp
    omega
  · have hr2 : 1461 * q + 365 * i + (e - 1) < 36524 := by omega
    have c1 : (36524 * c + 1461 * q + 365 * i + (e - 1)) / 36524 = c := by omega
    have c2 : (36524 * c + 1461 * q + 365 * i + (e - 1)) % 36524 = 1461 * q + 365 * i + (e - 1) := by omega
    simp only [c1, c2]
    have q1 : (1461 * q + 365 * i + (e - 1)) / 1461 = q := by omega
    have q2 : (1461 * q + 365 * i + (e - 1)) % 1461 = 365 * i + (e - 1) := by omega
    simp only [q1, q2]
    by_cases h4 : i = 3 ∧ e = 366
    · obtain ⟨rfl, rfl⟩ := h4
      simp
      omega
    · have i1 : (365 * i + (e - 1)) / 365 = i := by omega
      simp only [i1]
      rw [if_neg (by omega)]
      omega
 ); yearOf (gJ y m d - 1) = y)
theorem yd0_ok {y m d : Int} (h : IsDate y m d) : gJ y m d - gJ y 1 1 = ydG y m d - 1 :=
 (by intro h9x; exact h9x : have h9x : gJ y m d - gJ y 1 1 = ydG y m d - 1 := (by
  unfold gJ
  have : ydG y 1 1 = 1 := by unfold ydG ladj; simp
  omega
 ); gJ y m d - gJ y 1 1 = ydG y m d - 1)
/-- .. and the month, of the day of the year (the first is 0) -/
def monthOf (y e : Int) : Int := ((e + (if e < 58 + (if leapG y = true then 1 else 0) then 0 else if leapG y = true then 1 else 2)) * 12 + 373) / 367
theorem month_ok {y m d : Int} (h : IsDate y m d) : monthOf y (ydG y m d - 1) = m :=
 (by intro h9x; exact h9x : have h9x : monthOf y (ydG y m d - 1) = m := (by
  obtain ⟨m1, m2, d1, d2⟩ := h
  unfold monthOf ydG ladj
  unfold dimG at d2
  cases hl : leapG y <;> rw [hl] at d2 <;> simp only [Bool.false_eq_true, if_false, if_true] at d2 ⊢ <;>
  (have : m = 1 ∨ m = 2 ∨ m = 3 ∨ m = 4 ∨ m = 5 ∨ m = 6 ∨ m = 7 ∨ m = 8 ∨ m = 9 ∨ m = 10 ∨ m = 11 ∨ m = 12 := by omega) <;>
  rcases this with rfl | rfl | rfl | rfl | rfl | rfl | rfl | rfl | rfl | rfl | rfl | rfl <;> simp at d2 ⊢ <;> (repeat' split) <;> omega
 ); monthOf y (ydG y m d - 1) = m)
theorem day_ok (y m d : Int) : gJ y m d - gJ y m 1 + 1 = d := by unfold gJ ydG; omega
theorem gJ_range {y m d : Int} (h : IsDate y m d) (hy : y.natAbs < 2 ^ 20) : (gJ y m d).natAbs < 2 ^ 29 :=
 (by intro h9x; exact h9x : have h9x : (gJ y m d).natAbs < 2 ^ 29 := (by
  have := ydG_range h
  unfold gJ janG
  omega
 ); (gJ y m d).natAbs < 2 ^ 29)
end AK
namespace AK
theorem first_date {y m : Int} (h : 1 ≤ m ∧ m ≤ 12) : IsDate y m 1 := ⟨h.1, h.2, by omega, by have := dimG_pos y m; omega⟩
/-- what from_jd walks, in one lemma -/
structure FromJd (D y m d : Int) : Prop where
  year : yearOf D = y
  yd : 0 ≤ D - gJ y 1 1 + 1 ∧ D - gJ y 1 1 + 1 ≤ 365
  month : monthOf y (D - gJ y 1 1 + 1) = m
  day : D + 1 - gJ y m 1 + 1 = d
theorem fromJd_ok {y m d : Int} (h : IsDate y m d) : FromJd (gJ y m d - 1) y m d :=
 (by intro h9x; exact h9x : have h9x : FromJd (gJ y m d - 1) y m d := (by
  have h1 := yd0_ok h
  have h2 := ydG_range h
  have e : gJ y m d - 1 - gJ y 1 1 + 1 = ydG y m d - 1 := by omega
  refine ⟨year_ok h, by omega, ?_, ?_⟩
  · rw [e]; exact month_ok h
  · have := day_ok y m d
    omega
 ); FromJd (gJ y m d - 1) y m d)
end AK
namespace AK
theorem yr_path {n D y x1 x2 q x3 c x4 u x5 i yr : Int} (k : yearOf D = y) (hn : n = 6885702 + 4 * D) (h1 : x1 = 4 * ((n - 2) / 4) + 2) (h2 : x2 = x1 - 6885702) (h3 : q = x2 / (4 * 146097)) (h4 : x3 = x2 % (4 * 146097)) (h5 : c = x3 / (4 * 36524)) (h6 : x4 = x3 % (4 * 36524)) (h7 : u = x4 / (4 * 1461)) (h8 : x5 = x4 % (4 * 1461)) (h9 : i = x5 / (4 * 365)) (h10 : yr = q * 400 + c * 100 + u * 4 + i) :
    (c = 4 → yr = y) ∧ (i = 4 → yr = y) ∧ (¬ c = 4 → ¬ i = 4 → yr + 1 = y) :=
 (by intro h9x; exact h9x : have h9x : (c = 4 → yr = y) ∧ (i = 4 → yr = y) ∧ (¬ c = 4 → ¬ i = 4 → yr + 1 = y) := (by
  have e1 : x2 = 4 * D := by omega
  have e3 : q = D / 146097 := by omega
  have e4 : x3 = 4 * (D % 146097) := by omega
  have e5 : c = D % 146097 / 36524 := by omega
  have e6 : x4 = 4 * (D % 146097 % 36524) := by omega
  have e7 : u = D % 146097 % 36524 / 1461 := by omega
  have e8 : x5 = 4 * (D % 146097 % 36524 % 1461) := by omega
  have e9 : i = D % 146097 % 36524 % 1461 / 365 := by omega
  unfold yearOf at k
  simp only at k
  rw [← e3, ← e5, ← e7, ← e9] at k
  rw [h10]
  refine ⟨fun h => ?_, fun h => ?_, fun h h' => ?_⟩
  · rw [if_pos (.inl h)] at k; omega
  · rw [if_pos (.inr h)] at k; omega
  · rw [if_neg (by omega)] at k; omega
 ); (c = 4 → yr = y) ∧ (i = 4 → yr = y) ∧ (¬ c = 4 → ¬ i = 4 → yr + 1 = y))
theorem la_1 {yd la : Int} {b : Bool} (h : (if yd < 58 + (if b = true then 1 else 0) then (0 : Int) else if b = true then 1 else 2) = la) (h1 : yd < 58 + (if b = true then 1 else 0)) : 0 = la := by rw [if_pos h1] at h; exact h
theorem la_2 {yd la : Int} {b : Bool} (h : (if yd < 58 + (if b = true then 1 else 0) then (0 : Int) else if b = true then 1 else 2) = la) (h2 : b = true) (h1 : ¬ yd < 58 + (if b = true then 1 else 0)) : 1 = la := by rw [if_neg h1, if_pos h2] at h; exact h
theorem la_3 {yd la : Int} {b : Bool} (h : (if yd < 58 + (if b = true then 1 else 0) then (0 : Int) else if b = true then 1 else 2) = la) (h2 : ¬ b = true) (h1 : ¬ yd < 58 + (if b = true then 1 else 0)) : 2 = la := by rw [if_neg h1, if_neg h2] at h; exact h
end AK
end

section
set_option maxRecDepth 100000
namespace AK
def leapH (y : Int) : Bool := decide ((y * 7 + 1) % 19 < 7)
def molad (y : Int) : Int := (235 * y - 234) / 19
def dayH (y : Int) : Int := molad y * 29 + (12084 + 13753 * molad y) / 25920
def dly1 (y : Int) : Int := if 3 * (dayH y + 1) % 7 < 3 then dayH y + 1 else dayH y
def dly2 (y : Int) : Int := if dly1 (y + 1) - dly1 y = 356 then 2 else if dly1 y - dly1 (y - 1) = 382 then 1 else 0
def nyH (y : Int) : Int := dly1 y + dly2 y
def ydaysH (y : Int) : Int := nyH (y + 1) - nyH y
def mlenH (y m : Int) : Int :=
  if m = 2 ∨ m = 4 ∨ m = 6 ∨ m = 10 ∨ m = 13 then 29 else if m = 12 ∧ leapH y = false then 29 else if m = 8 ∧ ydaysH y % 10 ≠ 5 then 29 else if m = 9 ∧ ydaysH y % 10 = 3 then 29 else 30
theorem leapH_iff (y : Int) : leapH y = true ↔ (y * 7 + 1) % 19 < 7 := by simp [leapH]
theorem dly1_range {y : Int} (h : y.natAbs < 2 ^ 18) : (dly1 y).natAbs < 2 ^ 27 :=
 (by intro h9x; exact h9x : have h9x : (dly1 y).natAbs < 2 ^ 27 := (by
  unfold dly1 dayH molad
  split <;> omega
 ); (dly1 y).natAbs < 2 ^ 27)
theorem dly2_range (y : Int) : 0 ≤ dly2 y ∧ dly2 y ≤ 2 :=
 (by intro h9x; exact h9x : have h9x : 0 ≤ dly2 y ∧ dly2 y ≤ 2 := (by
  unfold dly2
  (repeat' split) <;> omega
 ); 0 ≤ dly2 y ∧ dly2 y ≤ 2)
theorem nyH_range {y : Int} (h : y.natAbs < 2 ^ 18) : (nyH y).natAbs < 2 ^ 28 :=
 (by intro h9x; exact h9x : have h9x : (nyH y).natAbs < 2 ^ 28 := (by
  have h1 := dly1_range h
  have h2 := dly2_range y
  unfold nyH; omega
 ); (nyH y).natAbs < 2 ^ 28)
theorem mlenH_range (y m : Int) : 29 ≤ mlenH y m ∧ mlenH y m ≤ 30 :=
 (by intro h9x; exact h9x : have h9x : 29 ≤ mlenH y m ∧ mlenH y m ≤ 30 := (by
  unfold mlenH
  (repeat' split) <;> omega
 ); 29 ≤ mlenH y m ∧ mlenH y m ≤ 30)
end AK
namespace AK
theorem dly1_path {y mo pa da : Int} (h1 : mo = (235 * y - 234) / 19) (h2 : pa = 12084 + 13753 * mo) (h3 : da = mo * 29 + pa / 25920) : dayH y = da :=
 (by intro h9x; exact h9x : have h9x : dayH y = da := (by
  subst h1 h2 h3; rfl
 ); dayH y = da)
end AK
namespace AK
theorem dly1_low {y : Int} (h : -3 ≤ y) : -2000 ≤ dly1 y :=
 (by intro h9x; exact h9x : have h9x : -2000 ≤ dly1 y := (by
  unfold dly1 dayH molad
  split <;> omega
 ); -2000 ≤ dly1 y)
end AK
namespace AK
section
variable {y m : Int}
theorem mlen_in {b : Bool} (h : ([2, 4, 6, 10, 13].any fun x => x == m) = b) : (b = true ↔ (m = 2 ∨ m = 4 ∨ m = 6 ∨ m = 10 ∨ m = 13)) :=
 (by intro h9x; exact h9x : have h9x : (b = true ↔ (m = 2 ∨ m = 4 ∨ m = 6 ∨ m = 10 ∨ m = 13)) := (by
  rw [← h]
  simp only [List.any_cons, List.any_nil, Bool.or_false, Bool.or_eq_true, beq_iff_eq]
  omega
 ); (b = true ↔ (m = 2 ∨ m = 4 ∨ m = 6 ∨ m = 10 ∨ m = 13)))
theorem mlen_1 (h : ([2, 4, 6, 10, 13].any fun x => x == m) = true) : 29 = mlenH y m :=
 (by intro h9x; exact h9x : have h9x : 29 = mlenH y m := (by
  unfold mlenH; rw [if_pos ((mlen_in h).mp rfl)]
 ); 29 = mlenH y m)
theorem mlen_no (h : ([2, 4, 6, 10, 13].any fun x => x == m) = false) : mlenH y m = if m = 12 ∧ leapH y = false then 29 else if m = 8 ∧ ydaysH y % 10 ≠ 5 then 29 else if m = 9 ∧ ydaysH y % 10 = 3 then 29 else 30 :=
 (by intro h9x; exact h9x : have h9x : mlenH y m = if m = 12 ∧ leapH y = false then 29 else if m = 8 ∧ ydaysH y % 10 ≠ 5 then 29 else if m = 9 ∧ ydaysH y % 10 = 3 then 29 else 30 := (by
  unfold mlenH; rw [if_neg (fun c => by have := (mlen_in h).mpr c; cases this)]
 ); mlenH y m = if m = 12 ∧ leapH y = false then 29 else if m = 8 ∧ ydaysH y % 10 ≠ 5 then 29 else if m = 9 ∧ ydaysH y % 10 = 3 then 29 else 30)
theorem mlen_2 (h : ([2, 4, 6, 10, 13].any fun x => x == m) = false) (h1 : m = 12) (h2 : leapH y = true) : 30 = mlenH y m :=
 (by intro h9x; exact h9x : have h9x : 30 = mlenH y m := (by
  rw [mlen_no h, if_neg (fun c => by rw [h2] at c; cases c.2), if_neg (by omega), if_neg (by omega)]
 ); 30 = mlenH y m)
theorem mlen_3 (h : ([2, 4, 6, 10, 13].any fun x => x == m) = false) (h1 : m = 12) (h2 : leapH y = false) : 29 = mlenH y m :=
 (by intro h9x; exact h9x : have h9x : 29 = mlenH y m := (by
  rw [mlen_no h, if_pos ⟨h1, h2⟩]
 ); 29 = mlenH y m)
theorem mlen_4 (h : ([2, 4, 6, 10, 13].any fun x => x == m) = false) (h1 : ¬ m = 12) (h2 : m = 8) (h3 : 4 * ydaysH y % (4 * 10) = 4 * 5) : 30 = mlenH y m :=
 (by intro h9x; exact h9x : have h9x : 30 = mlenH y m := (by
  rw [mlen_no h, if_neg (fun c => h1 c.1), if_neg (by omega), if_neg (by omega)]
 ); 30 = mlenH y m)
theorem mlen_5 (h : ([2, 4, 6, 10, 13].any fun x => x == m) = false) (h1 : ¬ m = 12) (h2 : m = 8) (h3 : ¬ 4 * ydaysH y % (4 * 10) = 4 * 5) : 29 = mlenH y m :=
 (by intro h9x; exact h9x : have h9x : 29 = mlenH y m := (by
  rw [mlen_no h, if_neg (fun c => h1 c.1), if_pos (by omega)]
 ); 29 = mlenH y m)
theorem mlen_6 (h : ([2, 4, 6, 10, 13].any fun x => x == m) = false) (h1 : ¬ m = 12) (h2 : ¬ m = 8) (h4 : m = 9) (h3 : 4 * ydaysH y % (4 * 10) = 4 * 3) : 29 = mlenH y m :=
 (by intro h9x; exact h9x : have h9x : 29 = mlenH y m := (by
  rw [mlen_no h, if_neg (fun c => h1 c.1), if_neg (by omega), if_pos (by omega)]
 ); 29 = mlenH y m)
theorem mlen_7 (h : ([2, 4, 6, 10, 13].any fun x => x == m) = false) (h1 : ¬ m = 12) (h2 : ¬ m = 8) (h4 : m = 9) (h3 : ¬ 4 * ydaysH y % (4 * 10) = 4 * 3) : 30 = mlenH y m :=
 (by intro h9x; exact h9x : have h9x : 30 = mlenH y m := (by
  rw [mlen_no h, if_neg (fun c => h1 c.1), if_neg (by omega), if_neg (by omega)]
 ); 30 = mlenH y m)
theorem mlen_8 (h : ([2, 4, 6, 10, 13].any fun x => x == m) = false) (h1 : ¬ m = 12) (h2 : ¬ m = 8) (h4 : ¬ m = 9) : 30 = mlenH y m :=
 (by intro h9x; exact h9x : have h9x : 30 = mlenH y m := (by
  rw [mlen_no h, if_neg (fun c => h1 c.1), if_neg (by omega), if_neg (by omega)]
 ); 30 = mlenH y m)
end
end AK
namespace AK
/-- the days of the first n months, from month 1 -/
def cumM (y : Int) : Nat → Int
  | 0 => 0
  | n + 1 => cumM y n + mlenH y ((n : Int) + 1)
/-- the days of the months before month k, from month 1 (13 months at most) -/
def cumTo (y k : Int) : Int := cumM y (min (k - 1).toNat 13)
theorem cumM_range (y : Int) : ∀ n : Nat, 29 * (n : Int) ≤ cumM y n ∧ cumM y n ≤ 30 * n
  | 0 => by simp [cumM]
  | n + 1 => by
    have ih := cumM_range y n
    have h := mlenH_range y ((n : Int) + 1)
    unfold cumM
    omega
theorem cumTo_range (y k : Int) : 0 ≤ cumTo y k ∧ cumTo y k ≤ 400 :=
 (by intro h9x; exact h9x : have h9x : 0 ≤ cumTo y k ∧ cumTo y k ≤ 400 := (by
  unfold cumTo
  have h := cumM_range y (min (k - 1).toNat 13)
  omega
 ); 0 ≤ cumTo y k ∧ cumTo y k ≤ 400)
theorem cumTo_succ (y k : Int) (h1 : 1 ≤ k) (h2 : k ≤ 13) : cumTo y (k + 1) = cumTo y k + mlenH y k :=
 (by intro h9x; exact h9x : have h9x : cumTo y (k + 1) = cumTo y k + mlenH y k := (by
  unfold cumTo
  have e1 : min (k + 1 - 1).toNat 13 = min (k - 1).toNat 13 + 1 := by omega
  have e2 : ((min (k - 1).toNat 13 : Nat) : Int) + 1 = k := by omega
  rw [e1]
  show cumM y _ + mlenH y _ = _
  rw [e2]
 ); cumTo y (k + 1) = cumTo y k + mlenH y k)
def monsH (y : Int) : Int := if leapH y = true then 13 else 12
def offH (y m : Int) : Int := if m < 7 then (cumTo y (monsH y + 1) - cumTo y 7) + cumTo y m else cumTo y m - cumTo y 7
/-- the midnight's day of a Hebrew date -/
def jdH (y m d : Int) : Int := 347996 + nyH y + offH y m + d
theorem offH_range (y m : Int) : -400 ≤ offH y m ∧ offH y m ≤ 800 :=
 (by intro h9x; exact h9x : have h9x : -400 ≤ offH y m ∧ offH y m ≤ 800 := (by
  have h1 := cumTo_range y (monsH y + 1)
  have h2 := cumTo_range y 7
  have h3 := cumTo_range y m
  unfold offH
  split <;> omega
 ); -400 ≤ offH y m ∧ offH y m ≤ 800)
end AK
namespace AK
theorem monsH_range (y : Int) : 12 ≤ monsH y ∧ monsH y ≤ 13 := by unfold monsH; split <;> omega
end AK
end

section
set_option maxRecDepth 100000
namespace AK
/-- the parts of the day left at the year's first conjunction -/
def partH (y : Int) : Int := (12084 + 13753 * molad y) % 25920
def postH (y : Int) : Int := if 3 * (dayH y + 1) % 7 < 3 then 1 else 0
theorem dly1_post (y : Int) : dly1 y = dayH y + postH y :=
 (by intro h9x; exact h9x : have h9x : dly1 y = dayH y + postH y := (by
  unfold dly1 postH
  split <;> omega
 ); dly1 y = dayH y + postH y)
theorem post_iff (y : Int) : (postH y = 0 ∨ postH y = 1) ∧ (postH y = 1 ↔ (dayH y % 7 = 2 ∨ dayH y % 7 = 4 ∨ dayH y % 7 = 6)) :=
 (by intro h9x; exact h9x : have h9x : (postH y = 0 ∨ postH y = 1) ∧ (postH y = 1 ↔ (dayH y % 7 = 2 ∨ dayH y % 7 = 4 ∨ dayH y % 7 = 6)) := (by
  unfold postH
  generalize dayH y = D
  obtain ⟨k, r, rfl, h⟩ : ∃ k r : Int, D = 7 * k + r ∧ (r = 0 ∨ r = 1 ∨ r = 2 ∨ r = 3 ∨ r = 4 ∨ r = 5 ∨ r = 6) := ⟨D / 7, D % 7, by omega, by omega⟩
  rcases h with rfl | rfl | rfl | rfl | rfl | rfl | rfl <;> split <;> omega
 ); (postH y = 0 ∨ postH y = 1) ∧ (postH y = 1 ↔ (dayH y % 7 = 2 ∨ dayH y % 7 = 4 ∨ dayH y % 7 = 6)))
theorem by19 (y : Int) : ∃ k r : Int, y = 19 * k + r ∧ (r = 0 ∨ r = 1 ∨ r = 2 ∨ r = 3 ∨ r = 4 ∨ r = 5 ∨ r = 6 ∨ r = 7 ∨ r = 8 ∨ r = 9 ∨ r = 10 ∨ r = 11 ∨ r = 12 ∨ r = 13 ∨ r = 14 ∨ r = 15 ∨ r = 16 ∨ r = 17 ∨ r = 18) := ⟨y / 19, y % 19, by omega, by omega⟩
theorem molad_step (y : Int) : (leapH y = false → molad (y + 1) = molad y + 12) ∧ (leapH y = true → molad (y + 1) = molad y + 13) :=
 (by intro h9x; exact h9x : have h9x : (leapH y = false → molad (y + 1) = molad y + 12) ∧ (leapH y = true → molad (y + 1) = molad y + 13) := (by
  have h := leapH_iff y
  have key : ((y * 7 + 1) % 19 < 7 → molad (y + 1) = molad y + 13) ∧ (¬ (y * 7 + 1) % 19 < 7 → molad (y + 1) = molad y + 12) := by
    unfold molad
    obtain ⟨k, r, rfl, hr⟩ := by19 y
    rcases hr with rfl | rfl | rfl | rfl | rfl | rfl | rfl | rfl | rfl | rfl | rfl | rfl | rfl | rfl | rfl | rfl | rfl | rfl | rfl <;> omega
  exact ⟨fun hl => key.2 (fun c => by rw [h.mpr c] at hl; cases hl), fun hl => key.1 (h.mp hl)⟩
 ); (leapH y = false → molad (y + 1) = molad y + 12) ∧ (leapH y = true → molad (y + 1) = molad y + 13))
theorem leap_next (y : Int) : leapH y = true → leapH (y + 1) = false :=
 (by intro h9x; exact h9x : have h9x : leapH y = true → leapH (y + 1) = false := (by
  intro h
  have h1 := (leapH_iff y).mp h
  cases h2 : leapH (y + 1) with
  | false => rfl
  | true =>
    exfalso
    have h3 := (leapH_iff (y + 1)).mp h2
    obtain ⟨k, r, rfl, hr⟩ := by19 y
    rcases hr with rfl | rfl | rfl | rfl | rfl | rfl | rfl | rfl | rfl | rfl | rfl | rfl | rfl | rfl | rfl | rfl | rfl | rfl | rfl <;> omega
 ); leapH y = true → leapH (y + 1) = false)
theorem part_range (y : Int) : 0 ≤ partH y ∧ partH y < 25920 := by unfold partH; omega
theorem day_step (y : Int) : ∃ c : Int, (c = 0 ∨ c = 1) ∧ (leapH y = false → dayH (y + 1) = dayH y + 354 + c ∧ partH (y + 1) = partH y + 9516 - 25920 * c) ∧ (leapH y = true → dayH (y + 1) = dayH y + 383 + c ∧ partH (y + 1) = partH y + 23269 - 25920 * c) :=
 (by intro h9x; exact h9x : have h9x : ∃ c : Int, (c = 0 ∨ c = 1) ∧ (leapH y = false → dayH (y + 1) = dayH y + 354 + c ∧ partH (y + 1) = partH y + 9516 - 25920 * c) ∧ (leapH y = true → dayH (y + 1) = dayH y + 383 + c ∧ partH (y + 1) = partH y + 23269 - 25920 * c) := (by
  have hm := molad_step y
  have hr := part_range y
  have hr1 := part_range (y + 1)
  unfold dayH
  unfold partH at hr hr1 ⊢
  generalize molad y = M at *
  generalize molad (y + 1) = M' at *
  cases hl : leapH y with
  | false =>
    have := hm.1 hl
    subst this
    refine ⟨(12084 + 13753 * (M + 12)) / 25920 - (12084 + 13753 * M) / 25920 - 6, by omega, fun _ => by omega, fun c => by cases c⟩
  | true =>
    have := hm.2 hl
    subst this
    refine ⟨(12084 + 13753 * (M + 13)) / 25920 - (12084 + 13753 * M) / 25920 - 6, by omega, fun c => (by cases c), fun _ => by omega⟩
 ); ∃ c : Int, (c = 0 ∨ c = 1) ∧ (leapH y = false → dayH (y + 1) = dayH y + 354 + c ∧ partH (y + 1) = partH y + 9516 - 25920 * c) ∧ (leapH y = true → dayH (y + 1) = dayH y + 383 + c ∧ partH (y + 1) = partH y + 23269 - 25920 * c))
def gapH (y : Int) : Int := dly1 (y + 1) - dly1 y
theorem gap_range (y : Int) : (leapH y = false → 353 ≤ gapH y ∧ gapH y ≤ 356) ∧ (leapH y = true → 382 ≤ gapH y ∧ gapH y ≤ 385) :=
 (by intro h9x; exact h9x : have h9x : (leapH y = false → 353 ≤ gapH y ∧ gapH y ≤ 356) ∧ (leapH y = true → 382 ≤ gapH y ∧ gapH y ≤ 385) := (by
  obtain ⟨c, hc, h1, h2⟩ := day_step y
  have p0 := post_iff y
  have p1 := post_iff (y + 1)
  unfold gapH
  rw [dly1_post, dly1_post]
  constructor
  · intro hl; have := h1 hl; omega
  · intro hl; have := h2 hl; omega
 ); (leapH y = false → 353 ≤ gapH y ∧ gapH y ≤ 356) ∧ (leapH y = true → 382 ≤ gapH y ∧ gapH y ≤ 385))
theorem gap_356 (y : Int) (h : gapH y = 356) : leapH y = false ∧ dayH y % 7 = 1 ∧ 16404 ≤ partH y ∧ postH y = 0 ∧ postH (y + 1) = 1 :=
 (by intro h9x; exact h9x : have h9x : leapH y = false ∧ dayH y % 7 = 1 ∧ 16404 ≤ partH y ∧ postH y = 0 ∧ postH (y + 1) = 1 := (by
  have hg := gap_range y
  obtain ⟨c, hc, h1, h2⟩ := day_step y
  have p0 := post_iff y
  have p1 := post_iff (y + 1)
  have r1 := part_range (y + 1)
  cases hl : leapH y with
  | true => have := hg.2 hl; omega
  | false =>
    have := h1 hl
    unfold gapH at h
    rw [dly1_post, dly1_post] at h
    refine ⟨rfl, ?_, ?_, ?_, ?_⟩ <;> omega
 ); leapH y = false ∧ dayH y % 7 = 1 ∧ 16404 ≤ partH y ∧ postH y = 0 ∧ postH (y + 1) = 1)
theorem gap_382 (y : Int) (h : gapH y = 382) : leapH y = true ∧ postH y = 1 ∧ postH (y + 1) = 0 :=
 (by intro h9x; exact h9x : have h9x : leapH y = true ∧ postH y = 1 ∧ postH (y + 1) = 0 := (by
  have hg := gap_range y
  obtain ⟨c, hc, h1, h2⟩ := day_step y
  have p0 := post_iff y
  have p1 := post_iff (y + 1)
  cases hl : leapH y with
  | false => have := hg.1 hl; omega
  | true =>
    have := h2 hl
    unfold gapH at h
    rw [dly1_post, dly1_post] at h
    refine ⟨rfl, ?_, ?_⟩ <;> omega
 ); leapH y = true ∧ postH y = 1 ∧ postH (y + 1) = 0)
theorem before_356 (y : Int) (h : gapH (y + 1) = 356) : (leapH y = false → gapH y = 353) ∧ (leapH y = true → gapH y = 383) :=
 (by intro h9x; exact h9x : have h9x : (leapH y = false → gapH y = 353) ∧ (leapH y = true → gapH y = 383) := (by
  obtain ⟨_, g1, g2, g3, _⟩ := gap_356 (y + 1) h
  obtain ⟨c, hc, h1, h2⟩ := day_step y
  have p0 := post_iff y
  have r0 := part_range y
  unfold gapH
  rw [dly1_post, dly1_post, g3]
  constructor
  · intro hl
    have := h1 hl
    have hc0 : c = 0 := by omega
    subst hc0
    omega
  · intro hl
    have := h2 hl
    rcases hc with rfl | rfl <;> omega
 ); (leapH y = false → gapH y = 353) ∧ (leapH y = true → gapH y = 383))
theorem dly2_gap (y : Int) : dly2 y = if gapH y = 356 then 2 else if gapH (y - 1) = 382 then 1 else 0 :=
 (by intro h9x; exact h9x : have h9x : dly2 y = if gapH y = 356 then 2 else if gapH (y - 1) = 382 then 1 else 0 := (by
  unfold dly2 gapH
  have e : y - 1 + 1 = y := by omega
  rw [e]
 ); dly2 y = if gapH y = 356 then 2 else if gapH (y - 1) = 382 then 1 else 0)
theorem ydays_gap (y : Int) : ydaysH y = gapH y + dly2 (y + 1) - dly2 y :=
 (by intro h9x; exact h9x : have h9x : ydaysH y = gapH y + dly2 (y + 1) - dly2 y := (by
  unfold ydaysH nyH gapH; omega
 ); ydaysH y = gapH y + dly2 (y + 1) - dly2 y)
/-- the lengths that a Hebrew year can have -/
theorem ydays_range (y : Int) : (leapH y = false → 353 ≤ ydaysH y ∧ ydaysH y ≤ 355) ∧ (leapH y = true → 383 ≤ ydaysH y ∧ ydaysH y ≤ 385) :=
 (by intro h9x; exact h9x : have h9x : (leapH y = false → 353 ≤ ydaysH y ∧ ydaysH y ≤ 355) ∧ (leapH y = true → 383 ≤ ydaysH y ∧ ydaysH y ≤ 385) := (by
  rw [ydays_gap, dly2_gap, dly2_gap]
  have e : y + 1 - 1 = y := by omega
  have e2 : y - 1 + 1 = y := by omega
  rw [e]
  have hg := gap_range y
  have b1 := before_356 y
  have g1 := gap_356 y
  have g2 := gap_356 (y + 1)
  have k1 := gap_382 y
  have k0 := gap_382 (y - 1)
  rw [e2] at k0
  have ln := leap_next (y - 1)
  rw [e2] at ln
  have p0 := post_iff y
  have hpost : gapH y = 353 → postH y = 1 ∨ leapH y = true := by
    intro hq
    cases hl : leapH y with
    | true => exact .inr rfl
    | false =>
      obtain ⟨c, hc, h1, _⟩ := day_step y
      have := h1 hl
      have p1 := post_iff (y + 1)
      unfold gapH at hq
      rw [dly1_post, dly1_post] at hq
      exact .inl (by omega)
  constructor
  · intro hl
    have hr := hg.1 hl
    by_cases a1 : gapH (y + 1) = 356
    · have c1 := (b1 a1).1 hl
      rw [if_pos a1, if_neg (show ¬ gapH y = 356 by omega)]
      split <;> omega
    · rw [if_neg a1, if_neg (show ¬ gapH y = 382 by omega)]
      by_cases a2 : gapH y = 356
      · rw [if_pos a2]; omega
      · rw [if_neg a2]
        by_cases a3 : gapH (y - 1) = 382
        · rw [if_pos a3]
          have c3 := k0 a3
          have : gapH y ≠ 353 := fun c => by
            rcases hpost c with q | q
            · omega
            · rw [hl] at q; cases q
          omega
        · rw [if_neg a3]; omega
  · intro hl
    have hr := hg.2 hl
    have a3 : ¬ gapH (y - 1) = 382 := fun c => by
      have := ln (k0 c).1
      rw [hl] at this; cases this
    rw [if_neg (show ¬ gapH y = 356 by omega), if_neg a3]
    by_cases a1 : gapH (y + 1) = 356
    · have c1 := (b1 a1).2 hl
      rw [if_pos a1]; omega
    · rw [if_neg a1]
      split <;> omega
 ); (leapH y = false → 353 ≤ ydaysH y ∧ ydaysH y ≤ 355) ∧ (leapH y = true → 383 ≤ ydaysH y ∧ ydaysH y ≤ 385))
/-- the months' lengths make up the year's -/
theorem cum_total (y : Int) : cumTo y (monsH y + 1) = ydaysH y :=
 (by intro h9x; exact h9x : have h9x : cumTo y (monsH y + 1) = ydaysH y := (by
  have hr := ydays_range y
  have s := fun k (h1 : 1 ≤ k) (h2 : k ≤ 13) => cumTo_succ y k h1 h2
  have c1 : cumTo y 1 = 0 := rfl
  have m1 : mlenH y 1 = 30 := by unfold mlenH; simp
  have m2 : mlenH y 2 = 29 := by unfold mlenH; simp
  have m3 : mlenH y 3 = 30 := by unfold mlenH; simp
  have m4 : mlenH y 4 = 29 := by unfold mlenH; simp
  have m5 : mlenH y 5 = 30 := by unfold mlenH; simp
  have m6 : mlenH y 6 = 29 := by unfold mlenH; simp
  have m7 : mlenH y 7 = 30 := by unfold mlenH; simp
  have m10 : mlenH y 10 = 29 := by unfold mlenH; simp
  have m11 : mlenH y 11 = 30 := by unfold mlenH; simp
  have m13 : mlenH y 13 = 29 := by unfold mlenH; simp
  have m8 : mlenH y 8 = if ydaysH y % 10 ≠ 5 then 29 else 30 := by unfold mlenH; simp
  have m9 : mlenH y 9 = if ydaysH y % 10 = 3 then 29 else 30 := by unfold mlenH; simp
  have m12 : mlenH y 12 = if leapH y = false then 29 else 30 := by unfold mlenH; simp
  have s1 := s 1 (by decide) (by decide)
  have s2 := s 2 (by decide) (by decide)
  have s3 := s 3 (by decide) (by decide)
  have s4 := s 4 (by decide) (by decide)
  have s5 := s 5 (by decide) (by decide)
  have s6 := s 6 (by decide) (by decide)
  have s7 := s 7 (by decide) (by decide)
  have s8 := s 8 (by decide) (by decide)
  have s9 := s 9 (by decide) (by decide)
  have s10 := s 10 (by decide) (by decide)
  have s11 := s 11 (by decide) (by decide)
  have s12 := s 12 (by decide) (by decide)
  have s13 := s 13 (by decide) (by decide)
  unfold monsH
  cases hl : leapH y with
  | false =>
    have := hr.1 hl
    rw [hl] at m12
    simp only [if_true] at m12
    rw [if_neg (by decide)]
    have e : ydaysH y = 353 ∨ ydaysH y = 354 ∨ ydaysH y = 355 := by omega
    rcases e with e | e | e <;> rw [e] at m8 m9 ⊢ <;> simp at m8 m9 s1 s2 s3 s4 s5 s6 s7 s8 s9 s10 s11 s12 s13 ⊢ <;> omega
  | true =>
    have := hr.2 hl
    rw [hl] at m12
    simp only [Bool.true_eq_false, if_false] at m12
    rw [if_pos rfl]
    have e : ydaysH y = 383 ∨ ydaysH y = 384 ∨ ydaysH y = 385 := by omega
    rcases e with e | e | e <;> rw [e] at m8 m9 ⊢ <;> simp at m8 m9 s1 s2 s3 s4 s5 s6 s7 s8 s9 s10 s11 s12 s13 ⊢ <;> omega
 ); cumTo y (monsH y + 1) = ydaysH y)
structure IsHDate (y m d : Int) : Prop where
  m1 : 1 ≤ m
  m2 : m ≤ monsH y
  d1 : 1 ≤ d
  d2 : d ≤ mlenH y m
theorem off_7 (y : Int) : offH y 7 = 0 := by unfold offH; rw [if_neg (by decide)]; omega
/-- the next month begins where one ends -/
theorem off_next (y m : Int) (h1 : 1 ≤ m) (h2 : m ≤ 12) (h6 : m ≠ 6) : offH y (m + 1) = offH y m + mlenH y m :=
 (by intro h9x; exact h9x : have h9x : offH y (m + 1) = offH y m + mlenH y m := (by
  have s := cumTo_succ y m h1 (by omega)
  unfold offH
  by_cases h : m < 6
  · rw [if_pos (by omega), if_pos (by omega)]; omega
  · rw [if_neg (by omega), if_neg (by omega)]; omega
 ); offH y (m + 1) = offH y m + mlenH y m)
theorem off_last (y : Int) : offH y 1 = offH y (monsH y) + mlenH y (monsH y) :=
 (by intro h9x; exact h9x : have h9x : offH y 1 = offH y (monsH y) + mlenH y (monsH y) := (by
  have hm := monsH_range y
  have s := cumTo_succ y (monsH y) (by omega) (by omega)
  have c1 : cumTo y 1 = 0 := rfl
  unfold offH
  rw [if_pos (by decide), if_neg (by omega)]; omega
 ); offH y 1 = offH y (monsH y) + mlenH y (monsH y))
theorem off_end (y : Int) : offH y 6 + mlenH y 6 = ydaysH y :=
 (by intro h9x; exact h9x : have h9x : offH y 6 + mlenH y 6 = ydaysH y := (by
  have s := cumTo_succ y 6 (by decide) (by decide)
  have e6 : (6 : Int) + 1 = 7 := rfl
  rw [e6] at s
  have t := cum_total y
  unfold offH
  rw [if_pos (by decide)]; omega
 ); offH y 6 + mlenH y 6 = ydaysH y)
/-- the months follow one another: a later one begins behind an earlier one's end -/
theorem off_mono7 (y : Int) {i m : Int} (h7 : 7 ≤ i) (him : i < m) (hm : m ≤ 13) : offH y i + mlenH y i ≤ offH y m :=
 (by intro h9x; exact h9x : have h9x : offH y i + mlenH y i ≤ offH y m := (by
  obtain ⟨k, rfl⟩ : ∃ k : Nat, m = i + 1 + k := ⟨(m - i - 1).toNat, by omega⟩
  clear him
  induction k with
  | zero => rw [Int.natCast_zero, Int.add_zero, off_next y i (by omega) (by omega) (by omega)]; omega
  | succ k ih =>
    have ih := ih (by omega)
    have e : i + 1 + ((k + 1 : Nat) : Int) = i + 1 + (k : Int) + 1 := by omega
    have hr := mlenH_range y (i + 1 + (k : Int))
    rw [e, off_next y _ (by omega) (by omega) (by omega)]
    omega
 ); offH y i + mlenH y i ≤ offH y m)
theorem off_mono1 (y : Int) {i m : Int} (h1 : 1 ≤ i) (him : i < m) (hm : m ≤ 6) : offH y i + mlenH y i ≤ offH y m :=
 (by intro h9x; exact h9x : have h9x : offH y i + mlenH y i ≤ offH y m := (by
  obtain ⟨k, rfl⟩ : ∃ k : Nat, m = i + 1 + k := ⟨(m - i - 1).toNat, by omega⟩
  clear him
  induction k with
  | zero => rw [Int.natCast_zero, Int.add_zero, off_next y i (by omega) (by omega) (by omega)]; omega
  | succ k ih =>
    have ih := ih (by omega)
    have e : i + 1 + ((k + 1 : Nat) : Int) = i + 1 + (k : Int) + 1 := by omega
    have hr := mlenH_range y (i + 1 + (k : Int))
    rw [e, off_next y _ (by omega) (by omega) (by omega)]
    omega
 ); offH y i + mlenH y i ≤ offH y m)
/-- every month lies in its year: behind its begin .. -/
theorem off_low (y : Int) {m : Int} (h1 : 1 ≤ m) (h2 : m ≤ monsH y) : 0 ≤ offH y m :=
 (by intro h9x; exact h9x : have h9x : 0 ≤ offH y m := (by
  have hm := monsH_range y
  have o7 := off_7 y
  have ol := off_last y
  have rl := mlenH_range y (monsH y)
  have r7 := mlenH_range y 7
  have q1 : 0 ≤ offH y 1 := by
    have := off_mono7 y (i := 7) (m := monsH y) (by omega) (by omega) (by omega)
    omega
  by_cases h : m < 7
  · by_cases h3 : m = 1
    · subst h3; omega
    · have := off_mono1 y (i := 1) (m := m) (by omega) (by omega) (by omega)
      have := mlenH_range y 1
      omega
  · by_cases h3 : m = 7
    · subst h3; omega
    · have := off_mono7 y (i := 7) (m := m) (by omega) (by omega) (by omega)
      omega
 ); 0 ≤ offH y m)
theorem off_high (y : Int) {m : Int} (h1 : 1 ≤ m) (h2 : m ≤ monsH y) : offH y m + mlenH y m ≤ ydaysH y :=
 (by intro h9x; exact h9x : have h9x : offH y m + mlenH y m ≤ ydaysH y := (by
  have hm := monsH_range y
  have oe := off_end y
  have r6 := mlenH_range y 6
  have ol := off_last y
  have q6 : ∀ i : Int, 1 ≤ i → i ≤ 6 → offH y i + mlenH y i ≤ ydaysH y := by
    intro i a b
    by_cases c : i = 6
    · subst c; omega
    · have := off_mono1 y (i := i) (m := 6) (by omega) (by omega) (by omega); omega
  by_cases h : m < 7
  · exact q6 m h1 (by omega)
  · have q := q6 1 (by omega) (by omega)
    have r1 := mlenH_range y 1
    by_cases h3 : m = monsH y
    · subst h3; omega
    · have := off_mono7 y (i := m) (m := monsH y) (by omega) (by omega) (by omega)
      have := mlenH_range y (monsH y)
      omega
 ); offH y m + mlenH y m ≤ ydaysH y)
theorem in_year {y m d : Int} (h : IsHDate y m d) : 347997 + nyH y ≤ jdH y m d ∧ jdH y m d < 347997 + nyH (y + 1) :=
 (by intro h9x; exact h9x : have h9x : 347997 + nyH y ≤ jdH y m d ∧ jdH y m d < 347997 + nyH (y + 1) := (by
  have h1 := off_low y h.m1 h.m2
  have h2 := off_high y h.m1 h.m2
  have e : ydaysH y = nyH (y + 1) - nyH y := rfl
  have := h.d1
  have := h.d2
  unfold jdH
  omega
 ); 347997 + nyH y ≤ jdH y m d ∧ jdH y m d < 347997 + nyH (y + 1))
theorem ny_step (y : Int) : 353 ≤ nyH (y + 1) - nyH y ∧ nyH (y + 1) - nyH y ≤ 385 :=
 (by intro h9x; exact h9x : have h9x : 353 ≤ nyH (y + 1) - nyH y ∧ nyH (y + 1) - nyH y ≤ 385 := (by
  have h := ydays_range y
  have e : ydaysH y = nyH (y + 1) - nyH y := rfl
  cases hl : leapH y with
  | false => have := h.1 hl; omega
  | true => have := h.2 hl; omega
 ); 353 ≤ nyH (y + 1) - nyH y ∧ nyH (y + 1) - nyH y ≤ 385)
theorem ny_mono {i y : Int} (h : i ≤ y) : nyH i ≤ nyH y :=
 (by intro h9x; exact h9x : have h9x : nyH i ≤ nyH y := (by
  obtain ⟨k, rfl⟩ : ∃ k : Nat, y = i + k := ⟨(y - i).toNat, by omega⟩
  clear h
  induction k with
  | zero => rw [Int.natCast_zero, Int.add_zero]; omega
  | succ k ih =>
    have e : i + ((k + 1 : Nat) : Int) = i + (k : Int) + 1 := by omega
    have := ny_step (i + (k : Int))
    rw [e]; omega
 ); nyH i ≤ nyH y)
/-- the year by its first day -/
theorem year_iff {y m d i : Int} (h : IsHDate y m d) : 347997 + nyH i ≤ jdH y m d ↔ i ≤ y :=
 (by intro h9x; exact h9x : have h9x : 347997 + nyH i ≤ jdH y m d ↔ i ≤ y := (by
  have h1 := in_year h
  constructor
  · intro c
    refine Int.not_lt.mp fun g => ?_
    have := ny_mono (i := y + 1) (y := i) (by omega)
    omega
  · intro c
    have := ny_mono c
    omega
 ); 347997 + nyH i ≤ jdH y m d ↔ i ≤ y)
/-- the month by its last day, from 7 on -/
theorem mon_iff7 {y m d i : Int} (h : IsHDate y m d) (h7 : 7 ≤ i) (hi : i ≤ m) : jdH y i (mlenH y i) < jdH y m d ↔ i < m :=
 (by intro h9x; exact h9x : have h9x : jdH y i (mlenH y i) < jdH y m d ↔ i < m := (by
  have hm := monsH_range y
  have := h.m2
  have := h.d1
  have := h.d2
  constructor
  · intro c
    refine Int.not_le.mp fun g => ?_
    have g' : i = m := by omega
    subst g'
    unfold jdH at c
    omega
  · intro c
    have := off_mono7 y h7 c (by omega)
    unfold jdH
    omega
 ); jdH y i (mlenH y i) < jdH y m d ↔ i < m)
theorem mon_iff1 {y m d i : Int} (h : IsHDate y m d) (h1 : 1 ≤ i) (hm6 : m ≤ 6) (hi : i ≤ m) : jdH y i (mlenH y i) < jdH y m d ↔ i < m :=
 (by intro h9x; exact h9x : have h9x : jdH y i (mlenH y i) < jdH y m d ↔ i < m := (by
  have := h.d1
  have := h.d2
  constructor
  · intro c
    refine Int.not_le.mp fun g => ?_
    have g' : i = m := by omega
    subst g'
    unfold jdH at c
    omega
  · intro c
    have := off_mono1 y h1 c hm6
    unfold jdH
    omega
 ); jdH y i (mlenH y i) < jdH y m d ↔ i < m)
theorem first_iff {y m d : Int} (h : IsHDate y m d) : jdH y m d < jdH y 1 1 ↔ 7 ≤ m :=
 (by intro h9x; exact h9x : have h9x : jdH y m d < jdH y 1 1 ↔ 7 ≤ m := (by
  have hm := monsH_range y
  have ol := off_last y
  have := h.m1
  have := h.m2
  have := h.d1
  have := h.d2
  have rl := mlenH_range y (monsH y)
  constructor
  · intro c
    refine Int.not_lt.mp fun g => ?_
    by_cases e : m = 1
    · subst e; unfold jdH at c; omega
    · have := off_mono1 y (i := 1) (m := m) (by omega) (by omega) (by omega)
      have := mlenH_range y 1
      unfold jdH at c; omega
  · intro c
    by_cases e : m = monsH y
    · subst e; unfold jdH; omega
    · have := off_mono7 y (i := m) (m := monsH y) (by omega) (by omega) (by omega)
      unfold jdH; omega
 ); jdH y m d < jdH y 1 1 ↔ 7 ≤ m)
/-- where the search for the year begins -/
theorem guess_low {y m d : Int} (h : IsHDate y m d) (hy : y.natAbs < 2 ^ 17) : ((4 * jdH y m d + 2 - 1391982) * 98496) / 143901404 ≤ y + 1 :=
 (by intro h9x; exact h9x : have h9x : ((4 * jdH y m d + 2 - 1391982) * 98496) / 143901404 ≤ y + 1 := (by
  have h1 := in_year h
  have h2 := dly2_range (y + 1)
  have h3 : nyH (y + 1) = dly1 (y + 1) + dly2 (y + 1) := rfl
  have h4 : dly1 (y + 1) ≤ dayH (y + 1) + 1 := by unfold dly1; split <;> omega
  unfold dayH molad at h4
  omega
 ); ((4 * jdH y m d + 2 - 1391982) * 98496) / 143901404 ≤ y + 1)
theorem guess_high {y m d : Int} (h : IsHDate y m d) (hy : y.natAbs < 2 ^ 17) : y - 1 ≤ ((4 * jdH y m d + 2 - 1391982) * 98496) / 143901404 + 1 :=
 (by intro h9x; exact h9x : have h9x : y - 1 ≤ ((4 * jdH y m d + 2 - 1391982) * 98496) / 143901404 + 1 := (by
  have h1 := in_year h
  have h2 := dly2_range y
  have h3 : nyH y = dly1 y + dly2 y := rfl
  have h4 : dayH y ≤ dly1 y := by unfold dly1; split <;> omega
  unfold dayH molad at h4
  omega
 ); y - 1 ≤ ((4 * jdH y m d + 2 - 1391982) * 98496) / 143901404 + 1)
/-- every day from the first one on has its date -/
theorem date_ex (k : Nat) : ∃ y m d : Int, 1 ≤ y ∧ IsHDate y m d ∧ jdH y m d = 347997 + (k : Int) :=
 (by intro h9x; exact h9x : have h9x : ∃ y m d : Int, 1 ≤ y ∧ IsHDate y m d ∧ jdH y m d = 347997 + (k : Int) := (by
  induction k with
  | zero =>
    refine ⟨1, 7, 1, by decide, ⟨by decide, by decide, by decide, by decide⟩, ?_⟩
    decide +kernel
  | succ k ih =>
    obtain ⟨y, m, d, hy, h, e⟩ := ih
    have hm := monsH_range y
    have h1 := h.m1
    have h2 := h.m2
    have h3 := h.d1
    have h4 := h.d2
    by_cases a : d < mlenH y m
    · exact ⟨y, m, d + 1, hy, ⟨h1, h2, by omega, by omega⟩, by unfold jdH at e ⊢; omega⟩
    · by_cases b : m = 6
      · subst b
        refine ⟨y + 1, 7, 1, by omega, ⟨by decide, by have := monsH_range (y + 1); omega, by decide, by have := mlenH_range (y + 1) 7; omega⟩, ?_⟩
        have o := off_7 (y + 1)
        have oe := off_end y
        have q : ydaysH y = nyH (y + 1) - nyH y := rfl
        unfold jdH at e ⊢
        omega
      · by_cases c : m = monsH y
        · refine ⟨y, 1, 1, hy, ⟨by decide, by omega, by decide, by have := mlenH_range y 1; omega⟩, ?_⟩
          have ol := off_last y
          subst c
          unfold jdH at e ⊢
          omega
        · refine ⟨y, m + 1, 1, hy, ⟨by omega, by omega, by decide, by have := mlenH_range y (m + 1); omega⟩, ?_⟩
          have on := off_next y m h1 (by omega) b
          unfold jdH at e ⊢
          omega
 ); ∃ y m d : Int, 1 ≤ y ∧ IsHDate y m d ∧ jdH y m d = 347997 + (k : Int))
theorem year_bound {y m d : Int} (h : IsHDate y m d) (hy : 1 ≤ y) (hN : jdH y m d < 12400000) : y ≤ 34000 :=
 (by intro h9x; exact h9x : have h9x : y ≤ 34000 := (by
  have h1 := in_year h
  have h2 := dly2_range y
  have h3 : nyH y = dly1 y + dly2 y := rfl
  have h4 : dayH y ≤ dly1 y := by unfold dly1; split <;> omega
  unfold dayH molad at h4
  omega
 ); y ≤ 34000)
end AK
namespace AK
section
variable {N y m d i x z yr mo : Int}
theorem x_is (hx : x = 4 * ((4 * N + 2) / 4) + 2) : x = 4 * N + 2 := by omega
theorem yl_turn (h : IsHDate y m d) (hN : N = jdH y m d) (hx : x = 4 * ((4 * N + 2) / 4) + 2) (hc : 4 * (347997 + nyH i) + 2 ≤ x) : i ≤ y :=
  (year_iff h).mp (by omega)
theorem yl_exit (h : IsHDate y m d) (hN : N = jdH y m d) (hx : x = 4 * ((4 * N + 2) / 4) + 2) (hc : ¬ 4 * (347997 + nyH i) + 2 ≤ x) (h1 : yr = i - 1) (h2 : i ≤ y + 1) : y = yr :=
 (by intro h9x; exact h9x : have h9x : y = yr := (by
  have := mt (year_iff (i := i) h).mpr (by omega)
  omega
 ); y = yr)
theorem ml_start7 (h : IsHDate y m d) (hN : N = jdH y m d) (hx : x = 4 * ((4 * N + 2) / 4) + 2) (hc : x < 4 * jdH y 1 1 + 2) : 7 ≤ m :=
  (first_iff h).mp (by omega)
theorem ml_start1 (h : IsHDate y m d) (hN : N = jdH y m d) (hx : x = 4 * ((4 * N + 2) / 4) + 2) (hc : ¬ x < 4 * jdH y 1 1 + 2) : m < 7 :=
 (by intro h9x; exact h9x : have h9x : m < 7 := (by
  have := mt (first_iff h).mpr (by omega)
  omega
 ); m < 7)
theorem ml_iff (h : IsHDate y m d) (hN : N = jdH y m d) (hx : x = 4 * ((4 * N + 2) / 4) + 2) (h2 : 1 ≤ i) (h3 : i ≤ m) (h4 : 7 ≤ m → 7 ≤ i) (hz : z = mlenH y i) : 4 * jdH y i z + 2 < x ↔ i < m :=
 (by intro h9x; exact h9x : have h9x : 4 * jdH y i z + 2 < x ↔ i < m := (by
  subst hz
  by_cases g : 7 ≤ m
  · have := mon_iff7 h (h4 g) h3
    omega
  · have := mon_iff1 h h2 (by omega) h3
    omega
 ); 4 * jdH y i z + 2 < x ↔ i < m)
theorem ml_turn (h : IsHDate y m d) (hN : N = jdH y m d) (hx : x = 4 * ((4 * N + 2) / 4) + 2) (hc : 4 * jdH y i z + 2 < x) (hz : z = mlenH y i) (h2 : 1 ≤ i) (h3 : i ≤ m) (h4 : 7 ≤ m → 7 ≤ i) : i < m := (ml_iff h hN hx h2 h3 h4 hz).mp hc
theorem ml_exit (h : IsHDate y m d) (hN : N = jdH y m d) (hx : x = 4 * ((4 * N + 2) / 4) + 2) (hc : ¬ 4 * jdH y i z + 2 < x) (hz : z = mlenH y i) (h1 : mo = i) (h2 : 1 ≤ i) (h3 : i ≤ m) (h4 : 7 ≤ m → 7 ≤ i) : m = mo :=
 (by intro h9x; exact h9x : have h9x : m = mo := (by
  have := mt (ml_iff h hN hx h2 h3 h4 hz).mpr hc
  omega
 ); m = mo)
end
theorem jdH_range {y m d : Int} (h : y.natAbs < 2 ^ 17) (hd : 0 ≤ d ∧ d ≤ 100) : (jdH y m d).natAbs < 2 ^ 29 :=
 (by intro h9x; exact h9x : have h9x : (jdH y m d).natAbs < 2 ^ 29 := (by
  have h1 := nyH_range (y := y) (by omega)
  have h2 := offH_range y m
  unfold jdH; omega
 ); (jdH y m d).natAbs < 2 ^ 29)
end AK
end

section
open PySem PySem.Float64 PySem.Flt
set_option maxRecDepth 100000
namespace AK

/-- the double of a/4 -/
def F (a : Int) : UInt64 := ofFrac (decide (a < 0)) a.natAbs 4

theorem repr_ex (n c : Nat) (hn : n < 2 ^ 53) (hc : 53 ≤ c) (hc2 : c ≤ 1500) : ∃ t, t < infMag ∧ V t = n * 2 ^ c :=
 (by intro h9x; exact h9x : have h9x : ∃ t, t < infMag ∧ V t = n * 2 ^ c := (by
  by_cases h0 : n = 0
  · subst h0
    refine ⟨0, by decide, ?_⟩
    unfold V; simp
  · -- normalise
    have hl : n.log2 < 53 := (Nat.log2_lt h0).mpr hn
    have h1 : 2 ^ n.log2 ≤ n := Nat.log2_self_le h0
    have h2 : n < 2 ^ (n.log2 + 1) := Nat.lt_log2_self
    generalize hg : n.log2 = l at *
    have e1 : (2 : Nat) ^ 52 = 2 ^ l * 2 ^ (52 - l) := by rw [← Nat.pow_add]; congr 1; omega
    have e2 : (2 : Nat) ^ 53 = 2 ^ (l + 1) * 2 ^ (52 - l) := by rw [← Nat.pow_add]; congr 1; omega
    have q1 : 2 ^ 52 ≤ n * 2 ^ (52 - l) := by rw [e1]; exact Nat.mul_le_mul_right _ h1
    have q2 : n * 2 ^ (52 - l) < 2 ^ 53 := by rw [e2]; exact Nat.mul_lt_mul_of_pos_right h2 (Nat.two_pow_pos _)
    have hv := V_at (k := c - (52 - l)) (q := n * 2 ^ (52 - l)) (by omega) (.inl q1)
    refine ⟨_, ?_, hv.trans ?_⟩
    · unfold infMag
      have : (c - (52 - l)) * 2 ^ 52 ≤ 1500 * 2 ^ 52 := Nat.mul_le_mul_right _ (by omega)
      omega
    · rw [Nat.mul_assoc, ← Nat.pow_add]; congr 2; omega
 ); ∃ t, t < infMag ∧ V t = n * 2 ^ c)
theorem dist_self (a : Nat) : dist a a = 0 := by unfold dist; omega
theorem dist_zero {a b : Nat} (h : dist a b = 0) : a = b := by unfold dist at h; omega
theorem V_inj {t t' : Nat} (h : V t = V t') : t = t' :=
 (by intro h9x; exact h9x : have h9x : t = t' := (by
  rcases Nat.lt_trichotomy t t' with g | g | g
  · have := V_lt g; omega
  · exact g
  · have := V_lt g; omega
 ); t = t')
theorem big_lt {n c : Nat} (hn : n < 2 ^ 53) (hc : c ≤ 1500) : 2 * (n * 2 ^ c) < (2 ^ 54 - 1) * 2 ^ 2045 :=
 (by intro h9x; exact h9x : have h9x : 2 * (n * 2 ^ c) < (2 ^ 54 - 1) * 2 ^ 2045 := (by
  have h1 : 2 ^ c ≤ 2 ^ 1500 := Nat.pow_le_pow_right (by decide) hc
  have h2 : n * 2 ^ c ≤ 2 ^ 53 * 2 ^ 1500 := Nat.mul_le_mul (Nat.le_of_lt hn) h1
  have h3 : 2 * (2 ^ 53 * 2 ^ 1500) < (2 ^ 54 - 1) * 2 ^ 2045 := by decide +kernel
  omega
 ); 2 * (n * 2 ^ c) < (2 ^ 54 - 1) * 2 ^ 2045)
theorem right_lt {r : UInt64} {neg : Bool} {W D t : Nat} (hD : 0 < D) (hr : r = pack neg t) (hle : t ≤ infMag) (hiff : t = infMag ↔ D * ((2 ^ 54 - 1) * 2 ^ 2045) ≤ 2 * W)
    {n c : Nat} (hn : n < 2 ^ 53) (hc : c ≤ 1500) (hW : W ≤ D * (n * 2 ^ c)) : t < infMag :=
 (by intro h9x; exact h9x : have h9x : t < infMag := (by
  refine Nat.lt_of_le_of_ne hle fun e => ?_
  have h1 := hiff.mp e
  have h2 := big_lt hn hc
  have h3 : D * (2 * (n * 2 ^ c)) < D * ((2 ^ 54 - 1) * 2 ^ 2045) := Nat.mul_lt_mul_of_pos_left h2 hD
  have h4 : D * (2 * (n * 2 ^ c)) = 2 * (D * (n * 2 ^ c)) := by ac_rfl
  omega
 ); t < infMag)
/-- exact: what is rounded is a number of the format -/
theorem right_exact {r : UInt64} {neg : Bool} {W D n c : Nat} (h : Right r neg W D) (hD : 0 < D) (hn : n < 2 ^ 53) (hc : 53 ≤ c) (hc2 : c ≤ 1500) (hW : W = D * (n * 2 ^ c)) :
    ∃ t, r = pack neg t ∧ t < infMag ∧ V t = n * 2 ^ c :=
 (by intro h9x; exact h9x : have h9x : ∃ t, r = pack neg t ∧ t < infMag ∧ V t = n * 2 ^ c := (by
  obtain ⟨t, hr, hle, hiff, hnear⟩ := h
  have hlt := right_lt hD hr hle hiff hn hc2 (Nat.le_of_eq hW)
  obtain ⟨t', ht', hV⟩ := repr_ex n c hn hc hc2
  have h1 := (hnear hlt t').1
  rw [hV, hW, dist_self] at h1
  have h2 := dist_zero (Nat.le_zero.mp h1)
  have h3 : V t = n * 2 ^ c := (Nat.eq_of_mul_eq_mul_left hD h2).symm
  exact ⟨t, hr, hlt, h3⟩
 ); ∃ t, r = pack neg t ∧ t < infMag ∧ V t = n * 2 ^ c)
theorem right_unique {r r' : UInt64} {neg : Bool} {W D W' D' n c : Nat} (h : Right r neg W D) (h' : Right r' neg W' D') (hD : 0 < D) (hD' : 0 < D') (hn : n < 2 ^ 53) (hc : 53 ≤ c) (hc2 : c ≤ 1500)
    (hW : W = D * (n * 2 ^ c)) (hW' : W' = D' * (n * 2 ^ c)) : r = r' :=
 (by intro h9x; exact h9x : have h9x : r = r' := (by
  obtain ⟨t, hr, _, hV⟩ := right_exact h hD hn hc hc2 hW
  obtain ⟨t', hr', _, hV'⟩ := right_exact h' hD' hn hc hc2 hW'
  rw [hr, hr', V_inj (hV.trans hV'.symm)]
 ); r = r')
theorem F_right (a : Int) : Right (F a) (decide (a < 0)) (a.natAbs * 2 ^ 1072) 1 :=
  ofFrac_right (by decide) (by rw [show (2 : Nat) ^ 1074 = 2 ^ 1072 * 4 from by rw [show (4 : Nat) = 2 ^ 2 from rfl, ← Nat.pow_add]]; generalize (2 : Nat) ^ 1072 = K; rw [Nat.mul_one, Nat.mul_assoc]) (by decide)

theorem p1072 : (53 : Nat) ≤ 1072 ∧ (1072 : Nat) ≤ 1500 := by decide
theorem F_pack {a : Int} (h : a.natAbs < 2 ^ 53) : ∃ t, F a = pack (decide (a < 0)) t ∧ t < infMag ∧ V t = a.natAbs * 2 ^ 1072 :=
  right_exact (F_right a) (by decide) h p1072.1 p1072.2 (by rw [Nat.one_mul])

theorem sgn_abs (a : Int) (K : Nat) : sgn (decide (a < 0)) (a.natAbs * K) = a * (K : Int) :=
 (by intro h9x; exact h9x : have h9x : sgn (decide (a < 0)) (a.natAbs * K) = a * (K : Int) := (by
  rw [sgn_mul]
  congr 1
  unfold sgn
  by_cases h : a < 0
  · simp only [decide_eq_true h, if_true]; omega
  · simp only [decide_eq_false h, Bool.false_eq_true, if_false]; omega
 ); sgn (decide (a < 0)) (a.natAbs * K) = a * (K : Int))
theorem F_fin {a : Int} (h : a.natAbs < 2 ^ 53) : ∃ m e, decode (F a) = .fin (decide (a < 0)) m e ∧ val (F a) = a * ((2 ^ 1072 : Nat) : Int) :=
 (by intro h9x; exact h9x : have h9x : ∃ m e, decode (F a) = .fin (decide (a < 0)) m e ∧ val (F a) = a * ((2 ^ 1072 : Nat) : Int) := (by
  obtain ⟨t, hr, hlt, hV⟩ := F_pack h
  obtain ⟨m, e, hd, hv⟩ := decode_pack (decide (a < 0)) hlt
  refine ⟨m, e, by rw [hr]; exact hd, ?_⟩
  rw [hr, val_pack _ hlt, hV, sgn_abs]
 ); ∃ m e, decode (F a) = .fin (decide (a < 0)) m e ∧ val (F a) = a * ((2 ^ 1072 : Nat) : Int))
theorem Kpos : (0 : Int) < ((2 ^ 1072 : Nat) : Int) := Int.ofNat_lt.mpr (Nat.two_pow_pos _)
theorem natAbs_K (a : Int) (K : Nat) : (a * (K : Int)).natAbs = a.natAbs * K := by rw [Int.natAbs_mul, Int.natAbs_natCast]
theorem neg_K {a : Int} {K : Nat} (hK : 0 < K) : decide (a * (K : Int) < 0) = decide (a < 0) :=
 (by intro h9x; exact h9x : have h9x : decide (a * (K : Int) < 0) = decide (a < 0) := (by
  apply decide_eq_decide.mpr
  have hpos : (0 : Int) < (K : Int) := Int.ofNat_lt.mpr hK
  constructor
  · intro h
    by_cases h2 : a < 0
    · exact h2
    · have := Int.mul_nonneg (show 0 ≤ a by omega) (Int.le_of_lt hpos)
      omega
  · intro h
    exact Int.mul_neg_of_neg_of_pos h hpos
 ); decide (a * (K : Int) < 0) = decide (a < 0))
theorem F_zero : F 0 = zero false := by decide +kernel

/-- a rounded value that is exactly c/4 is F c -/
theorem F_of_right {r : UInt64} {c : Int} (h : Right r (decide (c < 0)) (c.natAbs * 2 ^ 1072) 1) (hc : c.natAbs < 2 ^ 53) : r = F c :=
  right_unique h (F_right c) (by decide) (by decide) hc p1072.1 p1072.2 (by rw [Nat.one_mul]) (by rw [Nat.one_mul])

theorem ofInt_F {n : Int} (h : n.natAbs < 2 ^ 50) : ofInt n = F (4 * n) :=
 (by intro h9x; exact h9x : have h9x : ofInt n = F (4 * n) := (by
  have h1 := ofInt_right n
  refine right_unique (n := (4 * n).natAbs) (c := 1072) ?_ (F_right (4 * n)) (D := 1) (by decide) (by decide) (by omega) p1072.1 p1072.2 rfl (by rw [Nat.one_mul])
  rw [Nat.one_mul]
  have e1 : decide (4 * n < 0) = decide (n < 0) := decide_eq_decide.mpr (by omega)
  have e2 : (4 * n).natAbs * 2 ^ 1072 = n.natAbs * 2 ^ 1074 := by
    rw [show (2 : Nat) ^ 1074 = 4 * 2 ^ 1072 from by rw [show (4 : Nat) = 2 ^ 2 from rfl, ← Nat.pow_add]]
    rw [← Nat.mul_assoc]
    congr 1
    omega
  rw [e1, e2]
  exact h1
 ); ofInt n = F (4 * n))
theorem add_F {a b : Int} (ha : a.natAbs < 2 ^ 53) (hb : b.natAbs < 2 ^ 53) (hc : (a + b).natAbs < 2 ^ 53) (hz : a + b = 0 → ¬ (a < 0 ∧ b < 0)) : add (F a) (F b) = F (a + b) :=
 (by intro h9x; exact h9x : have h9x : add (F a) (F b) = F (a + b) := (by
  obtain ⟨m, e, hx, vx⟩ := F_fin ha
  obtain ⟨k, f, hy, vy⟩ := F_fin hb
  have h := add_right hx hy
  rw [vx, vy, ← Int.add_mul] at h
  by_cases h0 : a + b = 0
  · rw [h.1 (by rw [h0, Int.zero_mul]), h0, F_zero]
    have := hz h0
    by_cases g : a < 0
    · have g2 : ¬ b < 0 := fun g2 => this ⟨g, g2⟩
      rw [decide_eq_false g2, Bool.and_false]
    · rw [decide_eq_false g, Bool.false_and]
  · have h1 := h.2 (fun e => by
      rcases Int.mul_eq_zero.mp e with e | e
      · exact h0 e
      · have := Kpos; omega)
    rw [neg_K (Nat.two_pow_pos _), natAbs_K] at h1
    exact F_of_right h1 hc
 ); add (F a) (F b) = F (a + b))
theorem add_F' {a b : Int} (ha : a.natAbs < 2 ^ 52) (hb : b.natAbs < 2 ^ 52) : add (F a) (F b) = F (a + b) := add_F (by omega) (by omega) (by omega) (by omega)

theorem sub_F {a b : Int} (ha : a.natAbs < 2 ^ 52) (hb : b.natAbs < 2 ^ 52) : sub (F a) (F b) = F (a - b) :=
 (by intro h9x; exact h9x : have h9x : sub (F a) (F b) = F (a - b) := (by
  obtain ⟨m, e, hx, vx⟩ := F_fin (a := a) (by omega)
  obtain ⟨k, f, hy, vy⟩ := F_fin (a := b) (by omega)
  have h := sub_right hx hy
  rw [vx, vy, ← Int.sub_mul] at h
  by_cases h0 : a - b = 0
  · rw [h.1 (by rw [h0, Int.zero_mul]), h0, F_zero]
    have : a = b := by omega
    subst this
    cases decide (a < 0) <;> rfl
  · have h1 := h.2 (fun e => by
      rcases Int.mul_eq_zero.mp e with e | e
      · exact h0 e
      · have := Kpos; omega)
    rw [neg_K (Nat.two_pow_pos _), natAbs_K] at h1
    exact F_of_right h1 (by omega)
 ); sub (F a) (F b) = F (a - b))
theorem mul_F {a b c : Int} (ha : 0 ≤ a) (hb : 0 ≤ b) (ha2 : a < 2 ^ 53) (hb2 : b < 2 ^ 53) (hc : a * b = 4 * c) (hc2 : c < 2 ^ 53) : mul (F a) (F b) = F c :=
 (by intro h9x; exact h9x : have h9x : mul (F a) (F b) = F c := (by
  obtain ⟨m, e, hx, vx⟩ := F_fin (a := a) (by omega)
  obtain ⟨k, f, hy, vy⟩ := F_fin (a := b) (by omega)
  have h := mul_right hx hy
  have hab := Int.mul_nonneg ha hb
  have hcn : 0 ≤ c := by omega
  rw [vx, vy, natAbs_K, natAbs_K, decide_eq_false (show ¬ a < 0 by omega), decide_eq_false (show ¬ b < 0 by omega)] at h
  refine right_unique (n := c.natAbs) (c := 1072) h (by simpa [decide_eq_false (show ¬ c < 0 by omega)] using F_right c) (Nat.two_pow_pos _) (by decide) (by omega) p1072.1 p1072.2 ?_ (by rw [Nat.one_mul])
  have e1 : a.natAbs * b.natAbs = 4 * c.natAbs := by
    rw [← Int.natAbs_mul, hc]; omega
  have e2 : (2 : Nat) ^ 1074 = 4 * 2 ^ 1072 := by rw [show (4 : Nat) = 2 ^ 2 from rfl, ← Nat.pow_add]
  rw [e2]
  generalize (2 : Nat) ^ 1072 = K
  calc a.natAbs * K * (b.natAbs * K) = a.natAbs * b.natAbs * (K * K) := by ac_rfl
    _ = 4 * c.natAbs * (K * K) := by rw [e1]
    _ = 4 * K * (c.natAbs * K) := by ac_rfl
 ); mul (F a) (F b) = F c)
theorem cmp_F {a b : Int} (ha : a.natAbs < 2 ^ 53) (hb : b.natAbs < 2 ^ 53) : cmp (F a) (F b) = some (compare a b) :=
 (by intro h9x; exact h9x : have h9x : cmp (F a) (F b) = some (compare a b) := (by
  obtain ⟨m, e, hx, vx⟩ := F_fin ha
  obtain ⟨k, f, hy, vy⟩ := F_fin hb
  rw [cmp_right hx hy, vx, vy]
  congr 1
  have hpos := Kpos
  rcases Int.lt_trichotomy a b with h | h | h
  · rw [Int.compare_eq_lt.mpr h, Int.compare_eq_lt.mpr (Int.mul_lt_mul_of_pos_right h hpos)]
  · subst h; rw [Int.compare_eq_eq.mpr rfl, Int.compare_eq_eq.mpr rfl]
  · rw [Int.compare_eq_gt.mpr h, Int.compare_eq_gt.mpr (Int.mul_lt_mul_of_pos_right h hpos)]
 ); cmp (F a) (F b) = some (compare a b))
theorem cmpInt_F {a : Int} (ha : a.natAbs < 2 ^ 53) (n : Int) : cmpInt (F a) n = some (compare a (4 * n)) :=
 (by intro h9x; exact h9x : have h9x : cmpInt (F a) n = some (compare a (4 * n)) := (by
  obtain ⟨m, e, hx, vx⟩ := F_fin ha
  rw [cmpInt_right hx, vx]
  congr 1
  have e1 : n * 2 ^ 1074 = 4 * n * ((2 ^ 1072 : Nat) : Int) := by
    have : ((2 : Int) ^ 1074) = 4 * ((2 ^ 1072 : Nat) : Int) := by
      have hp : ∀ k : Nat, ((2 ^ k : Nat) : Int) = (2 : Int) ^ k := fun k => by simp
      rw [← hp 1074, show (2 : Nat) ^ 1074 = 4 * 2 ^ 1072 from by rw [show (4 : Nat) = 2 ^ 2 from rfl, ← Nat.pow_add], Int.natCast_mul]
      rfl
    rw [this, ← Int.mul_assoc, Int.mul_comm n 4]
  rw [e1]
  have hpos := Kpos
  rcases Int.lt_trichotomy a (4 * n) with h | h | h
  · rw [Int.compare_eq_lt.mpr h, Int.compare_eq_lt.mpr (Int.mul_lt_mul_of_pos_right h hpos)]
  · rw [h, Int.compare_eq_eq.mpr rfl, Int.compare_eq_eq.mpr rfl]
  · rw [Int.compare_eq_gt.mpr h, Int.compare_eq_gt.mpr (Int.mul_lt_mul_of_pos_right h hpos)]
 ); cmpInt (F a) n = some (compare a (4 * n)))
theorem F_finite {a : Int} (h : a.natAbs < 2 ^ 53) : isFinite (F a) = true :=
 (by intro h9x; exact h9x : have h9x : isFinite (F a) = true := (by
  obtain ⟨m, e, hd, _⟩ := F_fin h
  unfold isFinite; rw [hd]
 ); isFinite (F a) = true)
theorem F_notNaN {a : Int} (h : a.natAbs < 2 ^ 53) : isNaN (F a) = false :=
 (by intro h9x; exact h9x : have h9x : isNaN (F a) = false := (by
  obtain ⟨m, e, hd, _⟩ := F_fin h
  unfold isNaN; rw [hd]
 ); isNaN (F a) = false)
theorem F_notInf {a : Int} (h : a.natAbs < 2 ^ 53) : isInf (F a) = false :=
 (by intro h9x; exact h9x : have h9x : isInf (F a) = false := (by
  obtain ⟨m, e, hd, _⟩ := F_fin h
  unfold isInf; rw [hd]
 ); isInf (F a) = false)
theorem K1074 (c : Nat) (h : c ≤ 1074) : ((2 ^ 1074 : Nat) : Int) = ((2 ^ c : Nat) : Int) * ((2 ^ (1074 - c) : Nat) : Int) :=
 (by intro h9x; exact h9x : have h9x : ((2 ^ 1074 : Nat) : Int) = ((2 ^ c : Nat) : Int) * ((2 ^ (1074 - c) : Nat) : Int) := (by
  rw [← Int.natCast_mul, ← Nat.pow_add]
  congr 2
  omega
 ); ((2 ^ 1074 : Nat) : Int) = ((2 ^ c : Nat) : Int) * ((2 ^ (1074 - c) : Nat) : Int))
theorem powc (k : Nat) : (2 : Int) ^ k = ((2 ^ k : Nat) : Int) := by simp
theorem powpos (k : Nat) : (0 : Int) < ((2 ^ k : Nat) : Int) := Int.ofNat_lt.mpr (Nat.two_pow_pos _)

theorem floorOf_val {x : UInt64} {s : Bool} {m : Nat} {e : Int} (h : decode x = .fin s m e) : floorOf s m e = (val x) / ((2 ^ 1074 : Nat) : Int) :=
 (by intro h9x; exact h9x : have h9x : floorOf s m e = (val x) / ((2 ^ 1074 : Nat) : Int) := (by
  have hge := decode_ge h
  rw [val_eq h, sgn_mul]
  unfold floorOf
  split
  · rename_i he
    have e1 : (e + 1074).toNat = e.toNat + 1074 := by omega
    rw [e1, Nat.pow_add, Int.natCast_mul, ← Int.mul_assoc, Int.mul_ediv_cancel _ (Int.ne_of_gt (powpos _)), powc]
  · rename_i he
    have hK := K1074 (e + 1074).toNat (by omega)
    have e1 : 1074 - (e + 1074).toNat = (-e).toNat := by omega
    rw [e1] at hK
    rw [hK, powc, Int.fdiv_eq_ediv_of_nonneg _ (Int.le_of_lt (powpos _)), Int.mul_comm (sgn s m), Int.mul_ediv_mul_of_pos _ _ (powpos _)]
 ); floorOf s m e = (val x) / ((2 ^ 1074 : Nat) : Int))
theorem floorOf_mag {m : Nat} {e : Int} (hge : -1074 ≤ e) : floorOf false m e = ((m * 2 ^ (e + 1074).toNat / 2 ^ 1074 : Nat) : Int) :=
 (by intro h9x; exact h9x : have h9x : floorOf false m e = ((m * 2 ^ (e + 1074).toNat / 2 ^ 1074 : Nat) : Int) := (by
  unfold floorOf
  have hs : sgn false m = (m : Int) := rfl
  rw [hs]
  split
  · rename_i he
    have e1 : (e + 1074).toNat = e.toNat + 1074 := by omega
    rw [e1, Nat.pow_add, ← Nat.mul_assoc, Nat.mul_div_cancel _ (Nat.two_pow_pos _), Int.natCast_mul, powc]
  · rename_i he
    have e1 : (2 : Nat) ^ 1074 = 2 ^ (e + 1074).toNat * 2 ^ (-e).toNat := by rw [← Nat.pow_add]; congr 1; omega
    rw [e1, Nat.mul_comm m, Nat.mul_div_mul_left _ _ (Nat.two_pow_pos _), powc, Int.fdiv_eq_ediv_of_nonneg _ (Int.le_of_lt (powpos _)), Int.natCast_ediv]
 ); floorOf false m e = ((m * 2 ^ (e + 1074).toNat / 2 ^ 1074 : Nat) : Int))
theorem truncOf_val {x : UInt64} {s : Bool} {m : Nat} {e : Int} (h : decode x = .fin s m e) : truncOf s m e = sgn s ((val x).natAbs / 2 ^ 1074) :=
 (by intro h9x; exact h9x : have h9x : truncOf s m e = sgn s ((val x).natAbs / 2 ^ 1074) := (by
  have hge := decode_ge h
  rw [val_natAbs h]
  have h1 := floorOf_mag (m := m) hge
  unfold truncOf ceilOf
  cases s
  · simp only [Bool.false_eq_true, if_false]; rw [h1]; rfl
  · simp only [if_true, Bool.not_true]; rw [h1]; rfl
 ); truncOf s m e = sgn s ((val x).natAbs / 2 ^ 1074))
theorem toInt_floor {x : UInt64} (h : isFinite x = true) : toInt floorOf x = (val x) / ((2 ^ 1074 : Nat) : Int) :=
 (by intro h9x; exact h9x : have h9x : toInt floorOf x = (val x) / ((2 ^ 1074 : Nat) : Int) := (by
  unfold isFinite at h
  cases hd : decode x with
  | fin s m e => rw [toInt_fin hd, floorOf_val hd]
  | nan => rw [hd] at h; cases h
  | inf a => rw [hd] at h; cases h
 ); toInt floorOf x = (val x) / ((2 ^ 1074 : Nat) : Int))
theorem K_four : ((2 ^ 1074 : Nat) : Int) = ((2 ^ 1072 : Nat) : Int) * 4 :=
 (by intro h9x; exact h9x : have h9x : ((2 ^ 1074 : Nat) : Int) = ((2 ^ 1072 : Nat) : Int) * 4 := (by
  rw [K1074 1072 (by decide)]; rfl
 ); ((2 ^ 1074 : Nat) : Int) = ((2 ^ 1072 : Nat) : Int) * 4)
theorem floor_F {a : Int} (h : a.natAbs < 2 ^ 53) : toInt floorOf (F a) = a / 4 :=
 (by intro h9x; exact h9x : have h9x : toInt floorOf (F a) = a / 4 := (by
  obtain ⟨m, e, hd, hv⟩ := F_fin h
  rw [toInt_floor (F_finite h), hv, K_four, Int.mul_comm a, Int.mul_ediv_mul_of_pos _ _ Kpos]
 ); toInt floorOf (F a) = a / 4)
theorem trunc_F {a : Int} (h : a.natAbs < 2 ^ 53) : toInt truncOf (F a) = a.tdiv 4 :=
 (by intro h9x; exact h9x : have h9x : toInt truncOf (F a) = a.tdiv 4 := (by
  obtain ⟨m, e, hd, hv⟩ := F_fin h
  have e1 : (2 : Nat) ^ 1074 = 4 * 2 ^ 1072 := by rw [show (4 : Nat) = 2 ^ 2 from rfl, ← Nat.pow_add]
  rw [toInt_fin hd, truncOf_val hd, hv, natAbs_K, e1, Nat.mul_div_mul_right _ _ (Nat.two_pow_pos _)]
  unfold sgn
  by_cases g : a < 0
  · rw [decide_eq_true g, if_pos rfl]
    obtain ⟨n, rfl⟩ : ∃ n : Nat, a = -(n : Int) := ⟨a.natAbs, by omega⟩
    rw [Int.neg_tdiv, Int.natAbs_neg, Int.natAbs_natCast, Int.ofNat_tdiv]; rfl
  · rw [decide_eq_false g, if_neg (by decide)]
    obtain ⟨n, rfl⟩ : ∃ n : Nat, a = (n : Int) := ⟨a.natAbs, by omega⟩
    rw [Int.natAbs_natCast, Int.ofNat_tdiv]; rfl
 ); toInt truncOf (F a) = a.tdiv 4)
/-- the nearest one lies within any bracket of the format -/
theorem bracket {r : UInt64} {neg : Bool} {W D x y c : Nat} (h : Right r neg W D) (hD : 0 < D) (hx : x < 2 ^ 53) (hy : y < 2 ^ 53) (hc : 53 ≤ c) (hc2 : c ≤ 1500)
    (hl : D * (x * 2 ^ c) ≤ W) (hu : W ≤ D * (y * 2 ^ c)) : ∃ t, r = pack neg t ∧ t < infMag ∧ x * 2 ^ c ≤ V t ∧ V t ≤ y * 2 ^ c :=
 (by intro h9x; exact h9x : have h9x : ∃ t, r = pack neg t ∧ t < infMag ∧ x * 2 ^ c ≤ V t ∧ V t ≤ y * 2 ^ c := (by
  obtain ⟨t, hr, hle, hiff, hnear⟩ := h
  have hlt := right_lt hD hr hle hiff hy hc2 hu
  obtain ⟨t1, _, h1⟩ := repr_ex x c hx hc hc2
  obtain ⟨t2, _, h2⟩ := repr_ex y c hy hc hc2
  have n1 := (hnear hlt t1).1
  have n2 := (hnear hlt t2).1
  rw [h1] at n1
  rw [h2] at n2
  refine ⟨t, hr, hlt, ?_, ?_⟩
  · refine Nat.le_of_not_lt fun g => ?_
    have := Nat.mul_lt_mul_of_pos_left g hD
    unfold dist at n1
    omega
  · refine Nat.le_of_not_lt fun g => ?_
    have := Nat.mul_lt_mul_of_pos_left g hD
    unfold dist at n2
    omega
 ); ∃ t, r = pack neg t ∧ t < infMag ∧ x * 2 ^ c ≤ V t ∧ V t ≤ y * 2 ^ c)
theorem K29 : (2 : Nat) ^ 1074 = 2 ^ 29 * 2 ^ 1045 := by rw [← Nat.pow_add]

theorem quot_core {W D n b K : Nat} (hD : 0 < D) (hb : 0 < b) (hW : W * b = n * (2 ^ 29 * K) * D) (x : Nat) :
    (x * b ≤ n * 2 ^ 29 → D * (x * K) ≤ W) ∧ (n * 2 ^ 29 ≤ x * b → W ≤ D * (x * K)) :=
 (by intro h9x; exact h9x : have h9x : (x * b ≤ n * 2 ^ 29 → D * (x * K) ≤ W) ∧ (n * 2 ^ 29 ≤ x * b → W ≤ D * (x * K)) := (by
  constructor
  · intro h
    refine Nat.le_of_mul_le_mul_right (c := b) ?_ hb
    rw [hW]
    calc D * (x * K) * b = x * b * (K * D) := by ac_rfl
      _ ≤ n * 2 ^ 29 * (K * D) := Nat.mul_le_mul_right _ h
      _ = n * (2 ^ 29 * K) * D := by ac_rfl
  · intro h
    refine Nat.le_of_mul_le_mul_right (c := b) ?_ hb
    rw [hW]
    calc n * (2 ^ 29 * K) * D = n * 2 ^ 29 * (K * D) := by ac_rfl
      _ ≤ x * b * (K * D) := Nat.mul_le_mul_right _ h
      _ = D * (x * K) * b := by ac_rfl
 ); (x * b ≤ n * 2 ^ 29 → D * (x * K) ≤ W) ∧ (n * 2 ^ 29 ≤ x * b → W ≤ D * (x * K)))
/-- what is known of a rounded quotient a/b -/
theorem quot_right {r : UInt64} {a : Int} {W D b : Nat} (h : Right r (decide (a < 0)) W D) (hD : 0 < D) (hb : 0 < b) (hb2 : b ≤ 2 ^ 29) (hW : W * b = a.natAbs * 2 ^ 1074 * D) (hq : a.natAbs < b * 2 ^ 23) :
    isFinite r = true ∧ toInt floorOf r = a / (b : Int) ∧ toInt truncOf r = a.tdiv (b : Int) :=
 (by intro h9x; exact h9x : have h9x : isFinite r = true ∧ toInt floorOf r = a / (b : Int) ∧ toInt truncOf r = a.tdiv (b : Int) := (by
  have hq1 := Nat.div_add_mod a.natAbs b
  have hr1 := Nat.mod_lt a.natAbs hb
  have hq2 : a.natAbs / b < 2 ^ 23 := Nat.div_lt_of_lt_mul hq
  generalize hqq : a.natAbs / b = q at *
  generalize hrr : a.natAbs % b = ρ at *
  rw [K29] at hW
  have core := fun x => quot_core hD hb hW x
  have eqb : q * 2 ^ 29 * b = b * q * 2 ^ 29 := by ac_rfl
  have l0 : D * (q * 2 ^ 29 * 2 ^ 1045) ≤ W := (core (q * 2 ^ 29)).1 (by rw [eqb]; omega)
  have u0 : W ≤ D * (((q + 1) * 2 ^ 29 - 1) * 2 ^ 1045) := by
    refine (core ((q + 1) * 2 ^ 29 - 1)).2 ?_
    have e1 : ((q + 1) * 2 ^ 29 - 1) * b = b * q * 2 ^ 29 + 2 ^ 29 * b - b := by
      rw [Nat.sub_mul, Nat.add_mul, Nat.add_mul, eqb]; omega
    rw [e1]
    omega
  obtain ⟨t, hr, hlt, hlo, hhi⟩ := bracket h hD (x := q * 2 ^ 29) (y := (q + 1) * 2 ^ 29 - 1) (by omega) (by omega) (by decide) (by decide) l0 u0
  obtain ⟨m, e, hd, hv⟩ := decode_pack (decide (a < 0)) hlt
  have hval := val_pack (decide (a < 0)) hlt
  rw [← hr] at hd hval
  have hfin : isFinite r = true := by unfold isFinite; rw [hd]
  have hKp : 0 < 2 ^ 1045 := Nat.two_pow_pos 1045
  have hmag : V t / 2 ^ 1074 = q := by
    rw [K29]
    refine Nat.div_eq_of_lt_le ?_ ?_
    · calc q * (2 ^ 29 * 2 ^ 1045) = q * 2 ^ 29 * 2 ^ 1045 := by ac_rfl
        _ ≤ V t := hlo
    · refine Nat.lt_of_le_of_lt hhi ?_
      calc ((q + 1) * 2 ^ 29 - 1) * 2 ^ 1045 < ((q + 1) * 2 ^ 29) * 2 ^ 1045 := Nat.mul_lt_mul_of_pos_right (by omega) hKp
        _ = (q + 1) * (2 ^ 29 * 2 ^ 1045) := by ac_rfl
  have hna : (val r).natAbs = V t := by rw [hval, sgn_natAbs]
  have hbi : (0 : Int) < (b : Int) := by omega
  refine ⟨hfin, ?_, ?_⟩
  · rw [toInt_floor hfin, hval]
    by_cases g : a < 0
    · -- below nought: the bracket from the other side
      have hvt : (ρ = 0 → V t = q * 2 ^ 1074) ∧ (ρ ≠ 0 → q * 2 ^ 1074 < V t ∧ V t ≤ (q + 1) * 2 ^ 1074) := by
        constructor
        · intro h0
          have u1 : W ≤ D * (q * 2 ^ 29 * 2 ^ 1045) := (core (q * 2 ^ 29)).2 (by rw [eqb]; omega)
          obtain ⟨t', hr', hlt', a1, a2⟩ := bracket h hD (x := q * 2 ^ 29) (y := q * 2 ^ 29) (by omega) (by omega) (by decide) (by decide) l0 u1
          obtain ⟨m', e', hd', hv'⟩ := decode_pack (decide (a < 0)) hlt'
          have hval' := val_pack (decide (a < 0)) hlt'
          have : V t = V t' := by rw [← hna, hr', hval', sgn_natAbs]
          rw [this, K29]
          have : V t' = q * 2 ^ 29 * 2 ^ 1045 := Nat.le_antisymm a2 a1
          rw [this]; ac_rfl
        · intro h0
          have l1 : D * ((q * 2 ^ 29 + 1) * 2 ^ 1045) ≤ W := by
            refine (core (q * 2 ^ 29 + 1)).1 ?_
            rw [Nat.add_mul, eqb]; omega
          obtain ⟨t', hr', hlt', a1, a2⟩ := bracket h hD (x := q * 2 ^ 29 + 1) (y := (q + 1) * 2 ^ 29 - 1) (by omega) (by omega) (by decide) (by decide) l1 u0
          have hval' := val_pack (decide (a < 0)) hlt'
          have e1 : V t = V t' := by rw [← hna, hr', hval', sgn_natAbs]
          rw [e1, K29]
          constructor
          · refine Nat.lt_of_lt_of_le ?_ a1
            calc q * (2 ^ 29 * 2 ^ 1045) = q * 2 ^ 29 * 2 ^ 1045 := by ac_rfl
              _ < (q * 2 ^ 29 + 1) * 2 ^ 1045 := Nat.mul_lt_mul_of_pos_right (by omega) hKp
          · refine Nat.le_trans a2 ?_
            calc ((q + 1) * 2 ^ 29 - 1) * 2 ^ 1045 ≤ ((q + 1) * 2 ^ 29) * 2 ^ 1045 := Nat.mul_le_mul_right _ (by omega)
              _ = (q + 1) * (2 ^ 29 * 2 ^ 1045) := by ac_rfl
      have ha : a = -((b * q + ρ : Nat) : Int) := by omega
      rw [decide_eq_true g]
      have hs : sgn true (V t) = -((V t : Nat) : Int) := rfl
      rw [hs]
      have hKK : (0 : Nat) < 2 ^ 1074 := Nat.two_pow_pos 1074
      by_cases h0 : ρ = 0
      · rw [hvt.1 h0, ha, h0, Nat.add_zero]
        rw [Int.natCast_mul, Int.natCast_mul]
        rw [Int.neg_mul_eq_neg_mul, Int.mul_ediv_cancel _ (Int.ne_of_gt (powpos _)), Int.neg_mul_eq_mul_neg, Int.mul_ediv_cancel_left _ (Int.ne_of_gt hbi)]
      · obtain ⟨b1, b2⟩ := hvt.2 h0
        have r1 : -((V t : Nat) : Int) / ((2 ^ 1074 : Nat) : Int) = -((q : Int) + 1) := by
          generalize (2 : Nat) ^ 1074 = K at *
          have hK0 : (0 : Int) < (K : Int) := by omega
          refine Int.le_antisymm ?_ ?_
          · refine Int.le_of_lt_add_one ?_
            refine Int.ediv_lt_of_lt_mul hK0 ?_
            have : (-((q : Int) + 1) + 1) * (K : Int) = -((q * K : Nat) : Int) := by rw [Int.natCast_mul, show (-((q : Int) + 1) + 1) = -(q : Int) by omega, Int.neg_mul]
            rw [this]
            omega
          · refine Int.le_ediv_of_mul_le hK0 ?_
            have : -((q : Int) + 1) * (K : Int) = -(((q + 1) * K : Nat) : Int) := by rw [Int.natCast_mul, Int.neg_mul]; rfl
            rw [this]
            omega
        rw [r1, ha]
        refine (Int.le_antisymm ?_ ?_).symm
        · refine Int.le_of_lt_add_one ?_
          refine Int.ediv_lt_of_lt_mul hbi ?_
          have : (-((q : Int) + 1) + 1) * (b : Int) = -((b * q : Nat) : Int) := by rw [Int.natCast_mul, show (-((q : Int) + 1) + 1) = -(q : Int) by omega, Int.neg_mul, Int.mul_comm]
          rw [this]
          omega
        · refine Int.le_ediv_of_mul_le hbi ?_
          have : -((q : Int) + 1) * (b : Int) = -((b * q : Nat) : Int) - (b : Int) := by rw [Int.natCast_mul, Int.neg_mul, Int.add_mul, Int.one_mul, Int.mul_comm (q : Int)]; omega
          rw [this]
          omega
    · rw [decide_eq_false g]
      have hs : sgn false (V t) = ((V t : Nat) : Int) := rfl
      rw [hs, ← Int.natCast_ediv, hmag, ← hqq, Int.natCast_ediv]
      congr 1
      omega
  · rw [toInt_fin hd, truncOf_val hd, hna, hmag, ← hqq]
    by_cases g : a < 0
    · rw [decide_eq_true g]
      have hs : sgn true (a.natAbs / b) = -((a.natAbs / b : Nat) : Int) := rfl
      rw [hs]
      obtain ⟨n, rfl⟩ : ∃ n : Nat, a = -(n : Int) := ⟨a.natAbs, by omega⟩
      rw [Int.neg_tdiv, Int.natAbs_neg, Int.natAbs_natCast, Int.ofNat_tdiv]
    · rw [decide_eq_false g]
      have hs : sgn false (a.natAbs / b) = ((a.natAbs / b : Nat) : Int) := rfl
      rw [hs]
      obtain ⟨n, rfl⟩ : ∃ n : Nat, a = (n : Int) := ⟨a.natAbs, by omega⟩
      rw [Int.natAbs_natCast, Int.ofNat_tdiv]
 ); isFinite r = true ∧ toInt floorOf r = a / (b : Int) ∧ toInt truncOf r = a.tdiv (b : Int))
theorem div_F {a b : Int} (hb : 0 < b) (hb2 : b ≤ 2 ^ 29) (ha : a.natAbs < 2 ^ 53) (hq : a.natAbs < b.natAbs * 2 ^ 23) :
    isFinite (div (F a) (F b)) = true ∧ toInt floorOf (div (F a) (F b)) = a / b ∧ toInt truncOf (div (F a) (F b)) = a.tdiv b :=
 (by intro h9x; exact h9x : have h9x : isFinite (div (F a) (F b)) = true ∧ toInt floorOf (div (F a) (F b)) = a / b ∧ toInt truncOf (div (F a) (F b)) = a.tdiv b := (by
  obtain ⟨m, e, hx, vx⟩ := F_fin ha
  obtain ⟨k, f, hy, vy⟩ := F_fin (a := b) (by omega)
  have hk : k ≠ 0 := by
    intro h0
    have := val_natAbs hy
    rw [h0, Nat.zero_mul, vy, natAbs_K] at this
    have := Nat.mul_pos (show 0 < b.natAbs by omega) (Nat.two_pow_pos 1072)
    omega
  have h := div_right hx hy hk
  rw [vx, vy, natAbs_K, natAbs_K, decide_eq_false (show ¬ b < 0 by omega), Bool.bne_false] at h
  have hbn : ((b.natAbs : Nat) : Int) = b := by omega
  have := quot_right (b := b.natAbs) h (Nat.mul_pos (by omega) (Nat.two_pow_pos _)) (by omega) (by omega) (by generalize (2 : Nat) ^ 1072 = K; generalize (2 : Nat) ^ 1074 = K'; ac_rfl) hq
  rw [hbn] at this
  exact this
 ); isFinite (div (F a) (F b)) = true ∧ toInt floorOf (div (F a) (F b)) = a / b ∧ toInt truncOf (div (F a) (F b)) = a.tdiv b)
theorem frac_F {a b : Int} (hb : 0 < b) (hb2 : b ≤ 2 ^ 29) (hq : a.natAbs < b.natAbs * 2 ^ 23) :
    isFinite (ofFrac (decide (a < 0) != decide (b < 0)) a.natAbs b.natAbs) = true ∧ toInt floorOf (ofFrac (decide (a < 0) != decide (b < 0)) a.natAbs b.natAbs) = a / b ∧ toInt truncOf (ofFrac (decide (a < 0) != decide (b < 0)) a.natAbs b.natAbs) = a.tdiv b :=
 (by intro h9x; exact h9x : have h9x : isFinite (ofFrac (decide (a < 0) != decide (b < 0)) a.natAbs b.natAbs) = true ∧ toInt floorOf (ofFrac (decide (a < 0) != decide (b < 0)) a.natAbs b.natAbs) = a / b ∧ toInt truncOf (ofFrac (decide (a < 0) != decide (b < 0)) a.natAbs b.natAbs) = a.tdiv b := (by
  rw [decide_eq_false (show ¬ b < 0 by omega), Bool.bne_false]
  have hbn : ((b.natAbs : Nat) : Int) = b := by omega
  have h : Right (ofFrac (decide (a < 0)) a.natAbs b.natAbs) (decide (a < 0)) (a.natAbs * 2 ^ 1074) b.natAbs := ofFrac_right (by omega) rfl (by omega)
  have := quot_right (b := b.natAbs) h (by omega) (by omega) (by omega) rfl hq
  rw [hbn] at this
  exact this
 ); isFinite (ofFrac (decide (a < 0) != decide (b < 0)) a.natAbs b.natAbs) = true ∧ toInt floorOf (ofFrac (decide (a < 0) != decide (b < 0)) a.natAbs b.natAbs) = a / b ∧ toInt truncOf (ofFrac (decide (a < 0) != decide (b < 0)) a.natAbs b.natAbs) = a.tdiv b)
theorem F_notZero {a : Int} (h : a.natAbs < 2 ^ 53) (h0 : a ≠ 0) : isZero (F a) = false :=
 (by intro h9x; exact h9x : have h9x : isZero (F a) = false := (by
  obtain ⟨m, e, hd, hv⟩ := F_fin h
  unfold isZero
  rw [hd]
  cases m with
  | zero =>
    exfalso
    rw [val_eq hd] at hv
    have h1 : sgn (decide (a < 0)) (0 * 2 ^ (e + 1074).toNat) = 0 := by rw [Nat.zero_mul]; unfold sgn; cases decide (a < 0) <;> rfl
    rw [h1] at hv
    rcases Int.mul_eq_zero.mp hv.symm with h2 | h2
    · exact h0 h2
    · have := Kpos; omega
  | succ k => rfl
 ); isZero (F a) = false)
theorem F_pos_sign {a : Int} (h : a.natAbs < 2 ^ 53) (h0 : 0 ≤ a) : signBit (F a) = false :=
 (by intro h9x; exact h9x : have h9x : signBit (F a) = false := (by
  obtain ⟨t, hr, hlt, hV⟩ := F_pack h
  have hi : infMag = 2047 * 2 ^ 52 := rfl
  rw [decide_eq_false (show ¬ a < 0 by omega)] at hr
  unfold signBit
  rw [hr, pack_toNat false (t := t) (by omega)]
  simp only [Bool.false_eq_true, if_false, Nat.zero_add]
  have : t / 2 ^ 63 = 0 := by omega
  rw [this]; rfl
 ); signBit (F a) = false)
theorem fmod_F {a b : Int} (ha : a.natAbs < 2 ^ 53) (hb : b.natAbs < 2 ^ 53) (hb0 : 0 < b) :
    (a.natAbs % b.natAbs = 0 → fmod (F a) (F b) = zero (decide (a < 0))) ∧ (a.natAbs % b.natAbs ≠ 0 → fmod (F a) (F b) = F (if a < 0 then -((a.natAbs % b.natAbs : Nat) : Int) else ((a.natAbs % b.natAbs : Nat) : Int))) :=
 (by intro h9x; exact h9x : have h9x : (a.natAbs % b.natAbs = 0 → fmod (F a) (F b) = zero (decide (a < 0))) ∧ (a.natAbs % b.natAbs ≠ 0 → fmod (F a) (F b) = F (if a < 0 then -((a.natAbs % b.natAbs : Nat) : Int) else ((a.natAbs % b.natAbs : Nat) : Int))) := (by
  obtain ⟨m, e, hx, vx⟩ := F_fin ha
  obtain ⟨k, f, hy, vy⟩ := F_fin hb
  have he := decode_ge hx
  have hf := decode_ge hy
  have ma : m * 2 ^ (e + 1074).toNat = a.natAbs * 2 ^ 1072 := by rw [← val_natAbs hx, vx, natAbs_K]
  have mb : k * 2 ^ (f + 1074).toNat = b.natAbs * 2 ^ 1072 := by rw [← val_natAbs hy, vy, natAbs_K]
  have hk : k ≠ 0 := by
    intro h0
    rw [h0, Nat.zero_mul] at mb
    have := Nat.mul_pos (show 0 < b.natAbs by omega) (Nat.two_pow_pos 1072)
    omega
  have hdef : fmod (F a) (F b) = ofBin (decide (a < 0)) ((m * 2 ^ (e - min e f).toNat) % (k * 2 ^ (f - min e f).toNat)) (min e f) := by
    unfold fmod
    rw [hx, hy]
    simp only
    rw [if_neg (by simpa using hk)]
    rfl
  have hR := ofBin_right (neg := decide (a < 0)) (M := (m * 2 ^ (e - min e f).toNat) % (k * 2 ^ (f - min e f).toNat)) (g := min e f) (by omega)
  rw [← hdef] at hR
  have hM : (m * 2 ^ (e - min e f).toNat) % (k * 2 ^ (f - min e f).toNat) * 2 ^ (min e f + 1074).toNat = (a.natAbs % b.natAbs) * 2 ^ 1072 := by
    rw [← Nat.mul_mod_mul_right, Nat.mul_assoc, Nat.mul_assoc, ← Nat.pow_add, ← Nat.pow_add]
    have e1 : (e - min e f).toNat + (min e f + 1074).toNat = (e + 1074).toNat := by omega
    have e2 : (f - min e f).toNat + (min e f + 1074).toNat = (f + 1074).toNat := by omega
    rw [e1, e2, ma, mb, Nat.mul_mod_mul_right]
  rw [hM] at hR
  have hlt : a.natAbs % b.natAbs < 2 ^ 53 := Nat.lt_of_le_of_lt (Nat.mod_le _ _) ha
  generalize hr : a.natAbs % b.natAbs = r at *
  constructor
  · intro h0
    obtain ⟨t, h1, h2, h3⟩ := right_exact hR (by decide) hlt p1072.1 p1072.2 (by rw [Nat.one_mul])
    rw [h1]
    have hV0 : V 0 = 0 := by unfold V; simp
    have : t = 0 := V_inj (by rw [h3, h0, Nat.zero_mul, hV0])
    rw [this]
    rfl
  · intro h0
    by_cases g : a < 0
    · rw [if_pos g]
      rw [decide_eq_true g] at hR
      refine F_of_right ?_ (by omega)
      rw [decide_eq_true (show -(r : Int) < 0 by omega), Int.natAbs_neg, Int.natAbs_natCast]
      exact hR
    · rw [if_neg g]
      rw [decide_eq_false g] at hR
      refine F_of_right ?_ (by omega)
      rw [decide_eq_false (show ¬ (r : Int) < 0 by omega), Int.natAbs_natCast]
      exact hR
 ); (a.natAbs % b.natAbs = 0 → fmod (F a) (F b) = zero (decide (a < 0))) ∧ (a.natAbs % b.natAbs ≠ 0 → fmod (F a) (F b) = F (if a < 0 then -((a.natAbs % b.natAbs : Nat) : Int) else ((a.natAbs % b.natAbs : Nat) : Int))))
theorem mod_nat {a b : Int} (hb0 : 0 < b) : a % b = if a.natAbs % b.natAbs = 0 then 0 else if a < 0 then -((a.natAbs % b.natAbs : Nat) : Int) + b else ((a.natAbs % b.natAbs : Nat) : Int) :=
 (by intro h9x; exact h9x : have h9x : a % b = if a.natAbs % b.natAbs = 0 then 0 else if a < 0 then -((a.natAbs % b.natAbs : Nat) : Int) + b else ((a.natAbs % b.natAbs : Nat) : Int) := (by
  obtain ⟨n, rfl⟩ : ∃ n : Nat, b = (n : Int) := ⟨b.natAbs, by omega⟩
  have hn : 0 < n := by omega
  rw [Int.natAbs_natCast]
  by_cases g : a < 0
  · obtain ⟨k, rfl⟩ : ∃ k : Nat, a = -(k : Int) := ⟨a.natAbs, by omega⟩
    rw [Int.natAbs_neg, Int.natAbs_natCast, if_pos g]
    have h1 := Nat.div_add_mod k n
    have h2 := Nat.mod_lt k hn
    generalize k / n = q at *
    generalize k % n = r at *
    subst h1
    split
    · rename_i h0
      rw [h0, Nat.add_zero, Int.natCast_mul, ← Int.mul_neg, Int.mul_emod_right]
    · rename_i h0
      have e1 : -((n * q + r : Nat) : Int) = -(r : Int) + (n : Int) + (n : Int) * (-(q : Int) - 1) := by
        rw [Int.natCast_add, Int.natCast_mul, Int.mul_sub, Int.mul_neg, Int.mul_one]; omega
      rw [e1, Int.add_mul_emod_self_left, Int.emod_eq_of_lt (by omega) (by omega)]
  · obtain ⟨k, rfl⟩ : ∃ k : Nat, a = (k : Int) := ⟨a.natAbs, by omega⟩
    rw [Int.natAbs_natCast, if_neg g, ← Int.natCast_emod]
    split
    · rename_i h0; rw [h0]; rfl
    · rfl
 ); a % b = if a.natAbs % b.natAbs = 0 then 0 else if a < 0 then -((a.natAbs % b.natAbs : Nat) : Int) + b else ((a.natAbs % b.natAbs : Nat) : Int))
theorem F0 : F 0 = zero false := F_zero
theorem copysign_zero {y : UInt64} (h : signBit y = false) : copysign (zero false) y = F 0 :=
 (by intro h9x; exact h9x : have h9x : copysign (zero false) y = F 0 := (by
  rw [F_zero]
  unfold copysign
  have h1 : isNaN (zero false) = false := by decide +kernel
  rw [h1, h, if_neg (by decide)]
  decide +kernel
 ); copysign (zero false) y = F 0)
theorem isZero_zero (s : Bool) : isZero (zero s) = true := by cases s <;> decide +kernel
theorem lt_F {a b : Int} (ha : a.natAbs < 2 ^ 53) (hb : b.natAbs < 2 ^ 53) : lt (F a) (F b) = decide (a < b) :=
 (by intro h9x; exact h9x : have h9x : lt (F a) (F b) = decide (a < b) := (by
  unfold lt
  rw [cmp_F ha hb]
  rcases Int.lt_trichotomy a b with h | h | h
  · rw [Int.compare_eq_lt.mpr h, decide_eq_true h]; rfl
  · rw [Int.compare_eq_eq.mpr h, decide_eq_false (by omega)]; rfl
  · rw [Int.compare_eq_gt.mpr h, decide_eq_false (by omega)]; rfl
 ); lt (F a) (F b) = decide (a < b))
theorem mod_F {a b : Int} (ha : a.natAbs < 2 ^ 52) (hb : b < 2 ^ 52) (hb0 : 0 < b) : (divmod (F a) (F b)).2 = F (a % b) :=
 (by intro h9x; exact h9x : have h9x : (divmod (F a) (F b)).2 = F (a % b) := (by
  have hf := fmod_F (a := a) (b := b) (by omega) (by omega) hb0
  have hm := mod_nat (a := a) hb0
  unfold divmod
  by_cases h0 : a.natAbs % b.natAbs = 0
  · rw [if_pos h0] at hm
    rw [hf.1 h0, hm]
    simp only [isZero_zero, if_true]
    exact copysign_zero (F_pos_sign (by omega) (by omega))
  · rw [if_neg h0] at hm
    have hrl : a.natAbs % b.natAbs < b.natAbs := Nat.mod_lt _ (by omega)
    rw [hf.2 h0, hm]
    generalize hr : a.natAbs % b.natAbs = r at *
    by_cases g : a < 0
    · rw [if_pos g, if_pos g]
      have z := F_notZero (a := -(r : Int)) (by omega) (by omega)
      simp only [z, Bool.false_eq_true, if_false]
      rw [← F_zero, lt_F (by omega) (by omega), lt_F (by omega) (by omega), decide_eq_false (show ¬ b < 0 by omega), decide_eq_true (show -(r : Int) < 0 by omega), if_pos (by rfl)]
      exact add_F' (by omega) (by omega)
    · rw [if_neg g, if_neg g]
      have z := F_notZero (a := (r : Int)) (by omega) (by omega)
      simp only [z, Bool.false_eq_true, if_false]
      rw [← F_zero, lt_F (by omega) (by omega), lt_F (by omega) (by omega), decide_eq_false (show ¬ b < 0 by omega), decide_eq_false (show ¬ (r : Int) < 0 by omega), if_neg (by decide)]
 ); (divmod (F a) (F b)).2 = F (a % b))
/-- the month's term of the Gregorian day count: all the sums that can come -/
theorem month_term : ∀ m : Fin 12, ∀ l : Fin 3, ∀ d : Fin 31,
    let x := add (add (ofFrac (decide ((367 : Int) * ((m.val : Int) + 1) - 362 < 0) != decide ((12 : Int) < 0)) ((367 : Int) * ((m.val : Int) + 1) - 362).natAbs (12 : Int).natAbs) (ofInt (-(l.val : Int)))) (ofInt ((d.val : Int) + 1))
    (isFinite x && decide (toInt floorOf x = (367 * ((m.val : Int) + 1) - 362) / 12 - (l.val : Int) + ((d.val : Int) + 1))) = true := by decide +kernel
end AK
end

section
open PySem PySem.W PyProof.Rows PySem.Calls PySem.Float64 PySem.Flt
set_option maxRecDepth 100000
namespace AK
section
variable {prog : Program} {w : World} {A : Around} {E : Value → Shared → Prop} {s : Shared} {Q : Value → Shared → Prop} {t u : Tok} {x y : UInt64} {a b n : Int}

theorem ofInt_notInf (h : n.natAbs < 2 ^ 50) : ¬ isInf (ofInt n) = true := by rw [ofInt_F h, F_notInf (by omega)]; decide
theorem ofInt_notZero (h : n.natAbs < 2 ^ 50) (h0 : n ≠ 0) : ¬ isZero (ofInt n) = true := by rw [ofInt_F h, F_notZero (by omega) (by omega)]; decide

-- sums
theorem r_add_ff (hx : x = F a) (hy : y = F b) (ha : a.natAbs < 2 ^ 52) (hb : b.natAbs < 2 ^ 52) (h : Q (.float (F (a + b)) s.toks) { s with toks := s.toks + 1 }) : wpAny (model prog w) A (binaryOp .Add (.float x t) (.float y u)) Q E s := by
  subst hx; subst hy
  exact AutoFloatOps.add_0 (by show Q _ _; rw [add_F' ha hb]; exact h)
theorem r_add_fi (hx : x = F a) (ha : a.natAbs < 2 ^ 52) (hn : n.natAbs < 2 ^ 50) (h : Q (.float (F (a + 4 * n)) s.toks) { s with toks := s.toks + 1 }) : wpAny (model prog w) A (binaryOp .Add (.float x t) (.int n u)) Q E s := by
  subst hx
  exact AutoFloatOps.add_fi_1 (ofInt_notInf hn) (by show Q _ _; rw [ofInt_F hn, add_F' ha (by omega)]; exact h)
theorem r_add_if (hx : x = F a) (ha : a.natAbs < 2 ^ 52) (hn : n.natAbs < 2 ^ 50) (h : Q (.float (F (4 * n + a)) s.toks) { s with toks := s.toks + 1 }) : wpAny (model prog w) A (binaryOp .Add (.int n u) (.float x t)) Q E s := by
  subst hx
  exact AutoFloatOps.add_if_1 (ofInt_notInf hn) (by show Q _ _; rw [ofInt_F hn, add_F' (by omega) ha]; exact h)
theorem r_iadd_ff (hx : x = F a) (hy : y = F b) (ha : a.natAbs < 2 ^ 52) (hb : b.natAbs < 2 ^ 52) (h : Q (.float (F (a + b)) s.toks) { s with toks := s.toks + 1 }) : wpAny (model prog w) A (inplaceOp .Add (.float x t) (.float y u)) Q E s := by
  subst hx; subst hy
  exact AutoFloatOps.iadd_0 (by show Q _ _; rw [add_F' ha hb]; exact h)
theorem r_iadd_fi (hx : x = F a) (ha : a.natAbs < 2 ^ 52) (hn : n.natAbs < 2 ^ 50) (h : Q (.float (F (a + 4 * n)) s.toks) { s with toks := s.toks + 1 }) : wpAny (model prog w) A (inplaceOp .Add (.float x t) (.int n u)) Q E s := by
  subst hx
  exact iadd_fi_1 (ofInt_notInf hn) (by show Q _ _; rw [ofInt_F hn, add_F' ha (by omega)]; exact h)
theorem r_iadd_if (hx : x = F a) (ha : a.natAbs < 2 ^ 52) (hn : n.natAbs < 2 ^ 50) (h : Q (.float (F (4 * n + a)) s.toks) { s with toks := s.toks + 1 }) : wpAny (model prog w) A (inplaceOp .Add (.int n u) (.float x t)) Q E s := by
  subst hx
  exact iadd_if_1 (ofInt_notInf hn) (by show Q _ _; rw [ofInt_F hn, add_F' (by omega) ha]; exact h)
theorem r_sub_ff (hx : x = F a) (hy : y = F b) (ha : a.natAbs < 2 ^ 52) (hb : b.natAbs < 2 ^ 52) (h : Q (.float (F (a - b)) s.toks) { s with toks := s.toks + 1 }) : wpAny (model prog w) A (binaryOp .Sub (.float x t) (.float y u)) Q E s := by
  subst hx; subst hy
  exact AutoFloatOps.sub_0 (by show Q _ _; rw [sub_F ha hb]; exact h)
theorem r_sub_fi (hx : x = F a) (ha : a.natAbs < 2 ^ 52) (hn : n.natAbs < 2 ^ 50) (h : Q (.float (F (a - 4 * n)) s.toks) { s with toks := s.toks + 1 }) : wpAny (model prog w) A (binaryOp .Sub (.float x t) (.int n u)) Q E s := by
  subst hx
  exact AutoFloatOps.sub_fi_1 (ofInt_notInf hn) (by show Q _ _; rw [ofInt_F hn, sub_F ha (by omega)]; exact h)
theorem r_sub_if (hx : x = F a) (ha : a.natAbs < 2 ^ 52) (hn : n.natAbs < 2 ^ 50) (h : Q (.float (F (4 * n - a)) s.toks) { s with toks := s.toks + 1 }) : wpAny (model prog w) A (binaryOp .Sub (.int n u) (.float x t)) Q E s := by
  subst hx
  exact AutoFloatOps.sub_if_1 (ofInt_notInf hn) (by show Q _ _; rw [ofInt_F hn, sub_F (by omega) ha]; exact h)

-- products: by a written whole number k (b = 4 * k)
theorem mul_F4 {k : Int} (ha : 0 ≤ a) (hk : 0 ≤ k) (ha2 : a < 2 ^ 53) (hk2 : k < 2 ^ 50) (hc2 : a * k < 2 ^ 53) : mul (F a) (F (4 * k)) = F (a * k) :=
  mul_F ha (by omega) ha2 (by omega) (by rw [← Int.mul_assoc, Int.mul_comm a 4, Int.mul_assoc]) hc2
theorem r_mul_ff {k : Int} (hx : x = F a) (hy : y = F (4 * k)) (ha : 0 ≤ a) (hk : 0 ≤ k) (ha2 : a < 2 ^ 53) (hk2 : k < 2 ^ 50) (hc2 : a * k < 2 ^ 53) (h : Q (.float (F (a * k)) s.toks) { s with toks := s.toks + 1 }) : wpAny (model prog w) A (binaryOp .Mult (.float x t) (.float y u)) Q E s := by
  subst hx; subst hy
  exact AutoFloatOps.mul_0 (by show Q _ _; rw [mul_F4 ha hk ha2 hk2 hc2]; exact h)
theorem r_mul_fi (hx : x = F a) (ha : 0 ≤ a) (hk : 0 ≤ n) (ha2 : a < 2 ^ 53) (hk2 : n < 2 ^ 50) (hc2 : a * n < 2 ^ 53) (h : Q (.float (F (a * n)) s.toks) { s with toks := s.toks + 1 }) : wpAny (model prog w) A (binaryOp .Mult (.float x t) (.int n u)) Q E s := by
  subst hx
  exact AutoFloatOps.mul_fi_1 (ofInt_notInf (by omega)) (by show Q _ _; rw [ofInt_F (by omega), mul_F4 ha hk ha2 hk2 hc2]; exact h)
theorem mul_F4' {k : Int} (ha : 0 ≤ a) (hk : 0 ≤ k) (ha2 : a < 2 ^ 53) (hk2 : k < 2 ^ 50) (hc2 : k * a < 2 ^ 53) : mul (F (4 * k)) (F a) = F (k * a) :=
  mul_F (by omega) ha (by omega) ha2 (by rw [Int.mul_assoc]) hc2
theorem r_mul_if (hx : x = F a) (ha : 0 ≤ a) (hk : 0 ≤ n) (ha2 : a < 2 ^ 53) (hk2 : n < 2 ^ 50) (hc2 : n * a < 2 ^ 53) (h : Q (.float (F (n * a)) s.toks) { s with toks := s.toks + 1 }) : wpAny (model prog w) A (binaryOp .Mult (.int n u) (.float x t)) Q E s := by
  subst hx
  exact AutoFloatOps.mul_if_1 (ofInt_notInf (by omega)) (by show Q _ _; rw [ofInt_F (by omega), mul_F4' ha hk ha2 hk2 hc2]; exact h)

-- quotients: left as they are; floor and trunc look through them
theorem r_div_ff (hx : x = F a) (hy : y = F b) (hb : 0 < b) (hb2 : b < 2 ^ 53) (h : Q (.float (div (F a) (F b)) s.toks) { s with toks := s.toks + 1 }) : wpAny (model prog w) A (binaryOp .Div (.float x t) (.float y u)) Q E s := by
  subst hx; subst hy
  exact AutoFloatOps.truediv_1 (by rw [F_notZero (by omega) (by omega)]; decide) h
theorem r_div_fi (hx : x = F a) (hn : 0 < n) (hn2 : n < 2 ^ 50) (h : Q (.float (div (F a) (F (4 * n))) s.toks) { s with toks := s.toks + 1 }) : wpAny (model prog w) A (binaryOp .Div (.float x t) (.int n u)) Q E s := by
  subst hx
  exact AutoFloatOps.truediv_fi_2 (ofInt_notInf (by omega)) (ofInt_notZero (by omega) (by omega)) (by show Q _ _; rw [ofInt_F (by omega)]; exact h)
/-- a/b of two ints, rounded -/
def frac (a b : Int) : UInt64 := ofFrac (decide (a < 0) != decide (b < 0)) a.natAbs b.natAbs
theorem r_div_ii (hn : 0 < b) (hn2 : b ≤ 2 ^ 29) (hq : a.natAbs < b.natAbs * 2 ^ 23) (h : Q (.float (frac a b) s.toks) { s with toks := s.toks + 1 }) : wpAny (model prog w) A (binaryOp .Div (.int a t) (.int b u)) Q E s := by
  have hf := (frac_F hn hn2 hq).1
  exact AutoIntOps.truediv_2 (by simp; omega) (by rw [not_inf_of_finite hf]; decide) h

theorem r_div_if (hy : y = F b) (hn : n.natAbs < 2 ^ 50) (hb : 0 < b) (hb2 : b < 2 ^ 53) (h : Q (.float (div (F (4 * n)) (F b)) s.toks) { s with toks := s.toks + 1 }) : wpAny (model prog w) A (binaryOp .Div (.int n t) (.float y u)) Q E s := by
  subst hy
  exact AutoFloatOps.truediv_if_2 (ofInt_notInf hn) (by rw [F_notZero (by omega) (by omega)]; decide) (by show Q _ _; rw [ofInt_F hn]; exact h)
theorem r_mod_if (hy : y = F b) (hn : n.natAbs < 2 ^ 50) (hb : 0 < b) (hb2 : b < 2 ^ 52) (h : Q (.float (F ((4 * n) % b)) s.toks) { s with toks := s.toks + 1 }) : wpAny (model prog w) A (binaryOp .Mod (.int n t) (.float y u)) Q E s := by
  subst hy
  exact AutoFloatOps.mod_if_2 (ofInt_notInf hn) (by rw [F_notZero (by omega) (by omega)]; decide) (by show Q _ _; rw [ofInt_F hn, mod_F (by omega) hb2 hb]; exact h)

-- floor, trunc, int
theorem r_floor_gen {z : Int} (hf : isFinite x = true) (hz : toInt floorOf x = z) (h : Q (.int z s.toks) { s with toks := s.toks + 1 }) (hA : A.handled = none := by rfl) : wpAny (model prog w) A (call (.builtin "math.floor") [.float x t]) Q E s :=
  call_floor_float hA (fun c => by rw [not_nan_of_finite hf] at c; cases c) (fun c => by rw [not_inf_of_finite hf] at c; cases c) (fun _ => by rw [hz]; exact h)
theorem r_trunc_gen {z : Int} (hf : isFinite x = true) (hz : toInt truncOf x = z) (h : Q (.int z s.toks) { s with toks := s.toks + 1 }) (hA : A.handled = none := by rfl) : wpAny (model prog w) A (call (.builtin "math.trunc") [.float x t]) Q E s :=
  call_trunc_float hA (fun c => by rw [not_nan_of_finite hf] at c; cases c) (fun c => by rw [not_inf_of_finite hf] at c; cases c) (fun _ => by rw [hz]; exact h)
theorem r_int_gen {z : Int} (hf : isFinite x = true) (hz : toInt truncOf x = z) (h : Q (.int z s.toks) { s with toks := s.toks + 1 }) (hA : A.handled = none := by rfl) : wpAny (model prog w) A (call (.type "int") [.float x t]) Q E s :=
  call_int_float3 hA (fun c => by rw [not_nan_of_finite hf] at c; cases c) (fun c => by rw [not_inf_of_finite hf] at c; cases c) (fun _ => by rw [hz]; exact h)
theorem r_floor (hx : x = F a) (ha : a.natAbs < 2 ^ 53) (h : Q (.int (a / 4) s.toks) { s with toks := s.toks + 1 }) (hA : A.handled = none := by rfl) : wpAny (model prog w) A (call (.builtin "math.floor") [.float x t]) Q E s := by
  subst hx
  exact r_floor_gen (F_finite ha) (floor_F ha) h hA
theorem tdiv_pos {k : Int} (h : 0 ≤ a) : a.tdiv k = a / k := Int.tdiv_eq_ediv_of_nonneg h
theorem tdiv4 (h : 0 ≤ a ∨ a % 4 = 0) : a.tdiv 4 = a / 4 := by
  rcases h with h | h
  · exact Int.tdiv_eq_ediv_of_nonneg h
  · exact Int.tdiv_eq_ediv_of_dvd (Int.dvd_of_emod_eq_zero h)
theorem r_trunc (hx : x = F a) (ha : a.natAbs < 2 ^ 53) (h0 : 0 ≤ a ∨ a % 4 = 0) (h : Q (.int (a / 4) s.toks) { s with toks := s.toks + 1 }) (hA : A.handled = none := by rfl) : wpAny (model prog w) A (call (.builtin "math.trunc") [.float x t]) Q E s := by
  subst hx
  exact r_trunc_gen (F_finite ha) ((trunc_F ha).trans (tdiv4 h0)) h hA
theorem r_int (hx : x = F a) (ha : a.natAbs < 2 ^ 53) (h0 : 0 ≤ a ∨ a % 4 = 0) (h : Q (.int (a / 4) s.toks) { s with toks := s.toks + 1 }) (hA : A.handled = none := by rfl) : wpAny (model prog w) A (call (.type "int") [.float x t]) Q E s := by
  subst hx
  exact r_int_gen (F_finite ha) ((trunc_F ha).trans (tdiv4 h0)) h hA
theorem r_floor_div (hb : 0 < b) (hb2 : b ≤ 2 ^ 29) (ha : a.natAbs < 2 ^ 53) (hq : a.natAbs < b.natAbs * 2 ^ 23) (h : Q (.int (a / b) s.toks) { s with toks := s.toks + 1 }) (hA : A.handled = none := by rfl) : wpAny (model prog w) A (call (.builtin "math.floor") [.float (div (F a) (F b)) t]) Q E s :=
  r_floor_gen (div_F hb hb2 ha hq).1 (div_F hb hb2 ha hq).2.1 h hA
theorem r_trunc_div (hb : 0 < b) (hb2 : b ≤ 2 ^ 29) (ha : a.natAbs < 2 ^ 53) (h0 : 0 ≤ a) (hq : a.natAbs < b.natAbs * 2 ^ 23) (h : Q (.int (a / b) s.toks) { s with toks := s.toks + 1 }) (hA : A.handled = none := by rfl) : wpAny (model prog w) A (call (.builtin "math.trunc") [.float (div (F a) (F b)) t]) Q E s :=
  r_trunc_gen (div_F hb hb2 ha hq).1 ((div_F hb hb2 ha hq).2.2.trans (tdiv_pos h0)) h hA
theorem r_floor_frac (hb : 0 < b) (hb2 : b ≤ 2 ^ 29) (hq : a.natAbs < b.natAbs * 2 ^ 23) (h : Q (.int (a / b) s.toks) { s with toks := s.toks + 1 }) (hA : A.handled = none := by rfl) : wpAny (model prog w) A (call (.builtin "math.floor") [.float (frac a b) t]) Q E s :=
  r_floor_gen (frac_F hb hb2 hq).1 (frac_F hb hb2 hq).2.1 h hA
theorem r_trunc_frac (hb : 0 < b) (hb2 : b ≤ 2 ^ 29) (h0 : 0 ≤ a) (hq : a.natAbs < b.natAbs * 2 ^ 23) (h : Q (.int (a / b) s.toks) { s with toks := s.toks + 1 }) (hA : A.handled = none := by rfl) : wpAny (model prog w) A (call (.builtin "math.trunc") [.float (frac a b) t]) Q E s :=
  r_trunc_gen (frac_F hb hb2 hq).1 ((frac_F hb hb2 hq).2.2.trans (tdiv_pos h0)) h hA

-- remainders
theorem r_mod_ff (hx : x = F a) (hy : y = F b) (ha : a.natAbs < 2 ^ 52) (hb : 0 < b) (hb2 : b < 2 ^ 52) (h : Q (.float (F (a % b)) s.toks) { s with toks := s.toks + 1 }) : wpAny (model prog w) A (binaryOp .Mod (.float x t) (.float y u)) Q E s := by
  subst hx; subst hy
  exact AutoFloatOps.mod_1 (by rw [F_notZero (by omega) (by omega)]; decide) (by show Q _ _; rw [mod_F ha hb2 hb]; exact h)
theorem r_mod_fi (hx : x = F a) (ha : a.natAbs < 2 ^ 52) (hb : 0 < n) (hb2 : n < 2 ^ 50) (h : Q (.float (F (a % (4 * n))) s.toks) { s with toks := s.toks + 1 }) : wpAny (model prog w) A (binaryOp .Mod (.float x t) (.int n u)) Q E s := by
  subst hx
  exact AutoFloatOps.mod_fi_2 (ofInt_notInf (by omega)) (ofInt_notZero (by omega) (by omega)) (by show Q _ _; rw [ofInt_F (by omega), mod_F ha (by omega) (by omega)]; exact h)
theorem r_mod_ii (hn : 0 < b) (h : Q (.int (a % b) s.toks) { s with toks := s.toks + 1 }) : wpAny (model prog w) A (binaryOp .Mod (.int a t) (.int b u)) Q E s :=
  mod_int' (by omega) (by rw [Int.fmod_eq_emod_of_nonneg _ (by omega)]; exact h)
theorem r_fdiv_ii (hn : 0 < b) (hp : Builtin.divisionGoesByPylong a b = false ∨ PySem.PylongRoom (model prog w) A s) (h : Q (.int (a / b) s.toks) { s with toks := s.toks + 1 }) : wpAny (model prog w) A (binaryOp .FloorDiv (.int a t) (.int b u)) Q E s :=
  floordiv_int (by omega) (by rw [Int.fdiv_eq_ediv_of_nonneg _ (by omega)]; exact h) hp
theorem r_fdiv_small (hn : 0 < b) (hb2 : b < 2 ^ 29) (hs : a.natAbs < 2 ^ 60) (h : Q (.int (a / b) s.toks) { s with toks := s.toks + 1 }) : wpAny (model prog w) A (binaryOp .FloorDiv (.int a t) (.int b u)) Q E s :=
  r_fdiv_ii hn (.inl (PyProof.noPylong_small (by omega))) h

-- comparisons
theorem cmp_lt (ha : a.natAbs < 2 ^ 53) (hb : b.natAbs < 2 ^ 53) : (cmp (F a) (F b) == some Ordering.lt) = decide (a < b) := lt_F ha hb
theorem cmp_gt' (ha : a.natAbs < 2 ^ 53) (hb : b.natAbs < 2 ^ 53) : (cmp (F a) (F b) == some Ordering.gt) = decide (b < a) := by
  rw [cmp_F ha hb]
  rcases Int.lt_trichotomy a b with h | h | h
  · rw [Int.compare_eq_lt.mpr h, decide_eq_false (by omega)]; rfl
  · rw [Int.compare_eq_eq.mpr h, decide_eq_false (by omega)]; rfl
  · rw [Int.compare_eq_gt.mpr h, decide_eq_true (by omega)]; rfl
theorem cmp_eq' (ha : a.natAbs < 2 ^ 53) (hb : b.natAbs < 2 ^ 53) : (cmp (F a) (F b) == some Ordering.eq) = decide (a = b) := by
  rw [cmp_F ha hb]
  rcases Int.lt_trichotomy a b with h | h | h
  · rw [Int.compare_eq_lt.mpr h, decide_eq_false (by omega)]; rfl
  · rw [Int.compare_eq_eq.mpr h, decide_eq_true (by omega)]; rfl
  · rw [Int.compare_eq_gt.mpr h, decide_eq_false (by omega)]; rfl
theorem cmpInt_cmp (ha : a.natAbs < 2 ^ 53) (hn : n.natAbs < 2 ^ 50) : cmpInt (F a) n = cmp (F a) (F (4 * n)) := by
  rw [cmpInt_F ha, cmp_F ha (by omega)]
theorem dec_or {p q r : Prop} [Decidable p] [Decidable q] [Decidable r] (h : r ↔ (p ∨ q)) : (decide p || decide q) = decide r := by
  by_cases hp : p <;> by_cases hq : q <;> simp [hp, hq, h]
theorem r_lt_ff (hx : x = F a) (hy : y = F b) (ha : a.natAbs < 2 ^ 53) (hb : b.natAbs < 2 ^ 53) (h : Q (.bool (decide (a < b))) s) : wpAny (model prog w) A (compareOp .Lt (.float x t) (.float y u)) Q E s := by
  subst hx; subst hy
  exact AutoFloatOps.lt_0 (by rw [cmp_lt ha hb]; exact h)
theorem r_gt_ff (hx : x = F a) (hy : y = F b) (ha : a.natAbs < 2 ^ 53) (hb : b.natAbs < 2 ^ 53) (h : Q (.bool (decide (b < a))) s) : wpAny (model prog w) A (compareOp .Gt (.float x t) (.float y u)) Q E s := by
  subst hx; subst hy
  exact AutoFloatOps.gt_0 (by rw [cmp_gt' ha hb]; exact h)
theorem r_le_ff (hx : x = F a) (hy : y = F b) (ha : a.natAbs < 2 ^ 53) (hb : b.natAbs < 2 ^ 53) (h : Q (.bool (decide (a ≤ b))) s) : wpAny (model prog w) A (compareOp .LtE (.float x t) (.float y u)) Q E s := by
  subst hx; subst hy
  exact AutoFloatOps.le_0 (by rw [cmp_lt ha hb, cmp_eq' ha hb, dec_or (r := a ≤ b) (by omega)]; exact h)
theorem r_ge_ff (hx : x = F a) (hy : y = F b) (ha : a.natAbs < 2 ^ 53) (hb : b.natAbs < 2 ^ 53) (h : Q (.bool (decide (b ≤ a))) s) : wpAny (model prog w) A (compareOp .GtE (.float x t) (.float y u)) Q E s := by
  subst hx; subst hy
  exact AutoFloatOps.ge_0 (by rw [cmp_gt' ha hb, cmp_eq' ha hb, dec_or (r := b ≤ a) (by omega)]; exact h)
theorem r_eq_ff (hx : x = F a) (hy : y = F b) (ha : a.natAbs < 2 ^ 53) (hb : b.natAbs < 2 ^ 53) (h : Q (.bool (decide (a = b))) s) : wpAny (model prog w) A (compareOp .Eq (.float x t) (.float y u)) Q E s := by
  subst hx; subst hy
  exact AutoFloatOps.eq_0 (by rw [cmp_eq' ha hb]; exact h)
theorem r_ne_ff (hx : x = F a) (hy : y = F b) (ha : a.natAbs < 2 ^ 53) (hb : b.natAbs < 2 ^ 53) (h : Q (.bool (!decide (a = b))) s) : wpAny (model prog w) A (compareOp .NotEq (.float x t) (.float y u)) Q E s := by
  subst hx; subst hy
  exact AutoFloatOps.ne_0 (by rw [bne, cmp_eq' ha hb]; exact h)
theorem r_lt_fi (hx : x = F a) (ha : a.natAbs < 2 ^ 53) (hb : n.natAbs < 2 ^ 50) (h : Q (.bool (decide (a < 4 * n))) s) : wpAny (model prog w) A (compareOp .Lt (.float x t) (.int n u)) Q E s := by
  subst hx
  exact lt_fi (by rw [cmpInt_cmp ha hb, cmp_lt ha (by omega)]; exact h)
theorem r_eq_fi (hx : x = F a) (ha : a.natAbs < 2 ^ 53) (hb : n.natAbs < 2 ^ 50) (h : Q (.bool (decide (a = 4 * n))) s) : wpAny (model prog w) A (compareOp .Eq (.float x t) (.int n u)) Q E s := by
  subst hx
  exact eq_fi (by rw [cmpInt_cmp ha hb, cmp_eq' ha (by omega)]; exact h)
end

-- the written numbers of the text
theorem k_half : (4602678819172646912 : UInt64) = F 2 := by decide +kernel
theorem k_greg : (4700144277945057280 : UInt64) = F 6885702 := by decide +kernel
theorem k_heb : (4689722129631936512 : UInt64) = F 1391982 := by decide +kernel
theorem k_may : (4693266160550936576 : UInt64) = F 2337130 := by decide +kernel
theorem k_arm : (4701007892789067776 : UInt64) = F 7690006 := by decide +kernel
theorem k_sar : (4701801086275551232 : UInt64) = F 8468842 := by decide +kernel
theorem k_fre : (4702356487823949824 : UInt64) = F 9503358 := by decide +kernel
theorem k_365 : (4645128764097822720 : UInt64) = F (4 * 365) := by decide +kernel
theorem k_98496 : (4681505006791163904 : UInt64) = F (4 * 98496) := by decide +kernel
theorem k_35975351 : (4720097339732131840 : UInt64) = F 143901404 := by decide +kernel
theorem k_36525 : (4645133162144333824 : UInt64) = F 1461 := by decide +kernel
theorem k_1461 : (4654140361399074816 : UInt64) = F (4 * 1461) := by decide +kernel
theorem k_4 : (4616189618054758400 : UInt64) = F (4 * 4) := by decide +kernel
theorem k_30 : (4629137466983448576 : UInt64) = F (4 * 30) := by decide +kernel
end AK
namespace AK
section
variable {prog : Program} {w : World} {A : Around} {E : Value → Shared → Prop} {s : Shared} {Q : Value → Shared → Prop} {t u : Tok} {a b : Int}
theorem r_eq_ii (h : Q (.bool (decide (a = b))) s) : wpAny (model prog w) A (compareOp .Eq (.int a t) (.int b u)) Q E s := eq_int h
theorem r_ne_ii (h : Q (.bool (!decide (a = b))) s) : wpAny (model prog w) A (compareOp .NotEq (.int a t) (.int b u)) Q E s := ne_int h
end
end AK
namespace AK
section
variable {prog : Program} {w : World} {A : Around} {E : Value → Shared → Prop} {s : Shared} {Q : Value → Shared → Prop} {u : Tok} {x : Int} {K : Frag} {h₀ : Heap} {L a : Addr} {m : Str → Option Value}
theorem r_in4 {d : Option Addr} {sl : Array (Option Value)} {v1 v2 v3 v4 : Value} {n : Nat} {a1 a2 a3 a4 : Int} {t1 t2 t3 t4 : Tok} (F : Fr h₀ L s.heap m) (X : K.In h₀) (e : K.lookup a = some ⟨.type "tuple", d, .seq #[v1, v2, v3, v4] n, sl⟩)
    (e1 : v1 = .int a1 t1) (e2 : v2 = .int a2 t2) (e3 : v3 = .int a3 t3) (e4 : v4 = .int a4 t4)
    (h : Q (.bool (decide (x = a1 ∨ x = a2 ∨ x = a3 ∨ x = a4))) s) : wpAny (model prog w) A (compareOp .In (.int x u) (.ref a)) Q E s := by
  subst e1 e2 e3 e4
  have ho := F.keep _ _ (X _ _ e)
  refine in_tuple_ints (items := #[.int a1 t1, .int a2 t2, .int a3 t3, .int a4 t4]) (ns := [a1, a2, a3, a4]) ⟨_, ho, rfl, n, rfl⟩ ?_ ?_
  · repeat constructor
  · have e : ([a1, a2, a3, a4].any (· == x)) = decide (x = a1 ∨ x = a2 ∨ x = a3 ∨ x = a4) := by
      rw [Bool.eq_iff_iff]
      simp only [List.any_cons, List.any_nil, Bool.or_false, Bool.or_eq_true, beq_iff_eq, decide_eq_true_eq]
      omega
    rw [e]; exact h
end
end AK
namespace AK
section
open PySem.Float64 PySem.Flt
variable {prog : Program} {w : World} {A : Around} {E : Value → Shared → Prop} {s : Shared} {Q : Value → Shared → Prop} {t u : Tok} {x : UInt64} {n m l d : Int}
theorem r_add_raw (hn : n.natAbs < 2 ^ 50) (h : Q (.float (Float64.add x (ofInt n)) s.toks) { s with toks := s.toks + 1 }) : wpAny (model prog w) A (binaryOp .Add (.float x t) (.int n u)) Q E s :=
  AutoFloatOps.add_fi_1 (ofInt_notInf hn) h
theorem month_term' (hm : 1 ≤ m ∧ m ≤ 12) (hl : -2 ≤ l ∧ l ≤ 0) (hd : 1 ≤ d ∧ d ≤ 31) :
    isFinite (Float64.add (Float64.add (frac (367 * m - 362) 12) (ofInt l)) (ofInt d)) = true ∧ toInt floorOf (Float64.add (Float64.add (frac (367 * m - 362) 12) (ofInt l)) (ofInt d)) = (367 * m - 362) / 12 + l + d := by
  have h := month_term ⟨(m - 1).toNat, by omega⟩ ⟨(-l).toNat, by omega⟩ ⟨(d - 1).toNat, by omega⟩
  simp only [Bool.and_eq_true, decide_eq_true_eq] at h
  have e1 : (((m - 1).toNat : Nat) : Int) + 1 = m := by omega
  have e2 : (-(((-l).toNat : Nat) : Int)) = l := by omega
  have e3 : (((d - 1).toNat : Nat) : Int) + 1 = d := by omega
  have e4 : (((-l).toNat : Nat) : Int) = -l := by omega
  rw [e1, e3, e4, Int.neg_neg] at h
  refine ⟨h.1, h.2.trans ?_⟩
  omega
theorem r_floor_month (hm : 1 ≤ m ∧ m ≤ 12) (hl : -2 ≤ l ∧ l ≤ 0) (hd : 1 ≤ d ∧ d ≤ 31) (h : Q (.int ((367 * m - 362) / 12 + l + d) s.toks) { s with toks := s.toks + 1 }) (hA : A.handled = none := by rfl) :
    wpAny (model prog w) A (call (.builtin "math.floor") [.float (Float64.add (Float64.add (frac (367 * m - 362) 12) (ofInt l)) (ofInt d)) t]) Q E s :=
  r_floor_gen (month_term' hm hl hd).1 (month_term' hm hl hd).2 h hA
end
end AK
namespace AK
section
variable {prog : Program} {w : World} {A : Around} {E : Value → Shared → Prop} {s : Shared} {Q : Value → Shared → Prop} {t u : Tok} {x : UInt64} {a n : Int}
theorem r_ne_fi (hx : x = F a) (ha : a.natAbs < 2 ^ 53) (hb : n.natAbs < 2 ^ 50) (h : Q (.bool (!decide (a = 4 * n))) s) : wpAny (model prog w) A (compareOp .NotEq (.float x t) (.int n u)) Q E s := by
  subst hx
  exact ne_fi (by rw [bne, cmpInt_cmp ha hb, cmp_eq' ha (by omega)]; exact h)
end
end AK
end

section
open PySem PySem.W PyProof.Rows PySem.Calls
set_option maxRecDepth 100000
set_option maxHeartbeats 8000000
set_option rowWalk.seconds 0
namespace AK
abbrev Led := List (Addr × Obj)
abbrev Post := Heap → Addr → (Str → Option Value) → Led → Shared → (Value → Shared → Prop) → Prop

/-- what a call of a def of the text gives back, wherever it stands -/
def Claim (w : World) (f : Addr) (vs : List Value) (k : Nat) (P : Post) : Prop :=
  ∀ (p : Program) (loose : List Str) (mean : ExcName → Option Value) (mg mb : Str → Option Value) (dp un : Nat) (gd : Option (List Code)) (cn : Str) (cs : Scope) (a : Addr) (ccd : Value) (cl : List (Str × Addr)) (outer : List Env) (A₀ : Around) (base h₀ : Heap) (L : Addr) (m : Str → Option Value) (news : Led) (s : Shared) (Q E : Value → Shared → Prop),
    Below A₀ base outer h₀ → Fr h₀ L s.heap m → (AK.hd.heap_39 w.params).In h₀ → News h₀ L s.heap news → Top p loose mean mg mb h₀ → cs.kind = .function →
    dp + k < recursionLimit → un + 8 * k < cLine → P h₀ L m news s Q →
      wpAny (model PySem.Challenge.rw_ak5023_01.row.prog w) (ktrTop dp un gd cn cs L a ccd cl outer) (call (.ref f) vs) Q E s

theorem Claim.use {w : World} {f : Addr} {vs : List Value} {k : Nat} {P : Post} (C : Claim w f vs k P)
    {p : Program} {loose : List Str} {mean : ExcName → Option Value} {mg mb : Str → Option Value} {dp un : Nat} {gd : Option (List Code)} {cn : Str} {cs : Scope} {a : Addr} {ccd : Value} {cl : List (Str × Addr)} {outer : List Env} {A₀ : Around} {base h₀ : Heap} {L : Addr} {m : Str → Option Value} {news : Led} {s : Shared} {Q E : Value → Shared → Prop}
    (B : Below A₀ base outer h₀) (F : Fr h₀ L s.heap m) (X : (AK.hd.heap_39 w.params).In h₀) (N : News h₀ L s.heap news) (T : Top p loose mean mg mb h₀) (hk : cs.kind = .function)
    (hd : dp + k < recursionLimit) (hu : un + 8 * k < cLine) (h : P h₀ L m news s Q) :
    wpAny (model PySem.Challenge.rw_ak5023_01.row.prog w) (ktrTop dp un gd cn cs L a ccd cl outer) (call (.ref f) vs) Q E s :=
  C p loose mean mg mb dp un gd cn cs a ccd cl outer A₀ base h₀ L m news s Q E B F X N T hk hd hu h

abbrev Ret (v : Tok → Value) : Post := fun h₀ L m news s Q => ∀ (t : Tok) (h' : Heap) (tk' : Nat), Fr h₀ L h' m → News h₀ L h' news → Q (v t) { s with heap := h', toks := tk' }
abbrev RetI (x : Int) : Post := Ret (fun t => .int x t)
abbrev RetF (x : UInt64) : Post := Ret (fun t => .float x t)
abbrev RetB (x : Bool) : Post := Ret (fun _ => .bool x)

section
variable {h₀ h' : Heap} {L : Addr} {m : Str → Option Value} {news news' : Led} {s : Shared} {Q : Value → Shared → Prop} {t : Tok} {tk' : Nat}
theorem endI {x y : Int} (hret : RetI x h₀ L m news s Q) (e : y = x) (F : Fr h₀ L h' m) (N : News h₀ L h' news') (hn : ∀ p ∈ news, p ∈ news') : Q (.int y t) { s with heap := h', toks := tk' } :=
 (by intro h9x; exact h9x : have h9x : Q (.int y t) { s with heap := h', toks := tk' } := (by
  subst e
  exact hret t h' tk' F fun p hp => N p (hn p hp)
 ); Q (.int y t) { s with heap := h', toks := tk' })
theorem endF {x y : UInt64} (hret : RetF x h₀ L m news s Q) (e : y = x) (F : Fr h₀ L h' m) (N : News h₀ L h' news') (hn : ∀ p ∈ news, p ∈ news') : Q (.float y t) { s with heap := h', toks := tk' } :=
 (by intro h9x; exact h9x : have h9x : Q (.float y t) { s with heap := h', toks := tk' } := (by
  subst e
  exact hret t h' tk' F fun p hp => N p (hn p hp)
 ); Q (.float y t) { s with heap := h', toks := tk' })
theorem endB {x y : Bool} (hret : RetB x h₀ L m news s Q) (e : y = x) (F : Fr h₀ L h' m) (N : News h₀ L h' news') (hn : ∀ p ∈ news, p ∈ news') : Q (.bool y) { s with heap := h', toks := tk' } :=
 (by intro h9x; exact h9x : have h9x : Q (.bool y) { s with heap := h', toks := tk' } := (by
  subst e
  exact hret 0 h' tk' F fun p hp => N p (hn p hp)
 ); Q (.bool y) { s with heap := h', toks := tk' })
end
end AK
namespace AK
abbrev tupObj (vs : List Value) (c : Nat) : Obj := { cls := .type "tuple", data := .seq vs.toArray c }
/-- three ints in a new tuple -/
abbrev RetT3 (x y z : Int) : Post := fun h₀ L m news s Q => ∀ (D : Addr) (t1 t2 t3 : Tok) (c : Nat) (h' : Heap) (tk' : Nat), Fr h₀ L h' m → News h₀ L h' ((D, ({ cls := .type "tuple", data := .seq #[.int x t1, .int y t2, .int z t3] c } : Obj)) :: news) → AllLt D news → Q (.ref D) { s with heap := h', toks := tk' }
theorem endT3 {h₀ h' : Heap} {L D : Addr} {m : Str → Option Value} {news : Led} {s : Shared} {Q : Value → Shared → Prop} {x y z x' y' z' : Int} {t1 t2 t3 : Tok} {c tk' : Nat}
    (hret : RetT3 x y z h₀ L m news s Q) (e1 : x' = x) (e2 : y' = y) (e3 : z' = z) (F : Fr h₀ L h' m) (N : News h₀ L h' ((D, ({ cls := .type "tuple", data := .seq #[.int x' t1, .int y' t2, .int z' t3] c } : Obj)) :: news)) (hl : AllLt D news) :
    Q (.ref D) { s with heap := h', toks := tk' } := by
  subst e1 e2 e3
  exact hret D t1 t2 t3 c h' tk' F N hl
end AK
namespace AK
/-- a value's number by a letter: once -/
def IsVar (_x : Int) : Prop := True
section
variable {M : Model} {A : Around} {E : Value → Shared → Prop} {Q : Unit → Shared → Prop} {s : Shared} {env : Env} {name : Str} {t : Tok} {e : Int}
theorem gen_floatV (_h : IsVar e) (g : wpAny M A (storeName env name (.float (F e) t)) Q E s) : wpAny M A (storeName env name (.float (F e) t)) Q E s := g
theorem gen_float (h : ∀ x, x = e → IsVar x → wpAny M A (storeName env name (.float (F x) t)) Q E s) : wpAny M A (storeName env name (.float (F e) t)) Q E s := h e rfl trivial
theorem gen_intV (_h : IsVar e) (g : wpAny M A (storeName env name (.int e t)) Q E s) : wpAny M A (storeName env name (.int e t)) Q E s := g
theorem gen_int (h : ∀ x, x = e → IsVar x → wpAny M A (storeName env name (.int x t)) Q E s) : wpAny M A (storeName env name (.int e t)) Q E s := h e rfl trivial
end
end AK
namespace AK
/-- a statement's end: one name is set -/
def MidAt (x : Str) (v : Tok → Value) (h₀ : Heap) (L : Addr) (m : Str → Option Value) (news : Led) (s : Shared) (f : Flow) (s' : Shared) : Prop :=
  f = .next ∧ ∃ (t : Tok) (h : Heap) (tk : Nat), s' = { s with heap := h, toks := tk } ∧ Fr h₀ L h (fun z => if z = x then some (v t) else m z) ∧ News h₀ L h news
section
variable {M : Model} {A : Around} {E : Value → Shared → Prop} {s : Shared} {env : Env} {h₀ h : Heap} {L : Addr} {m : Str → Option Value} {news : Led} {x : Str} {v : Tok → Value} {t : Tok} {tk : Nat}
theorem mid_cut {st : Stmt} {Q : Flow → Shared → Prop} (x : Str) (v : Tok → Value) (_F : Fr h₀ L s.heap m) (_N : News h₀ L s.heap news)
    (h1 : wpAny M A (exec st env) (fun f s₂ => MidAt x v h₀ L m news s f s₂) E s)
    (h2 : ∀ (t : Tok) (h : Heap) (tk : Nat), Fr h₀ L h (fun z => if z = x then some (v t) else m z) → News h₀ L h news → Q .next { s with heap := h, toks := tk }) :
    wpAny M A (exec st env) Q E s := by
  refine wpAny_mono h1 (fun f s₂ hq => ?_) fun _ _ h => h
  obtain ⟨rfl, t, h, tk, rfl, F, N⟩ := hq
  exact h2 t h tk F N
theorem mid_end {e y : Int} (he : e = y) (F : Fr h₀ L h (fun z => if z = x then some (.int e t) else m z)) (N : News h₀ L h news) :
    MidAt x (fun t => .int y t) h₀ L m news s .next { s with heap := h, toks := tk } :=
 (by intro h9x; exact h9x : have h9x : MidAt x (fun t => .int y t) h₀ L m news s .next { s with heap := h, toks := tk } := (by
  subst he
  exact ⟨rfl, t, h, tk, rfl, F, N⟩
 ); MidAt x (fun t => .int y t) h₀ L m news s .next { s with heap := h, toks := tk })
theorem mid_end0 {e y : Int} (he : e = y) (hold : m x = some (.int e t)) (F : Fr h₀ L h m) (N : News h₀ L h news) :
    MidAt x (fun t => .int y t) h₀ L m news s .next { s with heap := h, toks := tk } :=
 (by intro h9x; exact h9x : have h9x : MidAt x (fun t => .int y t) h₀ L m news s .next { s with heap := h, toks := tk } := (by
  subst he
  refine ⟨rfl, t, h, tk, rfl, ?_, N⟩
  have e : (fun z => if z = x then some (Value.int e t) else m z) = m := by
    funext z
    by_cases hz : z = x
    · rw [if_pos hz, hz, hold]
    · rw [if_neg hz]
  rw [e]; exact F
 ); MidAt x (fun t => .int y t) h₀ L m news s .next { s with heap := h, toks := tk })
end
/-- the number that a cut is to show (a mark in the context) -/
def Cut (_name : String) (_y : Int) : Prop := True
end AK
namespace AK
theorem mid_cut_int {M : Model} {A : Around} {E : Value → Shared → Prop} {s : Shared} {env : Env} {h₀ : Heap} {L : Addr} {m : Str → Option Value} {news : Led} {st : Stmt} {Q : Flow → Shared → Prop} {name : String} {y : Int} (_hc : Cut name y) (x : Str) (F : Fr h₀ L s.heap m) (N : News h₀ L s.heap news)
    (h1 : wpAny M A (exec st env) (fun f s₂ => MidAt x (fun t => .int y t) h₀ L m news s f s₂) E s)
    (h2 : ∀ (t : Tok) (h : Heap) (tk : Nat), Fr h₀ L h (fun z => if z = x then some (.int y t) else m z) → News h₀ L h news → Q .next { s with heap := h, toks := tk }) :
    wpAny M A (exec st env) Q E s := mid_cut x (fun t => .int y t) F N h1 h2
end AK
namespace AK
/-- an int, by a letter, with its bounds -/
abbrev RetIx (x lo hi : Int) : Post := fun h₀ L m news s Q => ∀ z : Int, z = x → lo ≤ z ∧ z ≤ hi → RetI z h₀ L m news s Q
theorem Claim.mono {w : World} {f : Addr} {vs : List Value} {k k' : Nat} {P P' : Post} (C : Claim w f vs k P) (hk : k ≤ k') (h : ∀ h₀ L m news s Q, P' h₀ L m news s Q → P h₀ L m news s Q) : Claim w f vs k' P' :=
  fun p loose mean mg mb dp un gd cn cs a ccd cl outer A₀ base h₀ L m news s Q E B F X N T hk' hd hu hret =>
    C p loose mean mg mb dp un gd cn cs a ccd cl outer A₀ base h₀ L m news s Q E B F X N T hk' (by omega) (by omega) (h _ _ _ _ _ _ hret)
theorem Claim.letter {w : World} {f : Addr} {vs : List Value} {k : Nat} {x lo hi : Int} (C : Claim w f vs k (RetI x)) (h : lo ≤ x ∧ x ≤ hi) : Claim w f vs k (RetIx x lo hi) :=
  C.mono (Nat.le_refl _) fun _ _ _ _ _ _ hret => hret x rfl h
end AK
theorem AK.gentok_add {M : Model} {A : Around} {α : Type} {t : Sem α} {Q : α → Shared → Prop} {E : Value → Shared → Prop} {h : Heap} {g : Array GenState} {d : Drawn} {o : OsState} {a : Nat} (H : ∀ tk : Nat, wpAny M A t Q E ⟨h, g, d, tk, o⟩) : wpAny M A t Q E ⟨h, g, d, a + 1, o⟩ := H _
theorem AK.gentok_proj {M : Model} {A : Around} {α : Type} {t : Sem α} {Q : α → Shared → Prop} {E : Value → Shared → Prop} {h : Heap} {g : Array GenState} {d : Drawn} {o : OsState} {s : Shared} (H : ∀ tk : Nat, wpAny M A t Q E ⟨h, g, d, tk, o⟩) : wpAny M A t Q E ⟨h, g, d, s.toks, o⟩ := H _
end

section
open PySem PySem.W PyProof.Rows PySem.Calls
set_option maxRecDepth 100000
set_option maxHeartbeats 8000000
set_option rowWalk.seconds 0
local macro_rules | `(tactic| walk_at "AK lit") => `(tactic| first | with_reducible rfl | with_reducible exact AK.k_half | with_reducible exact AK.k_greg | with_reducible exact AK.k_heb | with_reducible exact AK.k_may | with_reducible exact AK.k_arm | with_reducible exact AK.k_sar | with_reducible exact AK.k_fre | with_reducible exact AK.k_365 | with_reducible exact AK.k_98496 | with_reducible exact AK.k_35975351 | with_reducible exact AK.k_36525 | with_reducible exact AK.k_1461 | with_reducible exact AK.k_4 | with_reducible exact AK.k_30)
local macro_rules | `(tactic| walk_at "AK bd") => `(tactic| omega)
local macro_rules | `(tactic| walk_at "binaryOp Add float float") => `(tactic| ((with_reducible refine' AK.r_add_ff ?hx ?hy ?ha ?hb ?_); (case hx => walk_at "AK lit"); (case hy => walk_at "AK lit"); (case ha => walk_at "AK bd"); (case hb => walk_at "AK bd"); (try dsimp only)))
local macro_rules | `(tactic| walk_at "binaryOp Add float int") => `(tactic| ((with_reducible refine' AK.r_add_fi ?hx ?ha ?hb ?_); (case hx => walk_at "AK lit"); (case ha => walk_at "AK bd"); (case hb => walk_at "AK bd"); (try dsimp only)))
local macro_rules | `(tactic| walk_at "binaryOp Add int float") => `(tactic| ((with_reducible refine' AK.r_add_if ?hx ?ha ?hb ?_); (case hx => walk_at "AK lit"); (case ha => walk_at "AK bd"); (case hb => walk_at "AK bd"); (try dsimp only)))
local macro_rules | `(tactic| walk_at "inplaceOp Add float float") => `(tactic| ((with_reducible refine' AK.r_iadd_ff ?hx ?hy ?ha ?hb ?_); (case hx => walk_at "AK lit"); (case hy => walk_at "AK lit"); (case ha => walk_at "AK bd"); (case hb => walk_at "AK bd"); (try dsimp only)))
local macro_rules | `(tactic| walk_at "inplaceOp Add float int") => `(tactic| ((with_reducible refine' AK.r_iadd_fi ?hx ?ha ?hb ?_); (case hx => walk_at "AK lit"); (case ha => walk_at "AK bd"); (case hb => walk_at "AK bd"); (try dsimp only)))
local macro_rules | `(tactic| walk_at "inplaceOp Add int float") => `(tactic| ((with_reducible refine' AK.r_iadd_if ?hx ?ha ?hb ?_); (case hx => walk_at "AK lit"); (case ha => walk_at "AK bd"); (case hb => walk_at "AK bd"); (try dsimp only)))
local macro_rules | `(tactic| walk_at "binaryOp Sub float float") => `(tactic| ((with_reducible refine' AK.r_sub_ff ?hx ?hy ?ha ?hb ?_); (case hx => walk_at "AK lit"); (case hy => walk_at "AK lit"); (case ha => walk_at "AK bd"); (case hb => walk_at "AK bd"); (try dsimp only)))
local macro_rules | `(tactic| walk_at "binaryOp Sub float int") => `(tactic| ((with_reducible refine' AK.r_sub_fi ?hx ?ha ?hb ?_); (case hx => walk_at "AK lit"); (case ha => walk_at "AK bd"); (case hb => walk_at "AK bd"); (try dsimp only)))
local macro_rules | `(tactic| walk_at "binaryOp Sub int float") => `(tactic| ((with_reducible refine' AK.r_sub_if ?hx ?ha ?hb ?_); (case hx => walk_at "AK lit"); (case ha => walk_at "AK bd"); (case hb => walk_at "AK bd"); (try dsimp only)))
local macro_rules | `(tactic| walk_at "binaryOp Mult float float") => `(tactic| ((with_reducible refine' AK.r_mul_ff ?hx ?hy ?h1 ?h2 ?h3 ?h4 ?h5 ?_); (case hx => walk_at "AK lit"); (case hy => walk_at "AK lit"); (case h1 => walk_at "AK bd"); (case h2 => walk_at "AK bd"); (case h3 => walk_at "AK bd"); (case h4 => walk_at "AK bd"); (case h5 => walk_at "AK bd"); (try dsimp only)))
local macro_rules | `(tactic| walk_at "binaryOp Mult float int") => `(tactic| ((with_reducible refine' AK.r_mul_fi ?hx ?h1 ?h2 ?h3 ?h4 ?h5 ?_); (case hx => walk_at "AK lit"); (case h1 => walk_at "AK bd"); (case h2 => walk_at "AK bd"); (case h3 => walk_at "AK bd"); (case h4 => walk_at "AK bd"); (case h5 => walk_at "AK bd"); (try dsimp only)))
local macro_rules | `(tactic| walk_at "binaryOp Mult int float") => `(tactic| ((with_reducible refine' AK.r_mul_if ?hx ?h1 ?h2 ?h3 ?h4 ?h5 ?_); (case hx => walk_at "AK lit"); (case h1 => walk_at "AK bd"); (case h2 => walk_at "AK bd"); (case h3 => walk_at "AK bd"); (case h4 => walk_at "AK bd"); (case h5 => walk_at "AK bd"); (try dsimp only)))
local macro_rules | `(tactic| walk_at "binaryOp Div float float") => `(tactic| ((with_reducible refine' AK.r_div_ff ?hx ?hy ?h1 ?h2 ?_); (case hx => walk_at "AK lit"); (case hy => walk_at "AK lit"); (case h1 => walk_at "AK bd"); (case h2 => walk_at "AK bd"); (try dsimp only)))
local macro_rules | `(tactic| walk_at "binaryOp Div float int") => `(tactic| ((with_reducible refine' AK.r_div_fi ?hx ?h1 ?h2 ?_); (case hx => walk_at "AK lit"); (case h1 => walk_at "AK bd"); (case h2 => walk_at "AK bd"); (try dsimp only)))
local macro_rules | `(tactic| walk_at "binaryOp Div int float") => `(tactic| ((with_reducible refine' AK.r_div_if ?hy ?h1 ?h2 ?h3 ?_); (case hy => walk_at "AK lit"); (case h1 => walk_at "AK bd"); (case h2 => walk_at "AK bd"); (case h3 => walk_at "AK bd"); (try dsimp only)))
local macro_rules | `(tactic| walk_at "binaryOp Div int int") => `(tactic| ((with_reducible refine' AK.r_div_ii ?h1 ?h2 ?h3 ?_); (case h1 => walk_at "AK bd"); (case h2 => walk_at "AK bd"); (case h3 => walk_at "AK bd"); (try dsimp only)))
local macro_rules | `(tactic| walk_at "binaryOp Mod float float") => `(tactic| ((with_reducible refine' AK.r_mod_ff ?hx ?hy ?h1 ?h2 ?h3 ?_); (case hx => walk_at "AK lit"); (case hy => walk_at "AK lit"); (case h1 => walk_at "AK bd"); (case h2 => walk_at "AK bd"); (case h3 => walk_at "AK bd"); (try dsimp only)))
local macro_rules | `(tactic| walk_at "binaryOp Mod float int") => `(tactic| ((with_reducible refine' AK.r_mod_fi ?hx ?h1 ?h2 ?h3 ?_); (case hx => walk_at "AK lit"); (case h1 => walk_at "AK bd"); (case h2 => walk_at "AK bd"); (case h3 => walk_at "AK bd"); (try dsimp only)))
local macro_rules | `(tactic| walk_at "binaryOp Mod int float") => `(tactic| ((with_reducible refine' AK.r_mod_if ?hy ?h1 ?h2 ?h3 ?_); (case hy => walk_at "AK lit"); (case h1 => walk_at "AK bd"); (case h2 => walk_at "AK bd"); (case h3 => walk_at "AK bd"); (try dsimp only)))
local macro_rules | `(tactic| walk_at "binaryOp Mod int int") => `(tactic| ((with_reducible refine' AK.r_mod_ii ?h1 ?_); (case h1 => walk_at "AK bd"); (try dsimp only)))
local macro_rules | `(tactic| walk_at "binaryOp FloorDiv int int") => `(tactic| ((with_reducible refine' AK.r_fdiv_small ?h1 ?h2 ?h3 ?_); (case h1 => walk_at "AK bd"); (case h2 => walk_at "AK bd"); (case h3 => walk_at "AK bd"); (try dsimp only)))
local macro_rules | `(tactic| walk_at "call builtin:math.floor") => `(tactic| ((with_reducible show wpAny _ _ (call (Value.builtin "math.floor") [Value.float (Float64.div (AK.F _) (AK.F _)) _]) _ _ _); k_dflt (refine' AK.r_floor_div ?h1 ?h2 ?h3 ?h4 ?_ ?hA; (case hA => exact rfl); (case h1 => walk_at "AK bd"); (case h2 => walk_at "AK bd"); (case h3 => walk_at "AK bd"); (case h4 => walk_at "AK bd")); (try dsimp only)))
local macro_rules | `(tactic| walk_at "call builtin:math.floor") => `(tactic| ((with_reducible show wpAny _ _ (call (Value.builtin "math.floor") [Value.float (AK.frac _ _) _]) _ _ _); k_dflt (refine' AK.r_floor_frac ?h1 ?h2 ?h4 ?_ ?hA; (case hA => exact rfl); (case h1 => walk_at "AK bd"); (case h2 => walk_at "AK bd"); (case h4 => walk_at "AK bd")); (try dsimp only)))
local macro_rules | `(tactic| walk_at "call builtin:math.floor") => `(tactic| ((with_reducible show wpAny _ _ (call (Value.builtin "math.floor") [Value.float (AK.F _) _]) _ _ _); k_dflt (refine' AK.r_floor rfl ?h1 ?_ ?hA; (case hA => exact rfl); (case h1 => walk_at "AK bd")); (try dsimp only)))
local macro_rules | `(tactic| walk_at "call builtin:math.trunc") => `(tactic| ((with_reducible show wpAny _ _ (call (Value.builtin "math.trunc") [Value.float (Float64.div (AK.F _) (AK.F _)) _]) _ _ _); k_dflt (refine' AK.r_trunc_div ?h1 ?h2 ?h3 ?h4 ?h5 ?_ ?hA; (case hA => exact rfl); (case h1 => walk_at "AK bd"); (case h2 => walk_at "AK bd"); (case h3 => walk_at "AK bd"); (case h4 => walk_at "AK bd"); (case h5 => walk_at "AK bd")); (try dsimp only)))
local macro_rules | `(tactic| walk_at "call builtin:math.trunc") => `(tactic| ((with_reducible show wpAny _ _ (call (Value.builtin "math.trunc") [Value.float (AK.frac _ _) _]) _ _ _); k_dflt (refine' AK.r_trunc_frac ?h1 ?h2 ?h3 ?h4 ?_ ?hA; (case hA => exact rfl); (case h1 => walk_at "AK bd"); (case h2 => walk_at "AK bd"); (case h3 => walk_at "AK bd"); (case h4 => walk_at "AK bd")); (try dsimp only)))
local macro_rules | `(tactic| walk_at "call builtin:math.trunc") => `(tactic| ((with_reducible show wpAny _ _ (call (Value.builtin "math.trunc") [Value.float (AK.F _) _]) _ _ _); k_dflt (refine' AK.r_trunc rfl ?h1 ?h2 ?_ ?hA; (case hA => exact rfl); (case h1 => walk_at "AK bd"); (case h2 => walk_at "AK bd")); (try dsimp only)))
local macro_rules | `(tactic| walk_at "call type:int") => `(tactic| ((with_reducible show wpAny _ _ (call _ [Value.float (AK.F _) _]) _ _ _); k_dflt (refine' AK.r_int rfl ?h1 ?h2 ?_ ?hA; (case hA => exact rfl); (case h1 => walk_at "AK bd"); (case h2 => walk_at "AK bd")); (try dsimp only)))
local macro_rules | `(tactic| walk_at "compareOp Lt float float") => `(tactic| ((with_reducible refine' AK.r_lt_ff ?hx ?hy ?ha ?hb ?_); (case hx => walk_at "AK lit"); (case hy => walk_at "AK lit"); (case ha => walk_at "AK bd"); (case hb => walk_at "AK bd"); (try dsimp only)))
local macro_rules | `(tactic| walk_at "compareOp Gt float float") => `(tactic| ((with_reducible refine' AK.r_gt_ff ?hx ?hy ?ha ?hb ?_); (case hx => walk_at "AK lit"); (case hy => walk_at "AK lit"); (case ha => walk_at "AK bd"); (case hb => walk_at "AK bd"); (try dsimp only)))
local macro_rules | `(tactic| walk_at "compareOp LtE float float") => `(tactic| ((with_reducible refine' AK.r_le_ff ?hx ?hy ?ha ?hb ?_); (case hx => walk_at "AK lit"); (case hy => walk_at "AK lit"); (case ha => walk_at "AK bd"); (case hb => walk_at "AK bd"); (try dsimp only)))
local macro_rules | `(tactic| walk_at "compareOp GtE float float") => `(tactic| ((with_reducible refine' AK.r_ge_ff ?hx ?hy ?ha ?hb ?_); (case hx => walk_at "AK lit"); (case hy => walk_at "AK lit"); (case ha => walk_at "AK bd"); (case hb => walk_at "AK bd"); (try dsimp only)))
local macro_rules | `(tactic| walk_at "compareOp Eq float float") => `(tactic| ((with_reducible refine' AK.r_eq_ff ?hx ?hy ?ha ?hb ?_); (case hx => walk_at "AK lit"); (case hy => walk_at "AK lit"); (case ha => walk_at "AK bd"); (case hb => walk_at "AK bd"); (try dsimp only)))
local macro_rules | `(tactic| walk_at "compareOp NotEq float float") => `(tactic| ((with_reducible refine' AK.r_ne_ff ?hx ?hy ?ha ?hb ?_); (case hx => walk_at "AK lit"); (case hy => walk_at "AK lit"); (case ha => walk_at "AK bd"); (case hb => walk_at "AK bd"); (try dsimp only)))
local macro_rules | `(tactic| walk_at "compareOp Lt float int") => `(tactic| ((with_reducible refine' AK.r_lt_fi ?hx ?ha ?hb ?_); (case hx => walk_at "AK lit"); (case ha => walk_at "AK bd"); (case hb => walk_at "AK bd"); (try dsimp only)))
local macro_rules | `(tactic| walk_at "compareOp Eq float int") => `(tactic| ((with_reducible refine' AK.r_eq_fi ?hx ?ha ?hb ?_); (case hx => walk_at "AK lit"); (case ha => walk_at "AK bd"); (case hb => walk_at "AK bd"); (try dsimp only)))
local macro_rules | `(tactic| walk_at "AK claim") => `(tactic| (unfold AK.Claim; k_fill; intro p loose mean mg mb dp un gd cn cs a ccd cl outer A₀ base h₀ L mm news s Q E B F X N T hk hdp hun hret; refine wpAny_call ?_; k_dflt cell_enter; k_steps))
local macro_rules | `(tactic| walk_at "AK use") => `(tactic| ((case k1 => k_asm); (case k2 => k_asm); (case k3 => k_asm); (case k4 => k_asm); (case k5 => k_asm); (case kK => first | exact rfl | assumption); (case kd => ktr_room); (case ku => ktr_units)))
local macro_rules | `(tactic| walk_at "compareOp Eq int int") => `(tactic| ((with_reducible refine' AK.r_eq_ii ?_); (try dsimp only)))
local macro_rules | `(tactic| walk_at "compareOp NotEq int int") => `(tactic| ((with_reducible refine' AK.r_ne_ii ?_); (try dsimp only)))
local macro_rules | `(tactic| walk_at "compareOp In int ref") => `(tactic| (k_here; (with_reducible show wpAny _ _ (compareOp _ _ (Value.ref 90)) _ _ _); k_dflt (refine' AK.r_in4 ?k1 ?k2 ?k3 ?e1 ?e2 ?e3 ?e4 ?_; (case k1 => k_asm); (case k2 => k_asm); (case k3 => k_is); (case e1 => exact rfl); (case e2 => exact rfl); (case e3 => exact rfl); (case e4 => exact rfl)); (try dsimp only)))
local macro_rules | `(tactic| walk_at "binaryOp Add float int") => `(tactic| ((with_reducible show wpAny _ _ (binaryOp _ (Value.float (AK.frac _ _) _) _) _ _ _); (with_reducible refine' AK.r_add_raw ?h1 ?_); (case h1 => walk_at "AK bd"); (try dsimp only)))
local macro_rules | `(tactic| walk_at "binaryOp Add float int") => `(tactic| ((with_reducible show wpAny _ _ (binaryOp _ (Value.float (Float64.add _ _) _) _) _ _ _); (with_reducible refine' AK.r_add_raw ?h1 ?_); (case h1 => walk_at "AK bd"); (try dsimp only)))
local macro_rules | `(tactic| walk_at "call builtin:math.floor") => `(tactic| ((with_reducible show wpAny _ _ (call (Value.builtin "math.floor") [Value.float (Float64.add (Float64.add (AK.frac _ _) _) _) _]) _ _ _); k_dflt (refine' AK.r_floor_month ?h1 ?h2 ?h3 ?_ ?hA; (case hA => exact rfl); (case h1 => walk_at "AK bd"); (case h2 => walk_at "AK bd"); (case h3 => walk_at "AK bd")); (try dsimp only)))
local macro_rules | `(tactic| walk_at "compareOp NotEq float int") => `(tactic| ((with_reducible refine' AK.r_ne_fi ?hx ?ha ?hb ?_); (case hx => walk_at "AK lit"); (case ha => walk_at "AK bd"); (case hb => walk_at "AK bd"); (try dsimp only)))
local macro_rules | `(tactic| walk_at "AK sub") => `(tactic| (intro p9 hp9; first | exact hp9 | exact List.mem_cons_of_mem _ hp9 | exact List.mem_cons_of_mem _ (List.mem_cons_of_mem _ hp9) | exact List.mem_cons_of_mem _ (List.mem_cons_of_mem _ (List.mem_cons_of_mem _ hp9))))
local macro_rules | `(tactic| walk_at "AK endI") => `(tactic| (refine AK.endI (by assumption) ?_ (by k_asm) (by k_asm) (by walk_at "AK sub")))
local macro_rules | `(tactic| walk_at "AK endF") => `(tactic| (refine AK.endF (by assumption) (congrArg AK.F ?_) (by k_asm) (by k_asm) (by walk_at "AK sub")))
local macro_rules | `(tactic| walk_at "AK endB") => `(tactic| (refine AK.endB (by assumption) ?_ (by k_asm) (by k_asm) (by walk_at "AK sub")))
local macro_rules | `(tactic| walk_at "execs cons") => `(tactic| first | with_reducible refine AK.gentok_add (fun tk => ?_) | with_reducible refine AK.gentok_proj (fun tk => ?_))
local macro_rules | `(tactic| walk_at "execs nil") => `(tactic| first | with_reducible refine AK.gentok_add (fun tk => ?_) | with_reducible refine AK.gentok_proj (fun tk => ?_))
local macro_rules | `(tactic| walk_at "eval Name") => `(tactic| (k_here; (with_reducible show wpAny _ _ (eval (Expr.Name _ _) (envOf _ _ _ _ _)) _ _ _); name_kind "local"; k_dflt (refine' ld ?k1 ?k2 ?_; (case k1 => k_asm); (case k2 => exact rfl); k_whole)))
local macro_rules | `(tactic| walk_at "eval Name") => `(tactic| (k_here; (with_reducible show wpAny _ _ (eval (Expr.Name _ _) (envOf _ _ _ _ _)) _ _ _); name_kind "globalImplicit"; k_dflt (first | (refine' nameX_K ?F ?X ?T ?e ?_ ?a ?b; (case F => k_asm); (case X => k_asm); (case T => k_asm); (case a => rfl); (case b => rfl); (case e => k_is); k_whole) | (refine' nameX_B ?F ?X ?T ?e ?v ?n ?_ ?a ?b; (case F => k_asm); (case X => k_asm); (case T => k_asm); (case a => rfl); (case b => rfl); (case e => k_is); (case v => boot_fast); (case n => decide); k_whole))))

section
namespace AK

theorem c_isleap (w : World) (y : Int) (t : Tok) : Claim w 97 [.int y t] 1 (RetB (leapG y)) :=
 (by intro h9x; exact h9x : have h9x : Claim w 97 [.int y t] 1 (RetB (leapG y)) := (by
  walk_at "AK claim"
  all_goals (refine endB (by assumption) ?_ (by k_asm) (by k_asm) (fun _ h => h))
  all_goals (rw [Bool.eq_iff_iff, leapG_iff]; simp only [decide_eq_true_eq, Bool.not_eq_true', decide_eq_false_iff_not]; omega)
 ); Claim w 97 [.int y t] 1 (RetB (leapG y)))
theorem c_isleap' (w : World) (y : Int) (t : Tok) (b : Bool) (h : leapG y = b) : Claim w 97 [.int y t] 1 (RetB b) := h ▸ c_isleap w y t

local macro_rules | `(tactic| walk_at "call ref") => `(tactic| (k_here; (with_reducible show wpAny _ _ (call (Value.ref 97) _ _) _ _ _); k_dflt (refine' Claim.use (c_isleap' _ _ _ _ (by assumption)) ?k1 ?k2 ?k3 ?k4 ?k5 ?kK ?kd ?ku ?_; walk_at "AK use"); intro t9 h9 tk9 F9 N9; (try dsimp only); (try k_sweep)))

theorem c_legal (w : World) (y m d : Int) (t t1 t2 : Tok) (hm : 1 ≤ m ∧ m ≤ 12) (hd : 1 ≤ d ∧ d ≤ dimG y m) : Claim w 104 [.int y t, .int m t1, .int d t2] 3 (RetB true) :=
 (by intro h9x; exact h9x : have h9x : Claim w 104 [.int y t, .int m t1, .int d t2] 3 (RetB true) := (by
  unfold dimG at hd
  by_cases h2 : m = 2
  · rw [if_pos h2] at hd
    cases hb : leapG y
    · rw [hb, if_neg (by decide)] at hd
      walk_at "AK claim"
      all_goals (refine endB (by assumption) rfl (by k_asm) (by k_asm) (fun _ h => h))
    · rw [hb, if_pos rfl] at hd
      walk_at "AK claim"
      all_goals (refine endB (by assumption) rfl (by k_asm) (by k_asm) (fun _ h => h))
  · rw [if_neg h2] at hd
    by_cases h4 : m = 4 ∨ m = 6 ∨ m = 9 ∨ m = 11
    · rw [if_pos h4] at hd
      walk_at "AK claim"
      all_goals (refine endB (by assumption) rfl (by k_asm) (by k_asm) (fun _ h => h))
    · rw [if_neg h4] at hd
      walk_at "AK claim"
      all_goals (refine endB (by assumption) rfl (by k_asm) (by k_asm) (fun _ h => h))
 ); Claim w 104 [.int y t, .int m t1, .int d t2] 3 (RetB true))
end AK
end

section
local macro_rules | `(tactic| walk_at "call ref") => `(tactic| (k_here; (with_reducible show wpAny _ _ (call (Value.ref 97) _ _) _ _ _); k_dflt (refine' AK.Claim.use (AK.c_isleap' _ _ _ _ ?hb) ?k1 ?k2 ?k3 ?k4 ?k5 ?kK ?kd ?ku ?_; (case hb => assumption); walk_at "AK use"); intro t9 h9 tk9 F9 N9; (try dsimp only); (try k_sweep)))
local macro_rules | `(tactic| walk_at "call ref") => `(tactic| (k_here; (with_reducible show wpAny _ _ (call (Value.ref 104) _ _) _ _ _); k_dflt (refine' AK.Claim.use (AK.c_legal _ _ _ _ _ _ _ ?p1 ?p2) ?k1 ?k2 ?k3 ?k4 ?k5 ?kK ?kd ?ku ?_; (case p1 => walk_at "AK bd"); (case p2 => assumption); walk_at "AK use"); intro t9 h9 tk9 F9 N9; (try dsimp only); (try k_sweep)))
namespace AK
theorem c_tojd_g (w : World) (y m d : Int) (t t1 t2 : Tok) (hy : y.natAbs < 2 ^ 20) (h : IsDate y m d) : Claim w 111 [.int y t, .int m t1, .int d t2] 6 (RetF (F (6885698 + 4 * gJ y m d))) :=
 (by intro h9x; exact h9x : have h9x : Claim w 111 [.int y t, .int m t1, .int d t2] 6 (RetF (F (6885698 + 4 * gJ y m d))) := (by
  have hm : 1 ≤ m ∧ m ≤ 12 := ⟨h.m1, h.m2⟩
  have hd : 1 ≤ d ∧ d ≤ dimG y m := ⟨h.d1, h.d2⟩
  have hd3 := dimG_pos y m
  have hJ : gJ y m d = 365 * (y - 1) + (y - 1) / 4 - (y - 1) / 100 + (y - 1) / 400 + ((367 * m - 362) / 12 + ladj y m + d) := rfl
  clear h
  by_cases h2 : m ≤ 2
  · have hl : ladj y m = 0 := by unfold ladj; rw [if_pos h2]
    walk_at "AK claim"
    all_goals (refine endF (by assumption) (congrArg F ?_) (by k_asm) (by k_asm) (fun _ h => h))
    all_goals (rw [hJ, hl]; omega)
  · cases hb : leapG y
    · have hl : ladj y m = -2 := by unfold ladj; rw [if_neg h2, hb]; rfl
      walk_at "AK claim"
      all_goals (refine endF (by assumption) (congrArg F ?_) (by k_asm) (by k_asm) (fun _ h => h))
      all_goals (rw [hJ, hl]; omega)
    · have hl : ladj y m = -1 := by unfold ladj; rw [if_neg h2, hb]; rfl
      walk_at "AK claim"
      all_goals (refine endF (by assumption) (congrArg F ?_) (by k_asm) (by k_asm) (fun _ h => h))
      all_goals (rw [hJ, hl]; omega)
 ); Claim w 111 [.int y t, .int m t1, .int d t2] 6 (RetF (F (6885698 + 4 * gJ y m d))))
end AK
end

section
namespace AK
theorem c_tojd_m (w : World) (y m m' d : Int) (t t1 t2 : Tok) (hy : y.natAbs < 2 ^ 20) (h : IsDate y m d) (e : m' = m) : Claim w 111 [.int y t, .int m' t1, .int d t2] 6 (RetF (F (6885698 + 4 * gJ y m d))) := e ▸ c_tojd_g w y m d t t1 t2 hy h
theorem month_by {X m x : Int} (k : X / 367 = m) (h : x = X / 367) : x = m := h.trans k
end AK
end

section
local macro_rules | `(tactic| walk_at "storeName") => `(tactic| ((with_reducible show wpAny _ _ (storeName _ _ (Value.float (AK.F _) _)) _ _ _); (fail_if_success (with_reducible refine AK.gen_floatV (by with_reducible assumption) ?_)); (with_reducible refine AK.gen_float ?_); intro x9 hx9 hv9; walk_say "LETTER"))
local macro_rules | `(tactic| walk_at "storeName") => `(tactic| ((with_reducible show wpAny _ _ (storeName _ _ (Value.int _ _)) _ _ _); (fail_if_success (with_reducible refine AK.gen_intV (by with_reducible assumption) ?_)); (with_reducible refine AK.gen_int ?_); intro x9 hx9 hv9; walk_say "LETTER"))
local macro_rules | `(tactic| walk_at "call ref") => `(tactic| (k_here; (with_reducible show wpAny _ _ (call (Value.ref 97) _ _) _ _ _); k_dflt (refine' AK.Claim.use (AK.c_isleap _ _ _) ?k1 ?k2 ?k3 ?k4 ?k5 ?kK ?kd ?ku ?_;  walk_at "AK use"); intro t9 h9 tk9 F9 N9; (try dsimp only); (try k_sweep)))
local macro_rules | `(tactic| walk_at "call ref") => `(tactic| (k_here; (with_reducible show wpAny _ _ (call (Value.ref 111) _ _) _ _ _); k_dflt (refine' AK.Claim.use (AK.c_tojd_g _ _ _ _ _ _ _ ?p1 ?p2) ?k1 ?k2 ?k3 ?k4 ?k5 ?kK ?kd ?ku ?_; (case p1 => walk_at "AK bd"); (case p2 => first | assumption | (exact AK.first_date (by walk_at "AK bd"))); walk_at "AK use"); intro t9 h9 tk9 F9 N9; (try dsimp only); (try k_sweep)))
local macro_rules | `(tactic| walk_at "call ref") => `(tactic| (k_here; (with_reducible show wpAny _ _ (call (Value.ref 111) _ _) _ _ _); k_dflt (refine' AK.Claim.use (AK.c_tojd_m _ _ _ _ _ _ _ _ ?p1 ?p2 ?e) ?k1 ?k2 ?k3 ?k4 ?k5 ?kK ?kd ?ku ?_; (case e => exact AK.month_by (by assumption) (by omega)); (case p1 => omega); (case p2 => exact AK.first_date (by omega)); walk_at "AK use"); intro t9 h9 tk9 F9 N9; (try dsimp only); (try k_sweep)))
local macro_rules | `(tactic| walk_at "exec If") => `(tactic| (k_here; (with_reducible show wpAny _ _ (exec (Stmt.If _ [Stmt.AugAssign (Expr.Name (Str.ofString "year") _) _ _ _] _ _) _) _ _ _); (with_reducible rename AK.Cut "year" _ => hCut9); (rename Fr _ _ _ _ => cF9); (rename News _ _ _ _ => cN9); k_dflt (refine' AK.mid_cut_int hCut9 (Str.ofString "year") cF9 cN9 ?_ (fun t9 h9 tk9 F9 N9 => ?_)); (all_goals (try clear hCut9)); (all_goals (try dsimp only)); (all_goals (try k_fold)); (all_goals (try k_sweep)); walk_say "CUT"))
local macro_rules | `(tactic| walk_at "exec If") => `(tactic| (k_here; (with_reducible show wpAny _ _ (exec (Stmt.If _ [Stmt.Assign [Expr.Name (Str.ofString "leap_adj") _] _ _] _ _) _) _ _ _); (with_reducible rename AK.Cut "leap_adj" _ => hCut9); (rename Fr _ _ _ _ => cF9); (rename News _ _ _ _ => cN9); k_dflt (refine' AK.mid_cut_int hCut9 (Str.ofString "leap_adj") cF9 cN9 ?_ (fun t9 h9 tk9 F9 N9 => ?_)); (all_goals (try clear hCut9)); (all_goals (try dsimp only)); (all_goals (try k_fold)); (all_goals (try k_sweep)); walk_say "CUT"))
local macro_rules | `(tactic| walk_at "AK mid") => `(tactic| first | ((have q9 := AK.yr_path (by assumption) (by assumption) (by assumption) (by assumption) (by assumption) (by assumption) (by assumption) (by assumption) (by assumption) (by assumption) (by assumption) (by assumption)); omega) | ((have q9 := AK.la_1 (by assumption) (by omega)); omega) | ((have q9 := AK.la_2 (by assumption) (by assumption) (by omega)); omega) | ((have q9 := AK.la_3 (by assumption) (by first | assumption | (simp only [*]; decide)) (by omega)); omega))
local macro_rules | `(tactic| walk_at "MidAt") => `(tactic| (walk_say "MID"; first | (refine' AK.mid_end ?he ?F ?N; (case F => k_asm); (case N => k_asm); (case he => walk_at "AK mid")) | (refine' AK.mid_end0 ?he ?hold ?F ?N; (case F => k_asm); (case N => k_asm); (case hold => with_unfolding_all rfl); (case he => walk_at "AK mid"))))
namespace AK
theorem c_fromjd_g (w : World) (y m d n : Int) (t : Tok) (hy : y.natAbs < 2 ^ 19) (h : IsDate y m d) (hn : n = 6885698 + 4 * gJ y m d) : Claim w 118 [.float (F n) t] 12 (RetT3 y m d) :=
 (by intro h9x; exact h9x : have h9x : Claim w 118 [.float (F n) t] 12 (RetT3 y m d) := (by
  have hr := gJ_range h (by omega)
  obtain ⟨k1, k2, k3, k4⟩ := fromJd_ok h
  have hm : 1 ≤ m ∧ m ≤ 12 := ⟨h.m1, h.m2⟩
  have hr1 := gJ_range (first_date (y := y) (m := 1) (by omega)) (by omega)
  have hrm := gJ_range (first_date (y := y) (m := m) hm) (by omega)
  clear h
  generalize hD : gJ y m d - 1 = D at *
  have hn' : n = 6885702 + 4 * D := by omega
  clear hn hD
  unfold monthOf at k3
  generalize hla : (if D - gJ y 1 1 + 1 < 58 + (if leapG y = true then 1 else 0) then (0 : Int) else if leapG y = true then 1 else 2) = la at k3
  have hlr : 0 ≤ la ∧ la ≤ 2 := by rw [← hla]; (repeat' split) <;> omega
  have hcy : Cut "year" y := trivial
  have hcl : Cut "leap_adj" la := trivial
  walk_at "AK claim"
  all_goals (refine endT3 (by assumption) ?_ ?_ ?_ (by k_asm) (by k_asm) (allLt_of (by k_asm)))
  all_goals first | rfl | omega
 ); Claim w 118 [.float (F n) t] 12 (RetT3 y m d))
end AK
end

section
local macro_rules | `(tactic| walk_at "storeName") => `(tactic| ((with_reducible show wpAny _ _ (storeName _ _ (Value.float (AK.F _) _)) _ _ _); (fail_if_success (with_reducible refine AK.gen_floatV (by with_reducible assumption) ?_)); (with_reducible refine AK.gen_float ?_); intro x9 hx9 hv9; walk_say "LETTER"))
local macro_rules | `(tactic| walk_at "storeName") => `(tactic| ((with_reducible show wpAny _ _ (storeName _ _ (Value.int _ _)) _ _ _); (fail_if_success (with_reducible refine AK.gen_intV (by with_reducible assumption) ?_)); (with_reducible refine AK.gen_int ?_); intro x9 hx9 hv9; walk_say "LETTER"))
namespace AK
theorem c_leapH (w : World) (y : Int) (t : Tok) (hy : y.natAbs < 2 ^ 18) : Claim w 125 [.int y t] 1 (RetB (leapH y)) :=
 (by intro h9x; exact h9x : have h9x : Claim w 125 [.int y t] 1 (RetB (leapH y)) := (by
  walk_at "AK claim"
  all_goals walk_at "AK endB"
  all_goals (unfold leapH; rfl)
 ); Claim w 125 [.int y t] 1 (RetB (leapH y)))
theorem c_leapH' (w : World) (y : Int) (t : Tok) (b : Bool) (hy : y.natAbs < 2 ^ 18) (h : leapH y = b) : Claim w 125 [.int y t] 1 (RetB b) := h ▸ c_leapH w y t hy
theorem c_delay1 (w : World) (y : Int) (t : Tok) (hy : y.natAbs < 2 ^ 18) : Claim w 139 [.int y t] 1 (RetI (dly1 y)) :=
 (by intro h9x; exact h9x : have h9x : Claim w 139 [.int y t] 1 (RetI (dly1 y)) := (by
  walk_at "AK claim"
  all_goals walk_at "AK endI"
  all_goals (have q := dly1_path (by assumption) (by assumption) (by assumption); unfold dly1; rw [q]; split <;> omega)
 ); Claim w 139 [.int y t] 1 (RetI (dly1 y)))
end AK
end

section
local macro_rules | `(tactic| walk_at "storeName") => `(tactic| ((with_reducible show wpAny _ _ (storeName _ _ (Value.float (AK.F _) _)) _ _ _); (fail_if_success (with_reducible refine AK.gen_floatV (by with_reducible assumption) ?_)); (with_reducible refine AK.gen_float ?_); intro x9 hx9 hv9; walk_say "LETTER"))
local macro_rules | `(tactic| walk_at "storeName") => `(tactic| ((with_reducible show wpAny _ _ (storeName _ _ (Value.int _ _)) _ _ _); (fail_if_success (with_reducible refine AK.gen_intV (by with_reducible assumption) ?_)); (with_reducible refine AK.gen_int ?_); intro x9 hx9 hv9; walk_say "LETTER"))
local macro_rules | `(tactic| walk_at "call ref") => `(tactic| (k_here; (with_reducible show wpAny _ _ (call (Value.ref 139) _ _) _ _ _); k_dflt (refine' AK.Claim.use (AK.c_delay1 _ _ _ ?p1) ?k1 ?k2 ?k3 ?k4 ?k5 ?kK ?kd ?ku ?_; (case p1 => omega); walk_at "AK use"); intro t9 h9 tk9 F9 N9; (try dsimp only); (try k_sweep)))
local macro_rules | `(tactic| walk_at "call ref") => `(tactic| (k_here; (with_reducible show wpAny _ _ (call (Value.ref 125) _ _) _ _ _); k_dflt (refine' AK.Claim.use (AK.c_leapH _ _ _ ?p1) ?k1 ?k2 ?k3 ?k4 ?k5 ?kK ?kd ?ku ?_; (case p1 => omega); walk_at "AK use"); intro t9 h9 tk9 F9 N9; (try dsimp only); (try k_sweep)))
local macro_rules | `(tactic| walk_at "call ref") => `(tactic| (k_here; (with_reducible show wpAny _ _ (call (Value.ref 125) _ _) _ _ _); k_dflt (refine' AK.Claim.use (AK.c_leapH' _ _ _ _ ?p1 ?hb) ?k1 ?k2 ?k3 ?k4 ?k5 ?kK ?kd ?ku ?_; (case hb => assumption); (case p1 => omega); walk_at "AK use"); intro t9 h9 tk9 F9 N9; (try dsimp only); (try k_sweep)))
namespace AK
theorem c_delay2 (w : World) (y : Int) (t : Tok) (hy : y.natAbs < 2 ^ 17) : Claim w 146 [.int y t] 3 (RetI (dly2 y)) :=
 (by intro h9x; exact h9x : have h9x : Claim w 146 [.int y t] 3 (RetI (dly2 y)) := (by
  have r1 := dly1_range (y := y) (by omega)
  have r2 := dly1_range (y := y + 1) (by omega)
  have r3 := dly1_range (y := y - 1) (by omega)
  have hd : dly2 y = if dly1 (y + 1) - dly1 y = 356 then 2 else if dly1 y - dly1 (y - 1) = 382 then 1 else 0 := rfl
  walk_at "AK claim"
  all_goals walk_at "AK endI"
  all_goals (rw [hd]; (repeat' split) <;> omega)
 ); Claim w 146 [.int y t] 3 (RetI (dly2 y)))
theorem c_ymonths (w : World) (y : Int) (t : Tok) (b : Bool) (hy : y.natAbs < 2 ^ 17) (hb : leapH y = b) : Claim w 132 [.int y t] 3 (RetI (if b = true then 13 else 12)) :=
 (by intro h9x; exact h9x : have h9x : Claim w 132 [.int y t] 3 (RetI (if b = true then 13 else 12)) := (by
  cases b
  · walk_at "AK claim"
    all_goals walk_at "AK endI"
    all_goals rfl
  · walk_at "AK claim"
    all_goals walk_at "AK endI"
    all_goals rfl
 ); Claim w 132 [.int y t] 3 (RetI (if b = true then 13 else 12)))
end AK
end

section
local macro_rules | `(tactic| walk_at "AK pad") => `(tactic| skip)
local macro_rules | `(tactic| walk_at "call ref") => `(tactic| (k_here; (with_reducible show wpAny _ _ (call (Value.ref 139) _ _) _ _ _); k_dflt (refine' AK.Claim.use (AK.c_delay1 _ _ _ ?p1) ?k1 ?k2 ?k3 ?k4 ?k5 ?kK ?kd ?ku ?_; (case p1 => omega); walk_at "AK use"); intro t9 h9 tk9 F9 N9; (try dsimp only); (try k_sweep)))
local macro_rules | `(tactic| walk_at "call ref") => `(tactic| (k_here; (with_reducible show wpAny _ _ (call (Value.ref 125) _ _) _ _ _); k_dflt (refine' AK.Claim.use (AK.c_leapH _ _ _ ?p1) ?k1 ?k2 ?k3 ?k4 ?k5 ?kK ?kd ?ku ?_; (case p1 => omega); walk_at "AK use"); intro t9 h9 tk9 F9 N9; (try dsimp only); (try k_sweep)))
local macro_rules | `(tactic| walk_at "call ref") => `(tactic| (k_here; (with_reducible show wpAny _ _ (call (Value.ref 125) _ _) _ _ _); k_dflt (refine' AK.Claim.use (AK.c_leapH' _ _ _ _ ?p1 ?hb) ?k1 ?k2 ?k3 ?k4 ?k5 ?kK ?kd ?ku ?_; (case hb => assumption); (case p1 => omega); walk_at "AK use"); intro t9 h9 tk9 F9 N9; (try dsimp only); (try k_sweep)))
local macro_rules | `(tactic| walk_at "call ref") => `(tactic| (k_here; (with_reducible show wpAny _ _ (call (Value.ref 146) _ _) _ _ _); k_dflt (refine' AK.Claim.use (AK.c_delay2 _ _ _ ?p1) ?k1 ?k2 ?k3 ?k4 ?k5 ?kK ?kd ?ku ?_; (case p1 => omega); walk_at "AK use"); intro t9 h9 tk9 F9 N9; (try dsimp only); (try k_sweep)))
local macro_rules | `(tactic| walk_at "call ref") => `(tactic| (k_here; (with_reducible show wpAny _ _ (call (Value.ref 132) _ _) _ _ _); k_dflt (refine' AK.Claim.use (AK.c_ymonths _ _ _ _ ?p1 ?hb) ?k1 ?k2 ?k3 ?k4 ?k5 ?kK ?kd ?ku ?_; (case hb => assumption); (case p1 => omega); walk_at "AK use"); intro t9 h9 tk9 F9 N9; (try dsimp only); (try k_sweep)))
namespace AK
theorem c_tojdH7 (w : World) (y : Int) (t t1 t2 : Tok) (hy : y.natAbs < 2 ^ 16) (hp : -2 ≤ y) : Claim w 174 [.int y t, .int 7 t1, .int 1 t2] 6 (RetF (F (4 * (347997 + nyH y) + 2))) :=
 (by intro h9x; exact h9x : have h9x : Claim w 174 [.int y t, .int 7 t1, .int 1 t2] 6 (RetF (F (4 * (347997 + nyH y) + 2))) := (by
  have r1 := dly1_range (y := y) (by omega)
  have r2 := dly2_range y
  have r3 := dly1_low (y := y) (by omega)
  have hn : nyH y = dly1 y + dly2 y := rfl
  cases hb : leapH y
  · walk_at "AK claim"
    all_goals walk_at "AK endF"
    all_goals omega
  · walk_at "AK claim"
    all_goals walk_at "AK endF"
    all_goals omega
 ); Claim w 174 [.int y t, .int 7 t1, .int 1 t2] 6 (RetF (F (4 * (347997 + nyH y) + 2))))
end AK
end

section
local macro_rules | `(tactic| walk_at "call ref") => `(tactic| (k_here; (with_reducible show wpAny _ _ (call (Value.ref 174) _ _) _ _ _); k_dflt (refine' AK.Claim.use (AK.c_tojdH7 _ _ _ _ _ ?p1 ?p2) ?k1 ?k2 ?k3 ?k4 ?k5 ?kK ?kd ?ku ?_; (case p1 => omega); (case p2 => omega); walk_at "AK use"); intro t9 h9 tk9 F9 N9; (try dsimp only); (try k_sweep)))
namespace AK
theorem c_ydays (w : World) (y : Int) (t : Tok) (hy : y.natAbs < 40000) (hp : -1 ≤ y) : Claim w 153 [.int y t] 8 (RetF (F (4 * ydaysH y))) :=
 (by intro h9x; exact h9x : have h9x : Claim w 153 [.int y t] 8 (RetF (F (4 * ydaysH y))) := (by
  have r1 := nyH_range (y := y) (by omega)
  have r2 := nyH_range (y := y + 1) (by omega)
  have hd : ydaysH y = nyH (y + 1) - nyH y := rfl
  walk_at "AK claim"
  all_goals walk_at "AK endF"
  all_goals omega
 ); Claim w 153 [.int y t] 8 (RetF (F (4 * ydaysH y))))
end AK
end

section
local macro_rules | `(tactic| walk_at "call ref") => `(tactic| (k_here; (with_reducible show wpAny _ _ (call (Value.ref 139) _ _) _ _ _); k_dflt (refine' AK.Claim.use (AK.c_delay1 _ _ _ ?p1) ?k1 ?k2 ?k3 ?k4 ?k5 ?kK ?kd ?ku ?_; (case p1 => omega); walk_at "AK use"); intro t9 h9 tk9 F9 N9; (try dsimp only); (try k_sweep)))
local macro_rules | `(tactic| walk_at "call ref") => `(tactic| (k_here; (with_reducible show wpAny _ _ (call (Value.ref 125) _ _) _ _ _); k_dflt (refine' AK.Claim.use (AK.c_leapH _ _ _ ?p1) ?k1 ?k2 ?k3 ?k4 ?k5 ?kK ?kd ?ku ?_; (case p1 => omega); walk_at "AK use"); intro t9 h9 tk9 F9 N9; (try dsimp only); (try k_sweep)))
local macro_rules | `(tactic| walk_at "call ref") => `(tactic| (k_here; (with_reducible show wpAny _ _ (call (Value.ref 125) _ _) _ _ _); k_dflt (refine' AK.Claim.use (AK.c_leapH' _ _ _ _ ?p1 ?hb) ?k1 ?k2 ?k3 ?k4 ?k5 ?kK ?kd ?ku ?_; (case hb => assumption); (case p1 => omega); walk_at "AK use"); intro t9 h9 tk9 F9 N9; (try dsimp only); (try k_sweep)))
local macro_rules | `(tactic| walk_at "call ref") => `(tactic| (k_here; (with_reducible show wpAny _ _ (call (Value.ref 153) _ _) _ _ _); k_dflt (refine' AK.Claim.use (AK.c_ydays _ _ _ ?p1 ?p2) ?k1 ?k2 ?k3 ?k4 ?k5 ?kK ?kd ?ku ?_; (case p1 => omega); (case p2 => omega); walk_at "AK use"); intro t9 h9 tk9 F9 N9; (try dsimp only); (try k_sweep)))
namespace AK
theorem c_mlen (w : World) (y m : Int) (t t1 : Tok) (hy : y.natAbs < 40000) (hp : -1 ≤ y) (hm : 1 ≤ m ∧ m ≤ 13) : Claim w 160 [.int y t, .int m t1] 11 (RetI (mlenH y m)) :=
 (by intro h9x; exact h9x : have h9x : Claim w 160 [.int y t, .int m t1] 11 (RetI (mlenH y m)) := (by
  have r1 := nyH_range (y := y) (by omega)
  have r2 := nyH_range (y := y + 1) (by omega)
  have hd : ydaysH y = nyH (y + 1) - nyH y := rfl
  have hd2 : (ydaysH y).natAbs < 2 ^ 30 := by omega
  clear r1 r2 hd
  walk_at "AK claim"
  all_goals walk_at "AK endI"
  all_goals first
    | exact mlen_1 (by assumption)
    | exact mlen_2 (by assumption) (by assumption) (by assumption)
    | exact mlen_3 (by assumption) (by assumption) (by assumption)
    | exact mlen_4 (by assumption) (by assumption) (by assumption) (by assumption)
    | exact mlen_5 (by assumption) (by assumption) (by assumption) (by assumption)
    | exact mlen_6 (by assumption) (by assumption) (by assumption) (by assumption) (by assumption)
    | exact mlen_7 (by assumption) (by assumption) (by assumption) (by assumption) (by assumption)
    | exact mlen_8 (by assumption) (by assumption) (by assumption) (by assumption)
 ); Claim w 160 [.int y t, .int m t1] 11 (RetI (mlenH y m)))
end AK
end

section
local macro_rules | `(tactic| walk_at "call ref") => `(tactic| (k_here; (with_reducible show wpAny _ _ (call (Value.ref 160) _ _) _ _ _); k_dflt (refine' AK.Claim.use (AK.c_mlen _ _ _ _ _ ?p1 ?p2 ?p3) ?k1 ?k2 ?k3 ?k4 ?k5 ?kK ?kd ?ku ?_; (case p1 => omega); (case p2 => omega); (case p3 => omega); walk_at "AK use"); intro t9 h9 tk9 F9 N9; (try dsimp only); (try k_sweep)))
namespace AK
theorem c_mdays (w : World) (y m : Int) (t t1 : Tok) (hy : y.natAbs < 40000) (hp : -1 ≤ y) (hm : 1 ≤ m ∧ m ≤ 13) : Claim w 167 [.int y t, .int m t1] 13 (RetI (mlenH y m)) :=
 (by intro h9x; exact h9x : have h9x : Claim w 167 [.int y t, .int m t1] 13 (RetI (mlenH y m)) := (by
  walk_at "AK claim"
  all_goals walk_at "AK endI"
  all_goals rfl
 ); Claim w 167 [.int y t, .int m t1] 13 (RetI (mlenH y m)))
theorem c_mdaysx (w : World) (y m : Int) (t t1 : Tok) (hy : y.natAbs < 40000) (hp : -1 ≤ y) (hm : 1 ≤ m ∧ m ≤ 13) : Claim w 167 [.int y t, .int m t1] 13 (RetIx (mlenH y m) 29 30) := (c_mdays w y m t t1 hy hp hm).letter (mlenH_range y m)
theorem c_ymonths' (w : World) (y : Int) (t : Tok) (hy : y.natAbs < 2 ^ 17) : Claim w 132 [.int y t] 3 (RetI (monsH y)) := c_ymonths w y t (leapH y) hy rfl
end AK
end

section
namespace AK
/-- the sums that a loop makes (a mark in the context) -/
structure CutF (S : Int → Int) : Prop where
  b : ∀ k, 0 ≤ S k ∧ S k ≤ 400
section
open PySem.Spec PyProof.V
variable {prog : Program} {w : World} {A : Around} {E : Value → Shared → Prop} {s : Shared} {env : Env} {h₀ : Heap} {x : Str} {body : List Stmt} {Q : Flow → Shared → Prop}
theorem iterRange_F {S : Int → Int} (hS : CutF S) {r : Addr} {a₀ b₀ : Int} {t₀ u₀ v₀ : Tok} {n : Nat} {m₀ : Str → Option Value} {news : List (Addr × Obj)} {y : Str} {e : Int} {tc : Tok}
    (hh : A.handled = none) (hr : IsRange s.heap r a₀ b₀ 1 t₀ u₀ v₀) (hsmall : Builtin.Range.small a₀ b₀ 1 = true) (hn : Builtin.Range.rangeSize a₀ b₀ 1 = (n : Int)) (Fm : Fr h₀ env.locals s.heap m₀) (N : News h₀ env.locals s.heap news)
    (hy : m₀ y = some (.float (F e) tc)) (hyx : y ≠ x)
    (turn : ∀ (k : Int) (t ta : Tok) (h : Heap) (tk : Nat) (own : List (Addr × Obj)), a₀ ≤ k → k < a₀ + (n : Int) → (0 ≤ S k ∧ S k ≤ 400) → (0 ≤ S a₀ ∧ S a₀ ≤ 400) → OwnOff own (news.map (·.1)) →
      Fr h₀ env.locals h (fun z => if z = x then some (.int k t) else if z = y then some (.float (F (e + 4 * (S k - S a₀))) ta) else m₀ z) → News h₀ env.locals h (news ++ own) →
      wpAny (model prog w) A (execs body env) (InvPostN h₀ env.locals (fun m' nx => nx = news ∧ (∃ t', m' y = some (.float (F (e + 4 * (S (k + 1) - S a₀))) t')) ∧ ∀ z, z ≠ x → z ≠ y → m' z = m₀ z) own (news.map (·.1)) { s with heap := h, toks := tk } Q) E { s with heap := h, toks := tk })
    (done : ∀ (u : Str → Option Value) (t : Tok) (h : Heap) (tk : Nat), (0 ≤ S (a₀ + (n : Int)) ∧ S (a₀ + (n : Int)) ≤ 400) → (0 ≤ S a₀ ∧ S a₀ ≤ 400) → Fr h₀ env.locals h (fun z => if z = x then u z else if z = y then some (.float (F (e + 4 * (S (a₀ + (n : Int)) - S a₀))) t) else m₀ z) → News h₀ env.locals h news → Q .next { s with heap := h, toks := tk }) :
    wpAny (model prog w) A (pyIter (.ref r)) (fun it s₂ => LoopAtV prog w A h₀ env x body Q E it s₂) E s := by
  refine wpAny_pyIter_range hr hsmall ?_
  have W : Walks prog w A s.heap.objs.size [s.heap.objs.size] [s.heap.objs.size] n (fun i v => i < n ∧ ∃ t, v = .int (a₀ + i * 1) t)
      (fun i h => IsRangeIter h s.heap.objs.size (a₀ + (i : Nat) * 1) ((n : Int) - (i : Nat)) 1) := (Walks.range hh _ a₀ 1 n).bound
  refine loop_invN (fun i m nx => nx = news ∧ (∃ t, m y = some (.float (F (e + 4 * (S (a₀ + (i : Nat)) - S a₀))) t)) ∧ ∀ z, z ≠ x → z ≠ y → m z = m₀ z) W ?_ ?_ ?_ ?_ (by show IsRangeIter _ _ _ _ _; rw [hn]; simpa using Heap.get?_push_size _ rfl) (Fm.push _) (fun p hp => ⟨Heap.get?_push_of_some _ (N p hp).1, (N p hp).2⟩) ⟨rfl, ⟨tc, ?_⟩, fun _ _ _ => rfl⟩ ?_ ?_
  · intro hm
    exact absurd Fm.ns.lt ((List.mem_singleton.mp hm) ▸ Nat.lt_irrefl _)
  · intro b hb
    rw [List.mem_singleton.mp hb]
    exact next_is_new Fm
  · intro p hp hI
    exact absurd (Heap.lt_size (N p hp).1) ((List.mem_singleton.mp hI) ▸ Nat.lt_irrefl _)
  · intro p hp hI
    exact absurd (Heap.lt_size (N p hp).1) ((List.mem_singleton.mp hI) ▸ Nat.lt_irrefl _)
  · rw [hy]
    simp
  · rintro i v m₁ nx h tk own hi ⟨_, t, rfl⟩ _ hoff ⟨rfl, ⟨ta, ha⟩, hm⟩ F₁ N₁
    rw [Int.mul_one] at F₁
    rw [map_one ha hm] at F₁
    have := turn (a₀ + (i : Nat)) t ta h tk own (by omega) (by omega) (hS.b _) (hS.b _) hoff F₁ N₁
    have e1 : a₀ + (i : Int) + 1 = a₀ + ((i + 1 : Nat) : Int) := by omega
    rw [e1] at this
    exact this
  · rintro m₁ nx h tk ⟨rfl, ⟨t, ha⟩, hm⟩ F₁ N₁
    refine done m₁ t h tk (hS.b _) (hS.b _) ?_ N₁
    rw [done_one ha hm]; exact F₁
theorem float_eq {o : Option Value} {e1 e2 : Int} {t : Tok} (h : o = some (.float (F e1) t)) (he : e1 = e2) : o = some (.float (F e2) t) := he ▸ h
end
end AK
namespace AK
section
variable {α : Type} {a b : α} {l own : List α}
theorem own_n0 : ∀ p ∈ l, p ∈ l ++ own := fun _ h => List.mem_append_left _ h
theorem own_n1 : ∀ p ∈ a :: l, p ∈ a :: (l ++ own) := fun _ h => List.mem_append_left (as := a :: l) own h
theorem own_n2 : ∀ p ∈ a :: b :: l, p ∈ a :: b :: (l ++ own) := fun _ h => List.mem_append_left (as := a :: b :: l) own h
theorem own_o0 : ∀ p ∈ own, p ∈ l ++ own := fun _ h => List.mem_append_right _ h
theorem own_o1 : ∀ p ∈ own, p ∈ a :: (l ++ own) := fun _ h => List.mem_append_right (a :: l) h
theorem own_o2 : ∀ p ∈ own, p ∈ a :: b :: (l ++ own) := fun _ h => List.mem_append_right (a :: b :: l) h
end
end AK
end

section
local macro_rules | `(tactic| walk_at "storeName") => `(tactic| ((with_reducible show wpAny _ _ (storeName _ _ (Value.float (AK.F _) _)) _ _ _); (fail_if_success (with_reducible refine AK.gen_floatV (by with_reducible assumption) ?_)); (with_reducible refine AK.gen_float ?_); intro x9 hx9 hv9; walk_say "LETTER"))
local macro_rules | `(tactic| walk_at "call ref") => `(tactic| (k_here; (with_reducible show wpAny _ _ (call (Value.ref 139) _ _) _ _ _); k_dflt (refine' AK.Claim.use (AK.c_delay1 _ _ _ ?p1) ?k1 ?k2 ?k3 ?k4 ?k5 ?kK ?kd ?ku ?_; (case p1 => omega); walk_at "AK use"); intro t9 h9 tk9 F9 N9; (try dsimp only); (try k_sweep)))
local macro_rules | `(tactic| walk_at "call ref") => `(tactic| (k_here; (with_reducible show wpAny _ _ (call (Value.ref 125) _ _) _ _ _); k_dflt (refine' AK.Claim.use (AK.c_leapH _ _ _ ?p1) ?k1 ?k2 ?k3 ?k4 ?k5 ?kK ?kd ?ku ?_; (case p1 => omega); walk_at "AK use"); intro t9 h9 tk9 F9 N9; (try dsimp only); (try k_sweep)))
local macro_rules | `(tactic| walk_at "call ref") => `(tactic| (k_here; (with_reducible show wpAny _ _ (call (Value.ref 125) _ _) _ _ _); k_dflt (refine' AK.Claim.use (AK.c_leapH' _ _ _ _ ?p1 ?hb) ?k1 ?k2 ?k3 ?k4 ?k5 ?kK ?kd ?ku ?_; (case hb => assumption); (case p1 => omega); walk_at "AK use"); intro t9 h9 tk9 F9 N9; (try dsimp only); (try k_sweep)))
local macro_rules | `(tactic| walk_at "call ref") => `(tactic| (k_here; (with_reducible show wpAny _ _ (call (Value.ref 146) _ _) _ _ _); k_dflt (refine' AK.Claim.use (AK.c_delay2 _ _ _ ?p1) ?k1 ?k2 ?k3 ?k4 ?k5 ?kK ?kd ?ku ?_; (case p1 => omega); walk_at "AK use"); intro t9 h9 tk9 F9 N9; (try dsimp only); (try k_sweep)))
local macro_rules | `(tactic| walk_at "call ref") => `(tactic| (k_here; (with_reducible show wpAny _ _ (call (Value.ref 132) _ _) _ _ _); k_dflt (refine' AK.Claim.use (AK.c_ymonths _ _ _ _ ?p1 ?hb) ?k1 ?k2 ?k3 ?k4 ?k5 ?kK ?kd ?ku ?_; (case hb => assumption); (case p1 => omega); walk_at "AK use"); intro t9 h9 tk9 F9 N9; (try dsimp only); (try k_sweep)))
local macro_rules | `(tactic| walk_at "call ref") => `(tactic| (k_here; (with_reducible show wpAny _ _ (call (Value.ref 132) _ _) _ _ _); k_dflt (refine' AK.Claim.use (AK.c_ymonths' _ _ _ ?p1) ?k1 ?k2 ?k3 ?k4 ?k5 ?kK ?kd ?ku ?_; (case p1 => omega); walk_at "AK use"); intro t9 h9 tk9 F9 N9; (try dsimp only); (try k_sweep)))
local macro_rules | `(tactic| walk_at "call ref") => `(tactic| (k_here; (with_reducible show wpAny _ _ (call (Value.ref 167) _ _) _ _ _); k_dflt (refine' AK.Claim.use (AK.c_mdaysx _ _ _ _ _ ?p1 ?p2 ?p3) ?k1 ?k2 ?k3 ?k4 ?k5 ?kK ?kd ?ku ?_; (case p1 => omega); (case p2 => omega); (case p3 => omega); walk_at "AK use"); intro z9 hz9 hzb9 t9 h9 tk9 F9 N9; (try dsimp only); (try k_sweep)))
local macro_rules | `(tactic| walk_at "pyIter ref") => `(tactic| ((with_reducible show wpAny _ _ (pyIter (Value.ref _)) (fun it s₂ => LoopAtV _ _ _ _ _ _ _ _ _ it s₂) _ _); (with_reducible rename AK.CutF _ => hCF9); (rename Fr _ _ _ _ => lF'); (rename News _ _ _ _ => lN'); (rename IsRange _ _ _ _ _ _ _ _ => rgX); (with_unfolding_all refine' AK.iterRange_F hCF9 (y := Str.ofString "jd") (by rfl) (by first | exact rgX | assumption) (by first | exact small_one (by l_bnd) (by l_bnd) (by l_bnd) (by l_bnd) | decide) (by first | exact rangeSize_nat _ _ | rfl) lF' lN' (by rfl) (by decide) (fun k' t' ta' h' tk' own' hlo' hhi' hb' hb2' hoff' F' N' => ?_) (fun u' t' h' tk' hb' hb2' F' N' => ?_)); (all_goals (try clear lF' lN')); (all_goals (try simp only [List.nil_append, List.cons_append, List.append_nil] at N')); (all_goals (try dsimp only)); (all_goals (try k_fold)); walk_say "LOOP"))
local macro_rules | `(tactic| walk_at "InvEndN") => `(tactic| (k_dflt (refine InvEndN.intro (by assumption) (by assumption) ⟨rfl, ⟨_, AK.float_eq (by with_unfolding_all rfl) (by (rw [AK.cumTo_succ] <;> omega))⟩, by k_same2⟩ (by rfl) (by first | exact AK.own_n0 | exact AK.own_n1 | exact AK.own_n2) (by first | exact AK.own_o0 | exact AK.own_o1 | exact AK.own_o2))))
namespace AK
theorem c_tojdH (w : World) (y m d : Int) (t t1 t2 : Tok) (hy : y.natAbs < 40000) (hp : -1 ≤ y) (hm : 1 ≤ m ∧ m ≤ 13) (hd : 0 ≤ d ∧ d ≤ 100) : Claim w 174 [.int y t, .int m t1, .int d t2] 15 (RetF (F (4 * jdH y m d + 2))) :=
 (by intro h9x; exact h9x : have h9x : Claim w 174 [.int y t, .int m t1, .int d t2] 15 (RetF (F (4 * jdH y m d + 2))) := (by
  have r1 := dly1_range (y := y) (by omega)
  have r2 := dly2_range y
  have r3 := dly1_low (y := y) (by omega)
  have r4 := cumTo_range y m
  have r5 := cumTo_range y 1
  have r6 := cumTo_range y 7
  have r7 := monsH_range y
  have hn : nyH y = dly1 y + dly2 y := rfl
  have hj : jdH y m d = 347996 + nyH y + offH y m + d := rfl
  have hCF : CutF (fun k => cumTo y k) := ⟨cumTo_range y⟩
  have c1 : cumTo y 1 = 0 := rfl
  have e1 : (7 : Int) + ((monsH y + 1 - 7).toNat : Int) = monsH y + 1 := by omega
  have e2 : (1 : Int) + ((m - 1).toNat : Int) = m := by omega
  by_cases h7 : m < 7
  · have ho : offH y m = (cumTo y (monsH y + 1) - cumTo y 7) + cumTo y m := by unfold offH; rw [if_pos h7]
    walk_at "AK claim"
    all_goals walk_at "AK endF"
    all_goals (rw [hj, ho, e1, e2]; omega)
  · have ho : offH y m = cumTo y m - cumTo y 7 := by unfold offH; rw [if_neg h7]
    have e3 : (7 : Int) + ((m - 7).toNat : Int) = m := by omega
    walk_at "AK claim"
    all_goals walk_at "AK endF"
    all_goals (rw [hj, ho, e3]; omega)
 ); Claim w 174 [.int y t, .int m t1, .int d t2] 15 (RetF (F (4 * jdH y m d + 2))))
end AK
end

section
namespace AK
abbrev RetFx (n lo hi : Int) : Post := fun h₀ L m news s Q => (lo ≤ n ∧ n ≤ hi) → RetF (F n) h₀ L m news s Q
theorem c_tojdHx (w : World) (y m d : Int) (t t1 t2 : Tok) (hy : y.natAbs < 40000) (hp : -1 ≤ y) (hm : 1 ≤ m ∧ m ≤ 13) (hd : 0 ≤ d ∧ d ≤ 100) : Claim w 174 [.int y t, .int m t1, .int d t2] 15 (RetFx (4 * jdH y m d + 2) (-4294967296) 4294967296) :=
  (c_tojdH w y m d t t1 t2 hy hp hm hd).mono (Nat.le_refl _) fun _ _ _ _ _ _ hret => hret (by have := jdH_range (y := y) (m := m) (d := d) (by omega) hd; omega)
theorem c_tojdH7x (w : World) (y : Int) (t t1 t2 : Tok) (hy : y.natAbs < 2 ^ 16) (hp : -2 ≤ y) : Claim w 174 [.int y t, .int 7 t1, .int 1 t2] 6 (RetFx (4 * (347997 + nyH y) + 2) (-4294967296) 4294967296) :=
  (c_tojdH7 w y t t1 t2 hy hp).mono (Nat.le_refl _) fun _ _ _ _ _ _ hret => hret (by have := nyH_range (y := y) (by omega); omega)
end AK
end

section
local macro_rules | `(tactic| walk_at "storeName") => `(tactic| ((with_reducible show wpAny _ _ (storeName _ _ (Value.float (AK.F _) _)) _ _ _); (fail_if_success (with_reducible refine AK.gen_floatV (by with_reducible assumption) ?_)); (with_reducible refine AK.gen_float ?_); intro x9 hx9 hv9; walk_say "LETTER"))
local macro_rules | `(tactic| walk_at "storeName") => `(tactic| ((with_reducible show wpAny _ _ (storeName _ _ (Value.int _ _)) _ _ _); (fail_if_success (with_reducible refine AK.gen_intV (by with_reducible assumption) ?_)); (with_reducible refine AK.gen_int ?_); intro x9 hx9 hv9; walk_say "LETTER"))
local macro_rules | `(tactic| walk_at "call ref") => `(tactic| (k_here; (with_reducible show wpAny _ _ (call (Value.ref 174) _ _) _ _ _); k_dflt (refine' AK.Claim.use (AK.c_tojdHx _ _ _ _ _ _ _ ?p1 ?p2 ?p3 ?p4) ?k1 ?k2 ?k3 ?k4 ?k5 ?kK ?kd ?ku ?_; (case p1 => omega); (case p2 => omega); (case p3 => omega); (case p4 => omega); walk_at "AK use"); intro hzb9 t9 h9 tk9 F9 N9; (try dsimp only); (try k_sweep)))
local macro_rules | `(tactic| walk_at "call ref") => `(tactic| (k_here; (with_reducible show wpAny _ _ (call (Value.ref 174) _ _) _ _ _); k_dflt (refine' AK.Claim.use (AK.c_tojdH7x _ _ _ _ _ ?p1 ?p2) ?k1 ?k2 ?k3 ?k4 ?k5 ?kK ?kd ?ku ?_; (case p1 => omega); (case p2 => omega); walk_at "AK use"); intro hzb9 t9 h9 tk9 F9 N9; (try dsimp only); (try k_sweep)))
local macro_rules | `(tactic| walk_at "call ref") => `(tactic| (k_here; (with_reducible show wpAny _ _ (call (Value.ref 167) _ _) _ _ _); k_dflt (refine' AK.Claim.use (AK.c_mdaysx _ _ _ _ _ ?p1 ?p2 ?p3) ?k1 ?k2 ?k3 ?k4 ?k5 ?kK ?kd ?ku ?_; (case p1 => omega); (case p2 => omega); (case p3 => omega); walk_at "AK use"); intro z9 hz9 hzb9 t9 h9 tk9 F9 N9; (try dsimp only); (try k_sweep)))
local macro_rules | `(tactic| walk_at "exec If") => `(tactic| (k_here; (have q9 := AK.yl_exit (by assumption) (by assumption) (by assumption) (by assumption) (by assumption) (by assumption) ); subst q9; walk_say "YEAR"))
local macro_rules | `(tactic| walk_at "exec Assign") => `(tactic| (k_here; (have q9 := AK.ml_exit (by assumption) (by assumption) (by assumption) (by assumption) (by assumption) (by assumption) (by assumption) (by assumption) (by assumption) ); subst q9; walk_say "MONTH"))
namespace AK
theorem c_fromjdH (w : World) (y m d N : Int) (t : Tok) (hy : 1 ≤ y ∧ y ≤ 34000) (h : IsHDate y m d) (hN : N = jdH y m d) : Claim w 181 [.float (F (4 * N + 2)) t] 20 (RetT3 y m d) :=
 (by intro h9x; exact h9x : have h9x : Claim w 181 [.float (F (4 * N + 2)) t] 20 (RetT3 y m d) := (by
  have hr := jdH_range (y := y) (m := m) (d := d) (by omega) (by have := h.d1; have := h.d2; have := mlenH_range y m; omega)
  have hg := guess_low h (by omega)
  have hg2 := guess_high h (by omega)
  rw [← hN] at hr hg hg2
  have hin := in_year h
  have hny := ny_mono (i := 1) (y := y) (by omega)
  have hn1 : nyH 1 = 0 := by decide +kernel
  have hmr := monsH_range y
  have hm := And.intro h.m1 (Int.le_trans h.m2 hmr.2)
  have hdd : jdH y m d = jdH y m 1 + d - 1 := by unfold jdH; omega
  k_with "state" => first
    | (exact ⟨by omega, by omega, by omega⟩)
    | ((have q9 := yl_turn (by assumption) (by assumption) (by assumption) (by assumption)); exact ⟨by omega, by omega, by omega⟩)
    | ((have q9 := ml_start7 (by assumption) (by assumption) (by assumption) (by assumption)); exact ⟨by omega, by omega, by omega, by omega⟩)
    | ((have q9 := ml_start1 (by assumption) (by assumption) (by assumption) (by assumption)); exact ⟨by omega, by omega, by omega, by omega⟩)
    | ((have q9 := ml_turn (by assumption) (by assumption) (by assumption) (by assumption) (by assumption) (by assumption) (by assumption) (by assumption)); exact ⟨by omega, by omega, by omega, by omega⟩)
  k_with "measure" => first
    | ((have q9 := yl_turn (by assumption) (by assumption) (by assumption) (by assumption)); omega)
    | ((have q9 := ml_turn (by assumption) (by assumption) (by assumption) (by assumption) (by assumption) (by assumption) (by assumption) (by assumption)); omega)
  k_with "exec While Compare cons nil" => k_while (fun _ i month => month = i ∧ 1 ≤ i ∧ i ≤ m ∧ (7 ≤ m → 7 ≤ i)) (fun _ i _ => (m - i).toNat) "i" "month"
  k_with "exec While Compare cons nil" => k_while (fun _ i year => year = i - 1 ∧ -1 ≤ i ∧ i ≤ y + 1) (fun _ i _ => (y + 1 - i).toNat) "i" "year"
  walk_at "AK claim"
  all_goals (refine endT3 (by assumption) ?_ ?_ ?_ (by k_asm) (by k_asm) (allLt_of (by k_asm)))
  all_goals first | rfl | omega
 ); Claim w 181 [.float (F (4 * N + 2)) t] 20 (RetT3 y m d))
end AK
end

section
namespace AK
theorem fd {a b : Int} (h : 0 ≤ b) : a.fdiv b = a / b := Int.fdiv_eq_ediv_of_nonneg _ h
theorem fm {a b : Int} (h : 0 ≤ b) : a.fmod b = a % b := Int.fmod_eq_emod_of_nonneg _ h
theorem janL_is (y : Int) : 2451545 + 146097 * (y - 2000).fdiv 400 + 365 * (y - 2000).fmod 400 + ((y - 2000).fmod 400 + 3).fdiv 4 -
        (if (y - 2000).fmod 400 - 1 > 0 then (y - 2000).fmod 400 - 1 else 0).fdiv 100 = janG y + 1721426 :=
 (by intro h9x; exact h9x : have h9x : 2451545 + 146097 * (y - 2000).fdiv 400 + 365 * (y - 2000).fmod 400 + ((y - 2000).fmod 400 + 3).fdiv 4 - (if (y - 2000).fmod 400 - 1 > 0 then (y - 2000).fmod 400 - 1 else 0).fdiv 100 = janG y + 1721426 := (by
  rw [fd (by decide), fm (by decide), fd (by decide), fd (by decide)]
  unfold janG
  split
  · omega
  · rename_i hp
    have h : (y - 2000) % 400 = 0 ∨ (y - 2000) % 400 = 1 := by omega
    rcases h with h | h <;> rw [h] <;> omega
 ); 2451545 + 146097 * (y - 2000).fdiv 400 + 365 * (y - 2000).fmod 400 + ((y - 2000).fmod 400 + 3).fdiv 4 - (if (y - 2000).fmod 400 - 1 > 0 then (y - 2000).fmod 400 - 1 else 0).fdiv 100 = janG y + 1721426)
theorem c_jan (w : World) (y : Int) (t : Tok) (hy : y.natAbs < 2 ^ 19) : Claim w 352 [.int y t] 2 (RetI (janG y + 1721426)) :=
 (by intro h9x; exact h9x : have h9x : Claim w 352 [.int y t] 2 (RetI (janG y + 1721426)) := (by
  walk_at "AK claim"
  all_goals walk_at "AK endI"
  all_goals exact janL_is y
 ); Claim w 352 [.int y t] 2 (RetI (janG y + 1721426)))
theorem janG_step (y : Int) : 365 ≤ janG (y + 1) - janG y ∧ janG (y + 1) - janG y ≤ 366 := by unfold janG; omega
theorem janG_mono {i y : Int} (h : i ≤ y) : janG i ≤ janG y :=
 (by intro h9x; exact h9x : have h9x : janG i ≤ janG y := (by
  obtain ⟨k, rfl⟩ : ∃ k : Nat, y = i + k := ⟨(y - i).toNat, by omega⟩
  clear h
  induction k with
  | zero => rw [Int.natCast_zero, Int.add_zero]; omega
  | succ k ih =>
    have e : i + ((k + 1 : Nat) : Int) = i + (k : Int) + 1 := by omega
    have := janG_step (i + (k : Int))
    rw [e]; omega
 ); janG i ≤ janG y)
theorem janG_leap (y : Int) : janG (y + 1) - janG y = if leapG y = true then 366 else 365 :=
 (by intro h9x; exact h9x : have h9x : janG (y + 1) - janG y = if leapG y = true then 366 else 365 := (by
  have h := leapG_iff y
  cases hl : leapG y with
  | false => have := not_leapG hl; unfold janG; simp; omega
  | true => have := h.mp hl; unfold janG; simp; omega
 ); janG (y + 1) - janG y = if leapG y = true then 366 else 365)
theorem in_yearG {y m d : Int} (h : IsDate y m d) : janG y < gJ y m d ∧ gJ y m d ≤ janG (y + 1) :=
 (by intro h9x; exact h9x : have h9x : janG y < gJ y m d ∧ gJ y m d ≤ janG (y + 1) := (by
  have h1 := ydG_range h
  have h2 := janG_leap y
  unfold gJ
  cases hl : leapG y with
  | false => rw [hl] at h2; simp at h2; have := h1.2.2 hl; omega
  | true => rw [hl] at h2; simp at h2; omega
 ); janG y < gJ y m d ∧ gJ y m d ≤ janG (y + 1))
theorem yearG_iff {y m d i : Int} (h : IsDate y m d) : janG i < gJ y m d ↔ i ≤ y :=
 (by intro h9x; exact h9x : have h9x : janG i < gJ y m d ↔ i ≤ y := (by
  have h1 := in_yearG h
  constructor
  · intro c
    refine Int.not_lt.mp fun g => ?_
    have := janG_mono (i := y + 1) (y := i) (by omega)
    omega
  · intro c
    have := janG_mono c
    omega
 ); janG i < gJ y m d ↔ i ≤ y)
section
variable {n y m d i : Int}
/-- the law's number of a Gregorian date -/
def numG (y m d : Int) : Int := gJ y m d + 1721425
theorem ly_1 (h : IsDate y m d) (hn : n = numG y m d) (hc : n < janG i + 1721426) : y < i :=
 (by intro h9x; exact h9x : have h9x : y < i := (by
  have := mt (yearG_iff (i := i) h).mpr (by unfold numG at hn; omega)
  omega
 ); y < i)
theorem ly_2 (h : IsDate y m d) (hn : n = numG y m d) (hc : ¬ n < janG i + 1721426) : i ≤ y := (yearG_iff h).mp (by unfold numG at hn; omega)
theorem ly_3 (h : IsDate y m d) (hn : n = numG y m d) (hc : janG (i + 1) + 1721426 ≤ n) : i + 1 ≤ y := (yearG_iff h).mp (by unfold numG at hn; omega)
theorem ly_4 (h : IsDate y m d) (hn : n = numG y m d) (hc : ¬ janG (i + 1) + 1721426 ≤ n) (hi : i ≤ y) : i = y :=
 (by intro h9x; exact h9x : have h9x : i = y := (by
  have := mt (yearG_iff (i := i + 1) h).mpr (by unfold numG at hn; omega)
  omega
 ); i = y)
end
end AK
end

section
local macro_rules | `(tactic| walk_at "storeName") => `(tactic| ((with_reducible show wpAny _ _ (storeName _ _ (Value.int _ _)) _ _ _); (fail_if_success (with_reducible refine AK.gen_intV (by with_reducible assumption) ?_)); (with_reducible refine AK.gen_int ?_); intro x9 hx9 hv9; walk_say "LETTER"))
local macro_rules | `(tactic| walk_at "call ref") => `(tactic| (k_here; (with_reducible show wpAny _ _ (call (Value.ref 352) _ _) _ _ _); k_dflt (refine' AK.Claim.use (AK.c_jan _ _ _ ?p1) ?k1 ?k2 ?k3 ?k4 ?k5 ?kK ?kd ?ku ?_; (case p1 => omega); walk_at "AK use"); intro t9 h9 tk9 F9 N9; (try dsimp only); (try k_sweep)))
namespace AK
theorem c_lyear (w : World) (y m d n : Int) (t : Tok) (hy : y.natAbs < 40000) (h : IsDate y m d) (hn : n = numG y m d) (hnr : n.natAbs < 13000000) : Claim w 359 [.int n t] 5 (RetI y) :=
 (by intro h9x; exact h9x : have h9x : Claim w 359 [.int n t] 5 (RetI y) := (by
  k_with "state" => first
    | (exact ⟨by omega, by omega⟩)
    | ((have q9 := ly_1 (by assumption) (by assumption) (by assumption)); exact ⟨by omega, by omega⟩)
    | ((have q9 := ly_2 (by assumption) (by assumption) (by assumption)); exact ⟨by omega, by omega⟩)
    | ((have q9 := ly_3 (by assumption) (by assumption) (by assumption)); exact ⟨by omega, by omega⟩)
  k_with "measure" => first
    | ((have q9 := ly_1 (by assumption) (by assumption) (by assumption)); omega)
    | ((have q9 := ly_3 (by assumption) (by assumption) (by assumption)); omega)
  k_with "exec While Compare cons nil" => k_while (fun _ year => -50000 ≤ year ∧ year ≤ 60000) (fun _ year => (year - y).toNat) "year"
  k_with "exec While Compare cons nil" => k_while (fun _ year => -50000 ≤ year ∧ year ≤ y) (fun _ year => (y - year).toNat) "year"
  walk_at "AK claim"
  all_goals walk_at "AK endI"
  all_goals exact ly_4 (by assumption) (by assumption) (by assumption) (by assumption)
 ); Claim w 359 [.int n t] 5 (RetI y))
end AK
end

section
namespace AK
theorem yd_next (y m : Int) (h1 : 1 ≤ m) (h2 : m ≤ 11) : ydG y (m + 1) 1 = ydG y m 1 + dimG y m :=
 (by intro h9x; exact h9x : have h9x : ydG y (m + 1) 1 = ydG y m 1 + dimG y m := (by
  have hm : m = 1 ∨ m = 2 ∨ m = 3 ∨ m = 4 ∨ m = 5 ∨ m = 6 ∨ m = 7 ∨ m = 8 ∨ m = 9 ∨ m = 10 ∨ m = 11 := by omega
  unfold ydG ladj dimG
  cases hl : leapG y <;> rcases hm with rfl | rfl | rfl | rfl | rfl | rfl | rfl | rfl | rfl | rfl | rfl <;> simp
 ); ydG y (m + 1) 1 = ydG y m 1 + dimG y m)
theorem yd_mono (y : Int) {i m : Int} (h1 : 1 ≤ i) (him : i < m) (hm : m ≤ 12) : ydG y i 1 + dimG y i ≤ ydG y m 1 :=
 (by intro h9x; exact h9x : have h9x : ydG y i 1 + dimG y i ≤ ydG y m 1 := (by
  obtain ⟨k, rfl⟩ : ∃ k : Nat, m = i + 1 + k := ⟨(m - i - 1).toNat, by omega⟩
  clear him
  induction k with
  | zero => rw [Int.natCast_zero, Int.add_zero, yd_next y i (by omega) (by omega)]; omega
  | succ k ih =>
    have ih := ih (by omega)
    have e : i + 1 + ((k + 1 : Nat) : Int) = i + 1 + (k : Int) + 1 := by omega
    have hr := dimG_pos y (i + 1 + (k : Int))
    rw [e, yd_next y _ (by omega) (by omega)]
    omega
 ); ydG y i 1 + dimG y i ≤ ydG y m 1)
theorem yd_day (y m d : Int) : ydG y m d = ydG y m 1 + d - 1 := by unfold ydG; omega
section
variable {n y m d mo da : Int}
theorem ld_iff (h : IsDate y m d) (h1 : 1 ≤ mo) (h2 : mo ≤ m) (h3 : da = ydG y m d - ydG y mo 1 + 1) : dimG y mo < da ↔ mo < m :=
 (by intro h9x; exact h9x : have h9x : dimG y mo < da ↔ mo < m := (by
  have := h.d1
  have := h.d2
  have e := yd_day y m d
  constructor
  · intro c
    refine Int.not_le.mp fun g => ?_
    have g' : mo = m := by omega
    subst g'
    omega
  · intro c
    have := yd_mono y h1 c h.m2
    omega
 ); dimG y mo < da ↔ mo < m)
theorem ld_turn (h : IsDate y m d) (hc : dimG y mo < da) (h1 : 1 ≤ mo) (h2 : mo ≤ m) (h3 : da = ydG y m d - ydG y mo 1 + 1) : mo < m ∧ ydG y (mo + 1) 1 = ydG y mo 1 + dimG y mo :=
 (by intro h9x; exact h9x : have h9x : mo < m ∧ ydG y (mo + 1) 1 = ydG y mo 1 + dimG y mo := (by
  have q := (ld_iff h h1 h2 h3).mp hc
  have := h.m2
  exact ⟨q, yd_next y mo h1 (by omega)⟩
 ); mo < m ∧ ydG y (mo + 1) 1 = ydG y mo 1 + dimG y mo)
theorem ld_exit (h : IsDate y m d) (hc : ¬ dimG y mo < da) (h1 : 1 ≤ mo) (h2 : mo ≤ m) (h3 : da = ydG y m d - ydG y mo 1 + 1) : m = mo :=
 (by intro h9x; exact h9x : have h9x : m = mo := (by
  have := mt (ld_iff h h1 h2 h3).mpr hc
  omega
 ); m = mo)
end
theorem feb (y : Int) : janG (y + 1) + 1721426 - (janG y + 1721426) - 337 = dimG y 2 :=
 (by intro h9x; exact h9x : have h9x : janG (y + 1) + 1721426 - (janG y + 1721426) - 337 = dimG y 2 := (by
  have h := janG_leap y
  unfold dimG
  rw [if_pos rfl]
  split at h <;> simp_all <;> omega
 ); janG (y + 1) + 1721426 - (janG y + 1721426) - 337 = dimG y 2)
theorem lenL (y mo : Int) (h1 : 1 ≤ mo) (h2 : mo ≤ 12) : [31, janG (y + 1) + 1721426 - (janG y + 1721426) - 337, 31, 30, 31, 30, 31, 31, 30, 31, 30, 31].getD (mo - 1).toNat 0 = dimG y mo :=
 (by intro h9x; exact h9x : have h9x : [31, janG (y + 1) + 1721426 - (janG y + 1721426) - 337, 31, 30, 31, 30, 31, 31, 30, 31, 30, 31].getD (mo - 1).toNat 0 = dimG y mo := (by
  rw [feb]
  have hm : mo = 1 ∨ mo = 2 ∨ mo = 3 ∨ mo = 4 ∨ mo = 5 ∨ mo = 6 ∨ mo = 7 ∨ mo = 8 ∨ mo = 9 ∨ mo = 10 ∨ mo = 11 ∨ mo = 12 := by omega
  rcases hm with rfl | rfl | rfl | rfl | rfl | rfl | rfl | rfl | rfl | rfl | rfl | rfl <;> rfl
 ); [31, janG (y + 1) + 1721426 - (janG y + 1721426) - 337, 31, 30, 31, 30, 31, 31, 30, 31, 30, 31].getD (mo - 1).toNat 0 = dimG y mo)
section
variable {n y m d mo da : Int}
theorem ldL_turn (h : IsDate y m d) (hc : [31, janG (y + 1) + 1721426 - (janG y + 1721426) - 337, 31, 30, 31, 30, 31, 31, 30, 31, 30, 31].getD (mo - 1).toNat 0 < da) (h1 : 1 ≤ mo) (h2 : mo ≤ m) (h3 : da = ydG y m d - ydG y mo 1 + 1) : mo < m ∧ ydG y (mo + 1) 1 = ydG y mo 1 + dimG y mo ∧ [31, janG (y + 1) + 1721426 - (janG y + 1721426) - 337, 31, 30, 31, 30, 31, 31, 30, 31, 30, 31].getD (mo - 1).toNat 0 = dimG y mo :=
 (by intro h9x; exact h9x : have h9x : mo < m ∧ ydG y (mo + 1) 1 = ydG y mo 1 + dimG y mo ∧ [31, janG (y + 1) + 1721426 - (janG y + 1721426) - 337, 31, 30, 31, 30, 31, 31, 30, 31, 30, 31].getD (mo - 1).toNat 0 = dimG y mo := (by
  have := h.m2
  have e := lenL y mo h1 (by omega)
  rw [e] at hc
  have q := ld_turn h hc h1 h2 h3
  exact ⟨q.1, q.2, e⟩
 ); mo < m ∧ ydG y (mo + 1) 1 = ydG y mo 1 + dimG y mo ∧ [31, janG (y + 1) + 1721426 - (janG y + 1721426) - 337, 31, 30, 31, 30, 31, 31, 30, 31, 30, 31].getD (mo - 1).toNat 0 = dimG y mo)
theorem ldL_exit (h : IsDate y m d) (hc : ¬ [31, janG (y + 1) + 1721426 - (janG y + 1721426) - 337, 31, 30, 31, 30, 31, 31, 30, 31, 30, 31].getD (mo - 1).toNat 0 < da) (h1 : 1 ≤ mo) (h2 : mo ≤ m) (h3 : da = ydG y m d - ydG y mo 1 + 1) : m = mo :=
 (by intro h9x; exact h9x : have h9x : m = mo := (by
  have := h.m2
  rw [lenL y mo h1 (by omega)] at hc
  exact ld_exit h hc h1 h2 h3
 ); m = mo)
end
theorem lt_tail {D : Nat} {p : Addr × Obj} {r : Led} (h : AllLt D (p :: r)) : AllLt D r := h.2
end AK
namespace AK
theorem allLt_sub {D : Nat} {r r' : Led} (h : ∀ p ∈ r', p.1 < D) (hs : ∀ p ∈ r, p ∈ r') : AllLt D r := allLt_of fun p hp => h p (hs p hp)
theorem endT3' {h₀ h' : Heap} {L D : Addr} {m : Str → Option Value} {news news' : Led} {s : Shared} {Q : Value → Shared → Prop} {x y z x' y' z' : Int} {t1 t2 t3 : Tok} {c tk' : Nat}
    (hret : RetT3 x y z h₀ L m news s Q) (e1 : x' = x) (e2 : y' = y) (e3 : z' = z) (F : Fr h₀ L h' m) (N : News h₀ L h' ((D, ({ cls := .type "tuple", data := .seq #[.int x' t1, .int y' t2, .int z' t3] c } : Obj)) :: news')) (hn : ∀ p ∈ news, p ∈ news') (hl : AllLt D news) :
    Q (.ref D) { s with heap := h', toks := tk' } := by
  subst e1 e2 e3
  refine hret D t1 t2 t3 c h' tk' F (fun p hp => ?_) hl
  rcases List.mem_cons.mp hp with rfl | hp
  · exact N _ (.head _)
  · exact N _ (.tail _ (hn p hp))
theorem and2 {a b D : Nat} {l : Led} (h : a < b ∧ AllLt D l) : AllLt D l := h.2
theorem and3 {a b a' b' D : Nat} {l : Led} (h : a < b ∧ a' < b' ∧ AllLt D l) : AllLt D l := h.2.2
end AK
end

section
local macro_rules | `(tactic| walk_at "AK lt") => `(tactic| first | k_asm | exact AK.and2 (by k_asm) | exact AK.and3 (by k_asm) | exact PySem.W.allLt_of (by k_asm) | exact AK.allLt_sub (by k_asm) (by walk_at "AK sub"))
local macro_rules | `(tactic| walk_at "AK endT3") => `(tactic| (refine AK.endT3' (by assumption) ?_ ?_ ?_ (by k_asm) (by k_asm) (by walk_at "AK sub") (by walk_at "AK lt")))
local macro_rules | `(tactic| walk_at "call ref") => `(tactic| (k_here; (with_reducible show wpAny _ _ (call (Value.ref 352) _ _) _ _ _); k_dflt (refine' AK.Claim.use (AK.c_jan _ _ _ ?p1) ?k1 ?k2 ?k3 ?k4 ?k5 ?kK ?kd ?ku ?_; (case p1 => omega); walk_at "AK use"); intro t9 h9 tk9 F9 N9; (try dsimp only); (try k_sweep)))
local macro_rules | `(tactic| walk_at "call ref") => `(tactic| (k_here; (with_reducible show wpAny _ _ (call (Value.ref 359) _ _) _ _ _); k_dflt (refine' AK.Claim.use (AK.c_lyear _ _ _ _ _ _ ?p1 ?h ?e ?r) ?k1 ?k2 ?k3 ?k4 ?k5 ?kK ?kd ?ku ?_; (case h => assumption); (case p1 => omega); (case e => first | assumption | (unfold AK.numG; omega)); (case r => omega); walk_at "AK use"); intro t9 h9 tk9 F9 N9; (try dsimp only); (try k_sweep)))
local macro_rules | `(tactic| walk_at "exec While Compare cons nil") => `(tactic| (k_here; k_dflt (k_extra "exec While Compare cons nil"); walk_say "WHILE"))
namespace AK
theorem c_ldate (w : World) (y m d n : Int) (t : Tok) (hy : y.natAbs < 40000) (h : IsDate y m d) (hn : n = numG y m d) (hnr : n.natAbs < 13000000) : Claim w 366 [.int n t] 8 (RetT3 y m d) :=
 (by intro h9x; exact h9x : have h9x : Claim w 366 [.int n t] 8 (RetT3 y m d) := (by
  have hm1 := h.m1
  have hm2 := h.m2
  have hn2 : n = janG y + ydG y m d + 1721425 := hn
  have hy1 : ydG y 1 1 = 1 := by unfold ydG ladj; simp
  have hyd := yd_day y m d
  k_with "state" => first
    | (exact ⟨by omega, by omega, by omega⟩)
    | ((have q9 := ldL_turn (by assumption) (by assumption) (by assumption) (by assumption) (by assumption) ); exact ⟨by omega, by omega, by omega⟩)
  k_with "measure" => ((have q9 := ldL_turn (by assumption) (by assumption) (by assumption) (by assumption) (by assumption) ); omega)
  k_with "exec While Compare cons nil" => k_while (fun _ day month => 1 ≤ month ∧ month ≤ m ∧ day = ydG y m d - ydG y month 1 + 1) (fun _ _ month => (m - month).toNat) "day" "month"
  walk_at "AK claim"
  all_goals (have q9 := ldL_exit (by assumption) (by assumption) (by assumption) (by assumption) (by assumption) ; walk_at "AK endT3")
  all_goals first | rfl | omega | (subst q9; omega)
 ); Claim w 366 [.int n t] 8 (RetT3 y m d))
end AK
end

section
namespace AK
theorem c_fromjdH' (w : World) (y m d n : Int) (t : Tok) (hy : 1 ≤ y ∧ y ≤ 34000) (h : IsHDate y m d) (e : n = 4 * jdH y m d + 2) : Claim w 181 [.float (F n) t] 20 (RetT3 y m d) := e ▸ c_fromjdH w y m d (jdH y m d) t hy h rfl
/-- five ints in a new tuple -/
abbrev RetT5 (x1 x2 x3 x4 x5 : Int) : Post := fun h₀ L m news s Q => ∀ (D : Addr) (t1 t2 t3 t4 t5 : Tok) (c : Nat) (h' : Heap) (tk' : Nat), Fr h₀ L h' m → News h₀ L h' ((D, ({ cls := .type "tuple", data := .seq #[.int x1 t1, .int x2 t2, .int x3 t3, .int x4 t4, .int x5 t5] c } : Obj)) :: news) → AllLt D news → Q (.ref D) { s with heap := h', toks := tk' }
theorem endT5 {h₀ h' : Heap} {L D : Addr} {m : Str → Option Value} {news news' : Led} {s : Shared} {Q : Value → Shared → Prop} {x1 x2 x3 x4 x5 y1 y2 y3 y4 y5 : Int} {t1 t2 t3 t4 t5 : Tok} {c tk' : Nat}
    (hret : RetT5 x1 x2 x3 x4 x5 h₀ L m news s Q) (e1 : y1 = x1) (e2 : y2 = x2) (e3 : y3 = x3) (e4 : y4 = x4) (e5 : y5 = x5) (F : Fr h₀ L h' m) (N : News h₀ L h' ((D, ({ cls := .type "tuple", data := .seq #[.int y1 t1, .int y2 t2, .int y3 t3, .int y4 t4, .int y5 t5] c } : Obj)) :: news')) (hn : ∀ p ∈ news, p ∈ news') (hl : AllLt D news) :
    Q (.ref D) { s with heap := h', toks := tk' } := by
  subst e1 e2 e3 e4 e5
  refine hret D t1 t2 t3 t4 t5 c h' tk' F (fun p hp => ?_) hl
  rcases List.mem_cons.mp hp with rfl | hp
  · exact N _ (.head _)
  · exact N _ (.tail _ (hn p hp))
/-- the Long Count of a day's number from its first -/
structure IsLC (D bk kt tn u k : Int) : Prop where
  k : k = D % 20
  u : u = D / 20 % 18
  tn : tn = D / 20 / 18 % 20
  kt : kt = D / 20 / 18 / 20 % 20
  bk : bk = D / 20 / 18 / 20 / 20
theorem lc_sum {D bk kt tn u k : Int} (h : IsLC D bk kt tn u k) : bk * 144000 + kt * 7200 + tn * 360 + u * 20 + k = D :=
 (by intro h9x; exact h9x : have h9x : bk * 144000 + kt * 7200 + tn * 360 + u * 20 + k = D := (by
  obtain ⟨rfl, rfl, rfl, rfl, rfl⟩ := h; omega
 ); bk * 144000 + kt * 7200 + tn * 360 + u * 20 + k = D)
theorem lc_range {D bk kt tn u k : Int} (h : IsLC D bk kt tn u k) (h0 : 0 ≤ D ∧ D ≤ 20000000) : (0 ≤ bk ∧ bk ≤ 200) ∧ (0 ≤ kt ∧ kt < 20) ∧ (0 ≤ tn ∧ tn < 20) ∧ (0 ≤ u ∧ u < 18) ∧ (0 ≤ k ∧ k < 20) :=
 (by intro h9x; exact h9x : have h9x : (0 ≤ bk ∧ bk ≤ 200) ∧ (0 ≤ kt ∧ kt < 20) ∧ (0 ≤ tn ∧ tn < 20) ∧ (0 ≤ u ∧ u < 18) ∧ (0 ≤ k ∧ k < 20) := (by
  obtain ⟨rfl, rfl, rfl, rfl, rfl⟩ := h; omega
 ); (0 ≤ bk ∧ bk ≤ 200) ∧ (0 ≤ kt ∧ kt < 20) ∧ (0 ≤ tn ∧ tn < 20) ∧ (0 ≤ u ∧ u < 18) ∧ (0 ≤ k ∧ k < 20))
theorem and4 {a1 b1 a2 b2 a3 b3 D : Nat} {l : Led} (h : a1 < b1 ∧ a2 < b2 ∧ a3 < b3 ∧ AllLt D l) : AllLt D l := h.2.2.2
theorem and5 {a1 b1 a2 b2 a3 b3 a4 b4 D : Nat} {l : Led} (h : a1 < b1 ∧ a2 < b2 ∧ a3 < b3 ∧ a4 < b4 ∧ AllLt D l) : AllLt D l := h.2.2.2.2
theorem and6 {a1 b1 a2 b2 a3 b3 a4 b4 a5 b5 D : Nat} {l : Led} (h : a1 < b1 ∧ a2 < b2 ∧ a3 < b3 ∧ a4 < b4 ∧ a5 < b5 ∧ AllLt D l) : AllLt D l := h.2.2.2.2.2
theorem and7 {a1 b1 a2 b2 a3 b3 a4 b4 a5 b5 a6 b6 D : Nat} {l : Led} (h : a1 < b1 ∧ a2 < b2 ∧ a3 < b3 ∧ a4 < b4 ∧ a5 < b5 ∧ a6 < b6 ∧ AllLt D l) : AllLt D l := h.2.2.2.2.2.2
theorem and8 {a1 b1 a2 b2 a3 b3 a4 b4 a5 b5 a6 b6 a7 b7 D : Nat} {l : Led} (h : a1 < b1 ∧ a2 < b2 ∧ a3 < b3 ∧ a4 < b4 ∧ a5 < b5 ∧ a6 < b6 ∧ a7 < b7 ∧ AllLt D l) : AllLt D l := h.2.2.2.2.2.2.2
theorem and9 {a1 b1 a2 b2 a3 b3 a4 b4 a5 b5 a6 b6 a7 b7 a8 b8 D : Nat} {l : Led} (h : a1 < b1 ∧ a2 < b2 ∧ a3 < b3 ∧ a4 < b4 ∧ a5 < b5 ∧ a6 < b6 ∧ a7 < b7 ∧ a8 < b8 ∧ AllLt D l) : AllLt D l := h.2.2.2.2.2.2.2.2
theorem and10 {a1 b1 a2 b2 a3 b3 a4 b4 a5 b5 a6 b6 a7 b7 a8 b8 a9 b9 D : Nat} {l : Led} (h : a1 < b1 ∧ a2 < b2 ∧ a3 < b3 ∧ a4 < b4 ∧ a5 < b5 ∧ a6 < b6 ∧ a7 < b7 ∧ a8 < b8 ∧ a9 < b9 ∧ AllLt D l) : AllLt D l := h.2.2.2.2.2.2.2.2.2
theorem and11 {a1 b1 a2 b2 a3 b3 a4 b4 a5 b5 a6 b6 a7 b7 a8 b8 a9 b9 a10 b10 D : Nat} {l : Led} (h : a1 < b1 ∧ a2 < b2 ∧ a3 < b3 ∧ a4 < b4 ∧ a5 < b5 ∧ a6 < b6 ∧ a7 < b7 ∧ a8 < b8 ∧ a9 < b9 ∧ a10 < b10 ∧ AllLt D l) : AllLt D l := h.2.2.2.2.2.2.2.2.2.2
theorem and12 {a1 b1 a2 b2 a3 b3 a4 b4 a5 b5 a6 b6 a7 b7 a8 b8 a9 b9 a10 b10 a11 b11 D : Nat} {l : Led} (h : a1 < b1 ∧ a2 < b2 ∧ a3 < b3 ∧ a4 < b4 ∧ a5 < b5 ∧ a6 < b6 ∧ a7 < b7 ∧ a8 < b8 ∧ a9 < b9 ∧ a10 < b10 ∧ a11 < b11 ∧ AllLt D l) : AllLt D l := h.2.2.2.2.2.2.2.2.2.2.2
theorem lc_f {D b k tn u ki n r1 r2 r3 x1 x2 x3 x4 x5 : Int} (h : IsLC D b k tn u ki) (hn : n = D + 584283) (a1 : r1 = (n - 584283).fdiv 20) (a2 : x5 = (n - 584283).fmod 20) (a3 : r2 = r1.fdiv 18) (a4 : x4 = r1.fmod 18) (a5 : r3 = r2.fdiv 20) (a6 : x3 = r2.fmod 20) (a7 : x1 = r3.fdiv 20) (a8 : x2 = r3.fmod 20) :
    x1 = b ∧ x2 = k ∧ x3 = tn ∧ x4 = u ∧ x5 = ki :=
 (by intro h9x; exact h9x : have h9x : x1 = b ∧ x2 = k ∧ x3 = tn ∧ x4 = u ∧ x5 = ki := (by
  obtain ⟨k1, k2, k3, k4, k5⟩ := h
  rw [fd (by decide)] at a1 a3 a5 a7
  rw [fm (by decide)] at a2 a4 a6 a8
  have e : n - 584283 = D := by omega
  rw [e] at a1 a2
  subst a1 a3 a5
  subst a2 a4 a6 a7 a8
  subst k1 k2 k3 k4 k5
  exact ⟨rfl, rfl, rfl, rfl, rfl⟩
 ); x1 = b ∧ x2 = k ∧ x3 = tn ∧ x4 = u ∧ x5 = ki)
theorem lc_g {D b k tn u ki n x1 r1 r2 r3 : Int} (h : IsLC D b k tn u ki) (hx : x1 = n - 2337130) (hn : n = 2337130 + 4 * D) (a1 : r1 = x1 % (4 * 144000)) (a2 : r2 = r1 % (4 * 7200)) (a3 : r3 = r2 % (4 * 360)) :
    x1 / (4 * 144000) = b ∧ r1 / (4 * 7200) = k ∧ r2 / (4 * 360) = tn ∧ r3 / (4 * 20) = u ∧ r3 % (4 * 20) / 4 = ki :=
 (by intro h9x; exact h9x : have h9x : x1 / (4 * 144000) = b ∧ r1 / (4 * 7200) = k ∧ r2 / (4 * 360) = tn ∧ r3 / (4 * 20) = u ∧ r3 % (4 * 20) / 4 = ki := (by
  obtain ⟨k1, k2, k3, k4, k5⟩ := h
  have e0 : x1 = 4 * D := by omega
  have e1 : r1 = 4 * (D % 144000) := by omega
  have e2 : r2 = 4 * (D % 144000 % 7200) := by omega
  have e3 : r3 = 4 * (D % 144000 % 7200 % 360) := by omega
  refine ⟨?_, ?_, ?_, ?_, ?_⟩ <;> omega
 ); x1 / (4 * 144000) = b ∧ r1 / (4 * 7200) = k ∧ r2 / (4 * 360) = tn ∧ r3 / (4 * 20) = u ∧ r3 % (4 * 20) / 4 = ki)
end AK
end

section
local macro_rules | `(tactic| walk_at "AK lt") => `(tactic| first | k_asm | exact AK.and2 (by k_asm) | exact AK.and3 (by k_asm) | exact PySem.W.allLt_of (by k_asm) | exact AK.allLt_sub (by k_asm) (by walk_at "AK sub"))
local macro_rules | `(tactic| walk_at "AK endT3") => `(tactic| (refine AK.endT3' (by assumption) ?_ ?_ ?_ (by k_asm) (by k_asm) (by walk_at "AK sub") (by walk_at "AK lt")))
local macro_rules | `(tactic| walk_at "call ref") => `(tactic| (k_here; (with_reducible show wpAny _ _ (call (Value.ref 118) _ _) _ _ _); k_dflt (refine' AK.Claim.use (AK.c_fromjd_g _ _ _ _ _ _ ?p1 ?h ?e) ?k1 ?k2 ?k3 ?k4 ?k5 ?kK ?kd ?ku ?_; (case h => assumption); (case p1 => omega); (case e => omega); walk_at "AK use"); intro D9 t0 t1 t2 c9 h9 tk9 F9 N9 l9; (try simp only [PySem.W.AllLt, and_true] at l9); (try dsimp only); (try k_sweep)))
local macro_rules | `(tactic| walk_at "call ref") => `(tactic| (k_here; (with_reducible show wpAny _ _ (call (Value.ref 181) _ _) _ _ _); k_dflt (refine' AK.Claim.use (AK.c_fromjdH' _ _ _ _ _ _ ?p1 ?h ?e) ?k1 ?k2 ?k3 ?k4 ?k5 ?kK ?kd ?ku ?_; (case h => assumption); (case p1 => omega); (case e => omega); walk_at "AK use"); intro D9 t0 t1 t2 c9 h9 tk9 F9 N9 l9; (try simp only [PySem.W.AllLt, and_true] at l9); (try dsimp only); (try k_sweep)))
local macro_rules | `(tactic| walk_at "call ref") => `(tactic| (k_here; (with_reducible show wpAny _ _ (call (Value.ref 111) _ _) _ _ _); k_dflt (refine' AK.Claim.use (AK.c_tojd_g _ _ _ _ _ _ _ ?p1 ?h) ?k1 ?k2 ?k3 ?k4 ?k5 ?kK ?kd ?ku ?_; (case h => assumption); (case p1 => omega); walk_at "AK use"); intro t9 h9 tk9 F9 N9; (try dsimp only); (try k_sweep)))
local macro_rules | `(tactic| walk_at "call ref") => `(tactic| (k_here; (with_reducible show wpAny _ _ (call (Value.ref 174) _ _) _ _ _); k_dflt (refine' AK.Claim.use (AK.c_tojdHx _ _ _ _ _ _ _ ?p1 ?p2 ?p3 ?p4) ?k1 ?k2 ?k3 ?k4 ?k5 ?kK ?kd ?ku ?_; (case p1 => omega); (case p2 => omega); (case p3 => omega); (case p4 => omega); walk_at "AK use"); intro hzb9 t9 h9 tk9 F9 N9; (try dsimp only); (try k_sweep)))
namespace AK
theorem c_fgH (w : World) (y m d hy hm hd : Int) (t t1 t2 : Tok) (h : IsDate y m d) (hy1 : y.natAbs < 40000) (h' : IsHDate hy hm hd) (hy2 : 1 ≤ hy ∧ hy ≤ 34000) (e : 6885698 + 4 * gJ y m d = 4 * jdH hy hm hd + 2) :
    Claim w 188 [.int y t, .int m t1, .int d t2] 24 (RetT3 hy hm hd) :=
 (by intro h9x; exact h9x : have h9x : Claim w 188 [.int y t, .int m t1, .int d t2] 24 (RetT3 hy hm hd) := (by
  walk_at "AK claim"
  all_goals walk_at "AK endT3"
  all_goals rfl
 ); Claim w 188 [.int y t, .int m t1, .int d t2] 24 (RetT3 hy hm hd))
theorem c_tgH (w : World) (y m d hy hm hd : Int) (t t1 t2 : Tok) (h : IsDate y m d) (hy1 : y.natAbs < 40000) (h' : IsHDate hy hm hd) (hy2 : 1 ≤ hy ∧ hy ≤ 34000) (e : 6885698 + 4 * gJ y m d = 4 * jdH hy hm hd + 2) :
    Claim w 195 [.int hy t, .int hm t1, .int hd t2] 24 (RetT3 y m d) :=
 (by intro h9x; exact h9x : have h9x : Claim w 195 [.int hy t, .int hm t1, .int hd t2] 24 (RetT3 y m d) := (by
  have r1 := monsH_range hy
  have r2 := h'.m1
  have r3 := h'.m2
  have r4 := h'.d1
  have r5 := h'.d2
  have r6 := mlenH_range hy hm
  walk_at "AK claim"
  all_goals walk_at "AK endT3"
  all_goals rfl
 ); Claim w 195 [.int hy t, .int hm t1, .int hd t2] 24 (RetT3 y m d))
end AK
end

section
local macro_rules | `(tactic| walk_at "AK lt") => `(tactic| first | k_asm | exact AK.and2 (by k_asm) | exact AK.and3 (by k_asm) | exact PySem.W.allLt_of (by k_asm) | exact AK.allLt_sub (by k_asm) (by walk_at "AK sub"))
local macro_rules | `(tactic| walk_at "AK endT3") => `(tactic| (refine AK.endT3' (by assumption) ?_ ?_ ?_ (by k_asm) (by k_asm) (by walk_at "AK sub") (by walk_at "AK lt")))
local macro_rules | `(tactic| walk_at "AK lt") => `(tactic| first | exact AK.and2 (by k_asm) | exact AK.and3 (by k_asm) | exact AK.and4 (by k_asm) | exact AK.and5 (by k_asm) | exact AK.and6 (by k_asm) | exact AK.and7 (by k_asm) | exact AK.and8 (by k_asm) | exact AK.and9 (by k_asm) | exact AK.and10 (by k_asm) | exact AK.and11 (by k_asm) | exact AK.and12 (by k_asm) | k_asm | exact PySem.W.allLt_of (by k_asm))
local macro_rules | `(tactic| walk_at "AK sub") => `(tactic| (intro p9 hp9; repeat (first | exact hp9 | refine List.mem_cons_of_mem _ ?_)))
local macro_rules | `(tactic| walk_at "AK endT5") => `(tactic| (refine AK.endT5 (by assumption) ?_ ?_ ?_ ?_ ?_ (by k_asm) (by k_asm) (by walk_at "AK sub") (by walk_at "AK lt")))
local macro_rules | `(tactic| walk_at "storeName") => `(tactic| ((with_reducible show wpAny _ _ (storeName _ _ (Value.float (AK.F _) _)) _ _ _); (fail_if_success (with_reducible refine AK.gen_floatV (by with_reducible assumption) ?_)); (with_reducible refine AK.gen_float ?_); intro x9 hx9 hv9; walk_say "LETTER"))
local macro_rules | `(tactic| walk_at "storeName") => `(tactic| ((with_reducible show wpAny _ _ (storeName _ _ (Value.int _ _)) _ _ _); (fail_if_success (with_reducible refine AK.gen_intV (by with_reducible assumption) ?_)); (with_reducible refine AK.gen_int ?_); intro x9 hx9 hv9; walk_say "LETTER"))
namespace AK
theorem c_tojdM (w : World) (D b k tn u ki : Int) (t t1 t2 t3 t4 : Tok) (h : IsLC D b k tn u ki) (h0 : 0 ≤ D ∧ D ≤ 20000000) : Claim w 209 [.int b t, .int k t1, .int tn t2, .int u t3, .int ki t4] 2 (RetF (F (2337130 + 4 * D))) :=
 (by intro h9x; exact h9x : have h9x : Claim w 209 [.int b t, .int k t1, .int tn t2, .int u t3, .int ki t4] 2 (RetF (F (2337130 + 4 * D))) := (by
  have h1 := lc_sum h
  have h2 := lc_range h h0
  walk_at "AK claim"
  all_goals walk_at "AK endF"
  all_goals omega
 ); Claim w 209 [.int b t, .int k t1, .int tn t2, .int u t3, .int ki t4] 2 (RetF (F (2337130 + 4 * D))))
theorem c_fromjdM (w : World) (D b k tn u ki n : Int) (t : Tok) (h : IsLC D b k tn u ki) (h0 : 0 ≤ D ∧ D ≤ 20000000) (hn : n = 2337130 + 4 * D) : Claim w 216 [.float (F n) t] 2 (RetT5 b k tn u ki) :=
 (by intro h9x; exact h9x : have h9x : Claim w 216 [.float (F n) t] 2 (RetT5 b k tn u ki) := (by
  walk_at "AK claim"
  all_goals (have q9 := lc_g h (by assumption) hn (by assumption) (by assumption) (by assumption) ; walk_at "AK endT5")
  all_goals omega
 ); Claim w 216 [.float (F n) t] 2 (RetT5 b k tn u ki))
theorem c_lcount (w : World) (D b k tn u ki n : Int) (t : Tok) (h : IsLC D b k tn u ki) (h0 : 0 ≤ D ∧ D ≤ 20000000) (hn : n = D + 584283) : Claim w 373 [.int n t] 2 (RetT5 b k tn u ki) :=
 (by intro h9x; exact h9x : have h9x : Claim w 373 [.int n t] 2 (RetT5 b k tn u ki) := (by
  walk_at "AK claim"
  all_goals (have q9 := lc_f h hn (by assumption) (by assumption) (by assumption) (by assumption) (by assumption) (by assumption) (by assumption) (by assumption) ; walk_at "AK endT5")
  all_goals omega
 ); Claim w 373 [.int n t] 2 (RetT5 b k tn u ki))
end AK
end

section
local macro_rules | `(tactic| walk_at "AK lt") => `(tactic| first | k_asm | exact AK.and2 (by k_asm) | exact AK.and3 (by k_asm) | exact PySem.W.allLt_of (by k_asm) | exact AK.allLt_sub (by k_asm) (by walk_at "AK sub"))
local macro_rules | `(tactic| walk_at "AK endT3") => `(tactic| (refine AK.endT3' (by assumption) ?_ ?_ ?_ (by k_asm) (by k_asm) (by walk_at "AK sub") (by walk_at "AK lt")))
local macro_rules | `(tactic| walk_at "AK lt") => `(tactic| first | exact AK.and2 (by k_asm) | exact AK.and3 (by k_asm) | exact AK.and4 (by k_asm) | exact AK.and5 (by k_asm) | exact AK.and6 (by k_asm) | exact AK.and7 (by k_asm) | exact AK.and8 (by k_asm) | exact AK.and9 (by k_asm) | exact AK.and10 (by k_asm) | exact AK.and11 (by k_asm) | exact AK.and12 (by k_asm) | k_asm | exact PySem.W.allLt_of (by k_asm))
local macro_rules | `(tactic| walk_at "AK sub") => `(tactic| (intro p9 hp9; repeat (first | exact hp9 | refine List.mem_cons_of_mem _ ?_)))
local macro_rules | `(tactic| walk_at "AK endT5") => `(tactic| (refine AK.endT5 (by assumption) ?_ ?_ ?_ ?_ ?_ (by k_asm) (by k_asm) (by walk_at "AK sub") (by walk_at "AK lt")))
local macro_rules | `(tactic| walk_at "call ref") => `(tactic| (k_here; (with_reducible show wpAny _ _ (call (Value.ref 118) _ _) _ _ _); k_dflt (refine' AK.Claim.use (AK.c_fromjd_g _ _ _ _ _ _ ?p1 ?h ?e) ?k1 ?k2 ?k3 ?k4 ?k5 ?kK ?kd ?ku ?_; (case h => assumption); (case p1 => omega); (case e => omega); walk_at "AK use"); intro D9 t0 t1 t2 c9 h9 tk9 F9 N9 l9; (try simp only [PySem.W.AllLt, and_true] at l9); (try dsimp only); (try k_sweep)))
local macro_rules | `(tactic| walk_at "call ref") => `(tactic| (k_here; (with_reducible show wpAny _ _ (call (Value.ref 181) _ _) _ _ _); k_dflt (refine' AK.Claim.use (AK.c_fromjdH' _ _ _ _ _ _ ?p1 ?h ?e) ?k1 ?k2 ?k3 ?k4 ?k5 ?kK ?kd ?ku ?_; (case h => assumption); (case p1 => omega); (case e => omega); walk_at "AK use"); intro D9 t0 t1 t2 c9 h9 tk9 F9 N9 l9; (try simp only [PySem.W.AllLt, and_true] at l9); (try dsimp only); (try k_sweep)))
local macro_rules | `(tactic| walk_at "call ref") => `(tactic| (k_here; (with_reducible show wpAny _ _ (call (Value.ref 111) _ _) _ _ _); k_dflt (refine' AK.Claim.use (AK.c_tojd_g _ _ _ _ _ _ _ ?p1 ?h) ?k1 ?k2 ?k3 ?k4 ?k5 ?kK ?kd ?ku ?_; (case h => assumption); (case p1 => omega); walk_at "AK use"); intro t9 h9 tk9 F9 N9; (try dsimp only); (try k_sweep)))
local macro_rules | `(tactic| walk_at "call ref") => `(tactic| (k_here; (with_reducible show wpAny _ _ (call (Value.ref 174) _ _) _ _ _); k_dflt (refine' AK.Claim.use (AK.c_tojdHx _ _ _ _ _ _ _ ?p1 ?p2 ?p3 ?p4) ?k1 ?k2 ?k3 ?k4 ?k5 ?kK ?kd ?ku ?_; (case p1 => omega); (case p2 => omega); (case p3 => omega); (case p4 => omega); walk_at "AK use"); intro hzb9 t9 h9 tk9 F9 N9; (try dsimp only); (try k_sweep)))
local macro_rules | `(tactic| walk_at "call ref") => `(tactic| (k_here; (with_reducible show wpAny _ _ (call (Value.ref 209) _ _) _ _ _); k_dflt (refine' AK.Claim.use (AK.c_tojdM _ _ _ _ _ _ _ _ _ _ _ _ ?h ?h0) ?k1 ?k2 ?k3 ?k4 ?k5 ?kK ?kd ?ku ?_; (case h => assumption); (case h0 => omega); walk_at "AK use"); intro t9 h9 tk9 F9 N9; (try dsimp only); (try k_sweep)))
local macro_rules | `(tactic| walk_at "call ref") => `(tactic| (k_here; (with_reducible show wpAny _ _ (call (Value.ref 216) _ _) _ _ _); k_dflt (refine' AK.Claim.use (AK.c_fromjdM _ _ _ _ _ _ _ _ _ ?h ?h0 ?e) ?k1 ?k2 ?k3 ?k4 ?k5 ?kK ?kd ?ku ?_; (case h => assumption); (case h0 => omega); (case e => omega); walk_at "AK use"); intro D9 t0 t1 t2 t3 t4 c9 h9 tk9 F9 N9 l9; (try simp only [PySem.W.AllLt, and_true] at l9); (try dsimp only); (try k_sweep)))
namespace AK
theorem c_fgM (w : World) (y m d D b k tn u ki : Int) (t t1 t2 : Tok) (h : IsDate y m d) (hy1 : y.natAbs < 40000) (h' : IsLC D b k tn u ki) (h0 : 0 ≤ D ∧ D ≤ 20000000) (e : 6885698 + 4 * gJ y m d = 2337130 + 4 * D) :
    Claim w 230 [.int y t, .int m t1, .int d t2] 10 (RetT5 b k tn u ki) :=
 (by intro h9x; exact h9x : have h9x : Claim w 230 [.int y t, .int m t1, .int d t2] 10 (RetT5 b k tn u ki) := (by
  walk_at "AK claim"
  all_goals walk_at "AK endT5"
  all_goals rfl
 ); Claim w 230 [.int y t, .int m t1, .int d t2] 10 (RetT5 b k tn u ki))
theorem c_tgM (w : World) (y m d D b k tn u ki : Int) (t t1 t2 t3 t4 : Tok) (h : IsDate y m d) (hy1 : y.natAbs < 40000) (h' : IsLC D b k tn u ki) (h0 : 0 ≤ D ∧ D ≤ 20000000) (e : 6885698 + 4 * gJ y m d = 2337130 + 4 * D) :
    Claim w 223 [.int b t, .int k t1, .int tn t2, .int u t3, .int ki t4] 16 (RetT3 y m d) :=
 (by intro h9x; exact h9x : have h9x : Claim w 223 [.int b t, .int k t1, .int tn t2, .int u t3, .int ki t4] 16 (RetT3 y m d) := (by
  walk_at "AK claim"
  all_goals walk_at "AK endT3"
  all_goals rfl
 ); Claim w 223 [.int b t, .int k t1, .int tn t2, .int u t3, .int ki t4] 16 (RetT3 y m d))
end AK
end

section
namespace AK
/-- the Armenian loose date of a day -/
structure IsAr (D y m d : Int) : Prop where
  y : y = (D - 1) / 365
  m : m = (D - 1) % 365 / 30 + 1
  d : d = (D - 1) % 365 % 30 + 1
theorem ar_range {D y m d : Int} (h : IsAr D y m d) (h0 : 366 ≤ D ∧ D ≤ 20000000) : (1 ≤ m ∧ m ≤ 13) ∧ (1 ≤ y ∧ y ≤ 60000) ∧ (1 ≤ d ∧ d ≤ 30) ∧ (m = 13 → d ≤ 5) ∧ 365 * y + ((m - 1) * 30 + d) = D :=
 (by intro h9x; exact h9x : have h9x : (1 ≤ m ∧ m ≤ 13) ∧ (1 ≤ y ∧ y ≤ 60000) ∧ (1 ≤ d ∧ d ≤ 30) ∧ (m = 13 → d ≤ 5) ∧ 365 * y + ((m - 1) * 30 + d) = D := (by
  obtain ⟨rfl, rfl, rfl⟩ := h
  omega
 ); (1 ≤ m ∧ m ≤ 13) ∧ (1 ≤ y ∧ y ≤ 60000) ∧ (1 ≤ d ∧ d ≤ 30) ∧ (m = 13 → d ≤ 5) ∧ 365 * y + ((m - 1) * 30 + d) = D)
/-- the Armenian fixed date of a day: r rounds of four years, j years, q days -/
structure IsSk (E y m d r j q : Int) : Prop where
  e : E = 1461 * r + 365 * j + q
  r0 : 0 ≤ r ∧ r ≤ 20000
  j0 : 0 ≤ j ∧ j ≤ 3
  q0 : 0 ≤ q
  q1 : q ≤ 364 ∨ (j = 3 ∧ q ≤ 365)
  y : y = 533 + 4 * r + j
  m : m = q / 30 + 1
  d : d = q % 30 + 1
theorem sk_range {E y m d r j q : Int} (h : IsSk E y m d r j q) : (1 ≤ m ∧ m ≤ 13) ∧ 533 ≤ y ∧ (1 ≤ d ∧ d ≤ 30) ∧ (m = 13 → d ≤ 6) ∧ (m = 13 → d = 6 → y % 4 = 0) ∧ 365 * (y - 533) + (y - 533) / 4 + ((m - 1) * 30 + d) = E + 1 :=
 (by intro h9x; exact h9x : have h9x : (1 ≤ m ∧ m ≤ 13) ∧ 533 ≤ y ∧ (1 ≤ d ∧ d ≤ 30) ∧ (m = 13 → d ≤ 6) ∧ (m = 13 → d = 6 → y % 4 = 0) ∧ 365 * (y - 533) + (y - 533) / 4 + ((m - 1) * 30 + d) = E + 1 := (by
  obtain ⟨e, r0, j0, q0, q1, rfl, rfl, rfl⟩ := h
  refine ⟨?_, ?_, ?_, ?_, ?_, ?_⟩ <;> omega
 ); (1 ≤ m ∧ m ≤ 13) ∧ 533 ≤ y ∧ (1 ≤ d ∧ d ≤ 30) ∧ (m = 13 → d ≤ 6) ∧ (m = 13 → d = 6 → y % 4 = 0) ∧ 365 * (y - 533) + (y - 533) / 4 + ((m - 1) * 30 + d) = E + 1)
theorem sk_ex {E : Int} (h : 0 ≤ E ∧ E ≤ 20000000) : ∃ y m d r j q, IsSk E y m d r j q :=
 (by intro h9x; exact h9x : have h9x : ∃ y m d r j q, IsSk E y m d r j q := (by
  have hp : 0 ≤ E % 1461 ∧ E % 1461 < 1461 := by omega
  by_cases c : E % 1461 = 1460
  · exact ⟨_, _, _, E / 1461, 3, 365, by omega, by omega, by omega, by omega, by omega, rfl, rfl, rfl⟩
  · exact ⟨_, _, _, E / 1461, E % 1461 / 365, E % 1461 % 365, by omega, by omega, by omega, by omega, by omega, rfl, rfl, rfl⟩
 ); ∃ y m d r j q, IsSk E y m d r j q)
/-- the republic's date -/
structure IsFr (E y m d r j o q : Int) : Prop where
  e : E = 1461 * r + o + q
  r0 : 0 ≤ r ∧ r ≤ 20000
  jo : (j = 0 ∧ o = 0) ∨ (j = 1 ∧ o = 365) ∨ (j = 2 ∧ o = 730) ∨ (j = 3 ∧ o = 1096)
  q0 : 0 ≤ q
  q1 : q ≤ 364 ∨ (j = 2 ∧ q ≤ 365)
  y : y = 1 + 4 * r + j
  m : m = q / 30 + 1
  d : d = q % 30 + 1
theorem fr_range {E y m d r j o q : Int} (h : IsFr E y m d r j o q) : (1 ≤ m ∧ m ≤ 13) ∧ 1 ≤ y ∧ (1 ≤ d ∧ d ≤ 30) ∧ (m = 13 → d ≤ 6) ∧ (m = 13 → d = 6 → y % 4 = 3) ∧ (m - 1) * 30 + d = q + 1 :=
 (by intro h9x; exact h9x : have h9x : (1 ≤ m ∧ m ≤ 13) ∧ 1 ≤ y ∧ (1 ≤ d ∧ d ≤ 30) ∧ (m = 13 → d ≤ 6) ∧ (m = 13 → d = 6 → y % 4 = 3) ∧ (m - 1) * 30 + d = q + 1 := (by
  obtain ⟨e, r0, jo, q0, q1, rfl, rfl, rfl⟩ := h
  refine ⟨?_, ?_, ?_, ?_, ?_, ?_⟩ <;> omega
 ); (1 ≤ m ∧ m ≤ 13) ∧ 1 ≤ y ∧ (1 ≤ d ∧ d ≤ 30) ∧ (m = 13 → d ≤ 6) ∧ (m = 13 → d = 6 → y % 4 = 3) ∧ (m - 1) * 30 + d = q + 1)
theorem fr_ex {E : Int} (h : 0 ≤ E ∧ E ≤ 20000000) : ∃ y m d r j o q, IsFr E y m d r j o q :=
 (by intro h9x; exact h9x : have h9x : ∃ y m d r j o q, IsFr E y m d r j o q := (by
  have hp : 0 ≤ E % 1461 ∧ E % 1461 < 1461 := by omega
  by_cases c : E % 1461 < 365
  · exact ⟨_, _, _, E / 1461, 0, 0, E % 1461, by omega, by omega, by omega, by omega, by omega, rfl, rfl, rfl⟩
  by_cases c2 : E % 1461 < 730
  · exact ⟨_, _, _, E / 1461, 1, 365, E % 1461 - 365, by omega, by omega, by omega, by omega, by omega, rfl, rfl, rfl⟩
  by_cases c3 : E % 1461 < 1096
  · exact ⟨_, _, _, E / 1461, 2, 730, E % 1461 - 730, by omega, by omega, by omega, by omega, by omega, rfl, rfl, rfl⟩
  · exact ⟨_, _, _, E / 1461, 3, 1096, E % 1461 - 1096, by omega, by omega, by omega, by omega, by omega, rfl, rfl, rfl⟩
 ); ∃ y m d r j o q, IsFr E y m d r j o q)
end AK
end

section
local macro_rules | `(tactic| walk_at "AK claim") => `(tactic| (unfold AK.Claim; k_fill; intro p loose mean mg mb dp un gd cn cs a ccd cl outer A₀ base h₀ L mm news s Q E B F X N T hk hdp hun hret; refine wpAny_call ?_; k_dflt (refine' code_def ?k1 ?k2 ?k3 ?k4 ?k5 ?kA ?kF ?kK ?k6 ?k7 ?k8 ?k9 ?kB ?_ ?c2 ?c3 ?c4 ?c5; (case kA => exact rfl); (case kF => exact rfl); (case kK => assumption); (case k1 => k_asm); (case k2 => k_asm); (case k3 => k_asm); (case k4 => k_asm); (case k5 => k_asm); (case k6 => k_is); (case k7 => k_is); (case k8 => ktr_room); (case k9 => first | exact BindsTo.of_eq rfl | exact binds_K (by k_in) rfl (by k_is) rfl rfl rfl); (case c5 => decide); (case kB => exact locs rfl); (case c2 => exact rfl); (case c3 => exact rfl); (case c4 => exact rfl); k_whole; intro g' L' h' FG' F' N' B' X' T'; (try dsimp only); (try k_lift B'); (try k_fold)); k_steps))
local macro_rules | `(tactic| walk_at "AK lt") => `(tactic| first | k_asm | exact AK.and2 (by k_asm) | exact AK.and3 (by k_asm) | exact PySem.W.allLt_of (by k_asm) | exact AK.allLt_sub (by k_asm) (by walk_at "AK sub"))
local macro_rules | `(tactic| walk_at "AK endT3") => `(tactic| (refine AK.endT3' (by assumption) ?_ ?_ ?_ (by k_asm) (by k_asm) (by walk_at "AK sub") (by walk_at "AK lt")))
local macro_rules | `(tactic| walk_at "AK lt") => `(tactic| first | exact AK.and2 (by k_asm) | exact AK.and3 (by k_asm) | exact AK.and4 (by k_asm) | exact AK.and5 (by k_asm) | exact AK.and6 (by k_asm) | exact AK.and7 (by k_asm) | exact AK.and8 (by k_asm) | exact AK.and9 (by k_asm) | exact AK.and10 (by k_asm) | exact AK.and11 (by k_asm) | exact AK.and12 (by k_asm) | k_asm | exact PySem.W.allLt_of (by k_asm))
local macro_rules | `(tactic| walk_at "AK sub") => `(tactic| (intro p9 hp9; repeat (first | exact hp9 | refine List.mem_cons_of_mem _ ?_)))
local macro_rules | `(tactic| walk_at "AK endT5") => `(tactic| (refine AK.endT5 (by assumption) ?_ ?_ ?_ ?_ ?_ (by k_asm) (by k_asm) (by walk_at "AK sub") (by walk_at "AK lt")))
namespace AK
theorem c_valid0 (w : World) (y m d : Int) (t t1 t2 : Tok) (hm : 1 ≤ m ∧ m ≤ 13) (hy : 1 ≤ y) (hd : 1 ≤ d ∧ d ≤ 30) (h13 : m = 13 → d ≤ 5) : Claim w 238 [.int y t, .int m t1, .int d t2, .none] 4 (RetB true) :=
 (by intro h9x; exact h9x : have h9x : Claim w 238 [.int y t, .int m t1, .int d t2, .none] 4 (RetB true) := (by
  by_cases c : m = 13
  · have := h13 c
    walk_at "AK claim"
    all_goals walk_at "AK endB"
    all_goals rfl
  · walk_at "AK claim"
    all_goals walk_at "AK endB"
    all_goals rfl
 ); Claim w 238 [.int y t, .int m t1, .int d t2, .none] 4 (RetB true))
theorem c_valid1 (w : World) (y m d : Int) (t t1 t2 ts : Tok) (hm : 1 ≤ m ∧ m ≤ 13) (hy : 1 ≤ y) (hd : 1 ≤ d ∧ d ≤ 30) (h13 : m = 13 → d ≤ 5) : Claim w 238 [.int y t, .int m t1, .int d t2, .str (Str.ofString "moveable") ts] 4 (RetB true) :=
 (by intro h9x; exact h9x : have h9x : Claim w 238 [.int y t, .int m t1, .int d t2, .str (Str.ofString "moveable") ts] 4 (RetB true) := (by
  by_cases c : m = 13
  · have := h13 c
    walk_at "AK claim"
    all_goals walk_at "AK endB"
    all_goals rfl
  · walk_at "AK claim"
    all_goals walk_at "AK endB"
    all_goals rfl
 ); Claim w 238 [.int y t, .int m t1, .int d t2, .str (Str.ofString "moveable") ts] 4 (RetB true))
theorem c_leapA (w : World) (y : Int) (t : Tok) (h : 533 ≤ y) : Claim w 245 [.int y t] 2 (RetB (decide (y % 4 = 0))) :=
 (by intro h9x; exact h9x : have h9x : Claim w 245 [.int y t] 2 (RetB (decide (y % 4 = 0))) := (by
  walk_at "AK claim"
  all_goals walk_at "AK endB"
  all_goals rfl
 ); Claim w 245 [.int y t] 2 (RetB (decide (y % 4 = 0))))
theorem c_leapA' (w : World) (y : Int) (t : Tok) (b : Bool) (h : 533 ≤ y) (hb : decide (y % 4 = 0) = b) : Claim w 245 [.int y t] 2 (RetB b) := hb ▸ c_leapA w y t h
end AK
end

section
local macro_rules | `(tactic| walk_at "AK claim") => `(tactic| (unfold AK.Claim; k_fill; intro p loose mean mg mb dp un gd cn cs a ccd cl outer A₀ base h₀ L mm news s Q E B F X N T hk hdp hun hret; refine wpAny_call ?_; k_dflt (refine' code_def ?k1 ?k2 ?k3 ?k4 ?k5 ?kA ?kF ?kK ?k6 ?k7 ?k8 ?k9 ?kB ?_ ?c2 ?c3 ?c4 ?c5; (case kA => exact rfl); (case kF => exact rfl); (case kK => assumption); (case k1 => k_asm); (case k2 => k_asm); (case k3 => k_asm); (case k4 => k_asm); (case k5 => k_asm); (case k6 => k_is); (case k7 => k_is); (case k8 => ktr_room); (case k9 => first | exact BindsTo.of_eq rfl | exact binds_K (by k_in) rfl (by k_is) rfl rfl rfl); (case c5 => decide); (case kB => exact locs rfl); (case c2 => exact rfl); (case c3 => exact rfl); (case c4 => exact rfl); k_whole; intro g' L' h' FG' F' N' B' X' T'; (try dsimp only); (try k_lift B'); (try k_fold)); k_steps))
local macro_rules | `(tactic| walk_at "AK lt") => `(tactic| first | k_asm | exact AK.and2 (by k_asm) | exact AK.and3 (by k_asm) | exact PySem.W.allLt_of (by k_asm) | exact AK.allLt_sub (by k_asm) (by walk_at "AK sub"))
local macro_rules | `(tactic| walk_at "AK endT3") => `(tactic| (refine AK.endT3' (by assumption) ?_ ?_ ?_ (by k_asm) (by k_asm) (by walk_at "AK sub") (by walk_at "AK lt")))
local macro_rules | `(tactic| walk_at "AK lt") => `(tactic| first | exact AK.and2 (by k_asm) | exact AK.and3 (by k_asm) | exact AK.and4 (by k_asm) | exact AK.and5 (by k_asm) | exact AK.and6 (by k_asm) | exact AK.and7 (by k_asm) | exact AK.and8 (by k_asm) | exact AK.and9 (by k_asm) | exact AK.and10 (by k_asm) | exact AK.and11 (by k_asm) | exact AK.and12 (by k_asm) | k_asm | exact PySem.W.allLt_of (by k_asm))
local macro_rules | `(tactic| walk_at "AK sub") => `(tactic| (intro p9 hp9; repeat (first | exact hp9 | refine List.mem_cons_of_mem _ ?_)))
local macro_rules | `(tactic| walk_at "AK endT5") => `(tactic| (refine AK.endT5 (by assumption) ?_ ?_ ?_ ?_ ?_ (by k_asm) (by k_asm) (by walk_at "AK sub") (by walk_at "AK lt")))
local macro_rules | `(tactic| walk_at "call ref") => `(tactic| (k_here; (with_reducible show wpAny _ _ (call (Value.ref 245) _ _) _ _ _); k_dflt (refine' AK.Claim.use (AK.c_leapA' _ _ _ _ ?h ?hb) ?k1 ?k2 ?k3 ?k4 ?k5 ?kK ?kd ?ku ?_; (case hb => assumption); (case h => omega); walk_at "AK use"); intro t9 h9 tk9 F9 N9; (try dsimp only); (try k_sweep)))
namespace AK
theorem c_valid2 (w : World) (y m d : Int) (t t1 t2 ts : Tok) (hm : 1 ≤ m ∧ m ≤ 13) (hy : 533 ≤ y) (hd : 1 ≤ d ∧ d ≤ 30) (h13 : m = 13 → d ≤ 6) (h14 : m = 13 → d = 6 → y % 4 = 0) : Claim w 238 [.int y t, .int m t1, .int d t2, .str (Str.ofString "sarkawag") ts] 6 (RetB true) :=
 (by intro h9x; exact h9x : have h9x : Claim w 238 [.int y t, .int m t1, .int d t2, .str (Str.ofString "sarkawag") ts] 6 (RetB true) := (by
  by_cases c : m = 13
  · have c1 := h13 c
    have c2 := h14 c
    cases hb : decide (y % 4 = 0)
    · have c3 : ¬ y % 4 = 0 := by simpa using hb
      have c4 : d ≤ 5 := by omega
      walk_at "AK claim"
      all_goals walk_at "AK endB"
      all_goals rfl
    · walk_at "AK claim"
      all_goals walk_at "AK endB"
      all_goals rfl
  · walk_at "AK claim"
    all_goals walk_at "AK endB"
    all_goals rfl
 ); Claim w 238 [.int y t, .int m t1, .int d t2, .str (Str.ofString "sarkawag") ts] 6 (RetB true))
end AK
end

section
local macro_rules | `(tactic| walk_at "AK claim") => `(tactic| (unfold AK.Claim; k_fill; intro p loose mean mg mb dp un gd cn cs a ccd cl outer A₀ base h₀ L mm news s Q E B F X N T hk hdp hun hret; refine wpAny_call ?_; k_dflt (refine' code_def ?k1 ?k2 ?k3 ?k4 ?k5 ?kA ?kF ?kK ?k6 ?k7 ?k8 ?k9 ?kB ?_ ?c2 ?c3 ?c4 ?c5; (case kA => exact rfl); (case kF => exact rfl); (case kK => assumption); (case k1 => k_asm); (case k2 => k_asm); (case k3 => k_asm); (case k4 => k_asm); (case k5 => k_asm); (case k6 => k_is); (case k7 => k_is); (case k8 => ktr_room); (case k9 => first | exact BindsTo.of_eq rfl | exact binds_K (by k_in) rfl (by k_is) rfl rfl rfl); (case c5 => decide); (case kB => exact locs rfl); (case c2 => exact rfl); (case c3 => exact rfl); (case c4 => exact rfl); k_whole; intro g' L' h' FG' F' N' B' X' T'; (try dsimp only); (try k_lift B'); (try k_fold)); k_steps))
local macro_rules | `(tactic| walk_at "AK lt") => `(tactic| first | k_asm | exact AK.and2 (by k_asm) | exact AK.and3 (by k_asm) | exact PySem.W.allLt_of (by k_asm) | exact AK.allLt_sub (by k_asm) (by walk_at "AK sub"))
local macro_rules | `(tactic| walk_at "AK endT3") => `(tactic| (refine AK.endT3' (by assumption) ?_ ?_ ?_ (by k_asm) (by k_asm) (by walk_at "AK sub") (by walk_at "AK lt")))
local macro_rules | `(tactic| walk_at "AK lt") => `(tactic| first | exact AK.and2 (by k_asm) | exact AK.and3 (by k_asm) | exact AK.and4 (by k_asm) | exact AK.and5 (by k_asm) | exact AK.and6 (by k_asm) | exact AK.and7 (by k_asm) | exact AK.and8 (by k_asm) | exact AK.and9 (by k_asm) | exact AK.and10 (by k_asm) | exact AK.and11 (by k_asm) | exact AK.and12 (by k_asm) | k_asm | exact PySem.W.allLt_of (by k_asm))
local macro_rules | `(tactic| walk_at "AK sub") => `(tactic| (intro p9 hp9; repeat (first | exact hp9 | refine List.mem_cons_of_mem _ ?_)))
local macro_rules | `(tactic| walk_at "AK endT5") => `(tactic| (refine AK.endT5 (by assumption) ?_ ?_ ?_ ?_ ?_ (by k_asm) (by k_asm) (by walk_at "AK sub") (by walk_at "AK lt")))
local macro_rules | `(tactic| walk_at "storeName") => `(tactic| ((with_reducible show wpAny _ _ (storeName _ _ (Value.float (AK.F _) _)) _ _ _); (fail_if_success (with_reducible refine AK.gen_floatV (by with_reducible assumption) ?_)); (with_reducible refine AK.gen_float ?_); intro x9 hx9 hv9; walk_say "LETTER"))
local macro_rules | `(tactic| walk_at "call ref") => `(tactic| (k_here; (with_reducible show wpAny _ _ (call (Value.ref 245) _ _) _ _ _); k_dflt (refine' AK.Claim.use (AK.c_leapA' _ _ _ _ ?h ?hb) ?k1 ?k2 ?k3 ?k4 ?k5 ?kK ?kd ?ku ?_; (case hb => assumption); (case h => omega); walk_at "AK use"); intro t9 h9 tk9 F9 N9; (try dsimp only); (try k_sweep)))
local macro_rules | `(tactic| walk_at "call ref") => `(tactic| (k_here; (with_reducible show wpAny _ _ (call (Value.ref 238) _ _) _ _ _); k_dflt (refine' AK.Claim.use (AK.c_valid0 _ _ _ _ _ _ _ ?a ?b ?c ?d) ?k1 ?k2 ?k3 ?k4 ?k5 ?kK ?kd ?ku ?_; (case a => omega); (case b => omega); (case c => omega); (case d => omega); walk_at "AK use"); intro t9 h9 tk9 F9 N9; (try dsimp only); (try k_sweep)))
local macro_rules | `(tactic| walk_at "call ref") => `(tactic| (k_here; (with_reducible show wpAny _ _ (call (Value.ref 238) _ _) _ _ _); k_dflt (refine' AK.Claim.use (AK.c_valid1 _ _ _ _ _ _ _ _ ?a ?b ?c ?d) ?k1 ?k2 ?k3 ?k4 ?k5 ?kK ?kd ?ku ?_; (case a => omega); (case b => omega); (case c => omega); (case d => omega); walk_at "AK use"); intro t9 h9 tk9 F9 N9; (try dsimp only); (try k_sweep)))
local macro_rules | `(tactic| walk_at "call ref") => `(tactic| (k_here; (with_reducible show wpAny _ _ (call (Value.ref 238) _ _) _ _ _); k_dflt (refine' AK.Claim.use (AK.c_valid2 _ _ _ _ _ _ _ _ ?a ?b ?c ?d ?e) ?k1 ?k2 ?k3 ?k4 ?k5 ?kK ?kd ?ku ?_; (case a => omega); (case b => omega); (case c => omega); (case d => omega); (case e => omega); walk_at "AK use"); intro t9 h9 tk9 F9 N9; (try dsimp only); (try k_sweep)))
namespace AK
theorem c_tojdA0 (w : World) (D y m d : Int) (t t1 t2 : Tok) (h : IsAr D y m d) (h0 : 366 ≤ D ∧ D ≤ 20000000) : Claim w 253 [.int y t, .int m t1, .int d t2, .none] 8 (RetF (F (7690006 + 4 * D))) :=
 (by intro h9x; exact h9x : have h9x : Claim w 253 [.int y t, .int m t1, .int d t2, .none] 8 (RetF (F (7690006 + 4 * D))) := (by
  have hr := ar_range h h0
  walk_at "AK claim"
  all_goals walk_at "AK endF"
  all_goals omega
 ); Claim w 253 [.int y t, .int m t1, .int d t2, .none] 8 (RetF (F (7690006 + 4 * D))))
theorem c_tojdA1 (w : World) (D y m d : Int) (t t1 t2 ts : Tok) (h : IsAr D y m d) (h0 : 366 ≤ D ∧ D ≤ 20000000) : Claim w 253 [.int y t, .int m t1, .int d t2, .str (Str.ofString "moveable") ts] 8 (RetF (F (7690006 + 4 * D))) :=
 (by intro h9x; exact h9x : have h9x : Claim w 253 [.int y t, .int m t1, .int d t2, .str (Str.ofString "moveable") ts] 8 (RetF (F (7690006 + 4 * D))) := (by
  have hr := ar_range h h0
  walk_at "AK claim"
  all_goals walk_at "AK endF"
  all_goals omega
 ); Claim w 253 [.int y t, .int m t1, .int d t2, .str (Str.ofString "moveable") ts] 8 (RetF (F (7690006 + 4 * D))))
theorem c_tojdA2 (w : World) (E y m d r j q : Int) (t t1 t2 ts : Tok) (h : IsSk E y m d r j q) : Claim w 253 [.int y t, .int m t1, .int d t2, .str (Str.ofString "sarkawag") ts] 8 (RetF (F (8468842 + 4 * (E + 1)))) :=
 (by intro h9x; exact h9x : have h9x : Claim w 253 [.int y t, .int m t1, .int d t2, .str (Str.ofString "sarkawag") ts] 8 (RetF (F (8468842 + 4 * (E + 1)))) := (by
  have hr := sk_range h
  have h1 := h.y
  have h2 := h.r0
  have h3 := h.j0
  walk_at "AK claim"
  all_goals walk_at "AK endF"
  all_goals omega
 ); Claim w 253 [.int y t, .int m t1, .int d t2, .str (Str.ofString "sarkawag") ts] 8 (RetF (F (8468842 + 4 * (E + 1)))))
end AK
end

section
local macro_rules | `(tactic| walk_at "AK claim") => `(tactic| (unfold AK.Claim; k_fill; intro p loose mean mg mb dp un gd cn cs a ccd cl outer A₀ base h₀ L mm news s Q E B F X N T hk hdp hun hret; refine wpAny_call ?_; k_dflt (refine' code_def ?k1 ?k2 ?k3 ?k4 ?k5 ?kA ?kF ?kK ?k6 ?k7 ?k8 ?k9 ?kB ?_ ?c2 ?c3 ?c4 ?c5; (case kA => exact rfl); (case kF => exact rfl); (case kK => assumption); (case k1 => k_asm); (case k2 => k_asm); (case k3 => k_asm); (case k4 => k_asm); (case k5 => k_asm); (case k6 => k_is); (case k7 => k_is); (case k8 => ktr_room); (case k9 => first | exact BindsTo.of_eq rfl | exact binds_K (by k_in) rfl (by k_is) rfl rfl rfl); (case c5 => decide); (case kB => exact locs rfl); (case c2 => exact rfl); (case c3 => exact rfl); (case c4 => exact rfl); k_whole; intro g' L' h' FG' F' N' B' X' T'; (try dsimp only); (try k_lift B'); (try k_fold)); k_steps))
local macro_rules | `(tactic| walk_at "AK lt") => `(tactic| first | k_asm | exact AK.and2 (by k_asm) | exact AK.and3 (by k_asm) | exact PySem.W.allLt_of (by k_asm) | exact AK.allLt_sub (by k_asm) (by walk_at "AK sub"))
local macro_rules | `(tactic| walk_at "AK endT3") => `(tactic| (refine AK.endT3' (by assumption) ?_ ?_ ?_ (by k_asm) (by k_asm) (by walk_at "AK sub") (by walk_at "AK lt")))
local macro_rules | `(tactic| walk_at "AK lt") => `(tactic| first | exact AK.and2 (by k_asm) | exact AK.and3 (by k_asm) | exact AK.and4 (by k_asm) | exact AK.and5 (by k_asm) | exact AK.and6 (by k_asm) | exact AK.and7 (by k_asm) | exact AK.and8 (by k_asm) | exact AK.and9 (by k_asm) | exact AK.and10 (by k_asm) | exact AK.and11 (by k_asm) | exact AK.and12 (by k_asm) | k_asm | exact PySem.W.allLt_of (by k_asm))
local macro_rules | `(tactic| walk_at "AK sub") => `(tactic| (intro p9 hp9; repeat (first | exact hp9 | refine List.mem_cons_of_mem _ ?_)))
local macro_rules | `(tactic| walk_at "AK endT5") => `(tactic| (refine AK.endT5 (by assumption) ?_ ?_ ?_ ?_ ?_ (by k_asm) (by k_asm) (by walk_at "AK sub") (by walk_at "AK lt")))
local macro_rules | `(tactic| walk_at "storeName") => `(tactic| ((with_reducible show wpAny _ _ (storeName _ _ (Value.float (AK.F _) _)) _ _ _); (fail_if_success (with_reducible refine AK.gen_floatV (by with_reducible assumption) ?_)); (with_reducible refine AK.gen_float ?_); intro x9 hx9 hv9; walk_say "LETTER"))
local macro_rules | `(tactic| walk_at "storeName") => `(tactic| ((with_reducible show wpAny _ _ (storeName _ _ (Value.int _ _)) _ _ _); (fail_if_success (with_reducible refine AK.gen_intV (by with_reducible assumption) ?_)); (with_reducible refine AK.gen_int ?_); intro x9 hx9 hv9; walk_say "LETTER"))
namespace AK
theorem c_fromjdA0 (w : World) (D y m d n : Int) (t : Tok) (h : IsAr D y m d) (h0 : 366 ≤ D ∧ D ≤ 20000000) (hn : n = 7690006 + 4 * D) : Claim w 261 [.float (F n) t, .none] 4 (RetT3 y m d) :=
 (by intro h9x; exact h9x : have h9x : Claim w 261 [.float (F n) t, .none] 4 (RetT3 y m d) := (by
  obtain ⟨k1, k2, k3⟩ := h
  walk_at "AK claim"
  all_goals walk_at "AK endT3"
  all_goals omega
 ); Claim w 261 [.float (F n) t, .none] 4 (RetT3 y m d))
theorem c_fromjdA1 (w : World) (D y m d n : Int) (t ts : Tok) (h : IsAr D y m d) (h0 : 366 ≤ D ∧ D ≤ 20000000) (hn : n = 7690006 + 4 * D) : Claim w 261 [.float (F n) t, .str (Str.ofString "moveable") ts] 4 (RetT3 y m d) :=
 (by intro h9x; exact h9x : have h9x : Claim w 261 [.float (F n) t, .str (Str.ofString "moveable") ts] 4 (RetT3 y m d) := (by
  obtain ⟨k1, k2, k3⟩ := h
  walk_at "AK claim"
  all_goals walk_at "AK endT3"
  all_goals omega
 ); Claim w 261 [.float (F n) t, .str (Str.ofString "moveable") ts] 4 (RetT3 y m d))
end AK
end

section
local macro_rules | `(tactic| walk_at "AK pad") => `(tactic| skip)
local macro_rules | `(tactic| walk_at "AK claim") => `(tactic| (unfold AK.Claim; k_fill; intro p loose mean mg mb dp un gd cn cs a ccd cl outer A₀ base h₀ L mm news s Q E B F X N T hk hdp hun hret; refine wpAny_call ?_; k_dflt (refine' code_def ?k1 ?k2 ?k3 ?k4 ?k5 ?kA ?kF ?kK ?k6 ?k7 ?k8 ?k9 ?kB ?_ ?c2 ?c3 ?c4 ?c5; (case kA => exact rfl); (case kF => exact rfl); (case kK => assumption); (case k1 => k_asm); (case k2 => k_asm); (case k3 => k_asm); (case k4 => k_asm); (case k5 => k_asm); (case k6 => k_is); (case k7 => k_is); (case k8 => ktr_room); (case k9 => first | exact BindsTo.of_eq rfl | exact binds_K (by k_in) rfl (by k_is) rfl rfl rfl); (case c5 => decide); (case kB => exact locs rfl); (case c2 => exact rfl); (case c3 => exact rfl); (case c4 => exact rfl); k_whole; intro g' L' h' FG' F' N' B' X' T'; (try dsimp only); (try k_lift B'); (try k_fold)); k_steps))
local macro_rules | `(tactic| walk_at "AK lt") => `(tactic| first | k_asm | exact AK.and2 (by k_asm) | exact AK.and3 (by k_asm) | exact PySem.W.allLt_of (by k_asm) | exact AK.allLt_sub (by k_asm) (by walk_at "AK sub"))
local macro_rules | `(tactic| walk_at "AK endT3") => `(tactic| (refine AK.endT3' (by assumption) ?_ ?_ ?_ (by k_asm) (by k_asm) (by walk_at "AK sub") (by walk_at "AK lt")))
local macro_rules | `(tactic| walk_at "AK lt") => `(tactic| first | exact AK.and2 (by k_asm) | exact AK.and3 (by k_asm) | exact AK.and4 (by k_asm) | exact AK.and5 (by k_asm) | exact AK.and6 (by k_asm) | exact AK.and7 (by k_asm) | exact AK.and8 (by k_asm) | exact AK.and9 (by k_asm) | exact AK.and10 (by k_asm) | exact AK.and11 (by k_asm) | exact AK.and12 (by k_asm) | k_asm | exact PySem.W.allLt_of (by k_asm))
local macro_rules | `(tactic| walk_at "AK sub") => `(tactic| (intro p9 hp9; repeat (first | exact hp9 | refine List.mem_cons_of_mem _ ?_)))
local macro_rules | `(tactic| walk_at "AK endT5") => `(tactic| (refine AK.endT5 (by assumption) ?_ ?_ ?_ ?_ ?_ (by k_asm) (by k_asm) (by walk_at "AK sub") (by walk_at "AK lt")))
local macro_rules | `(tactic| walk_at "storeName") => `(tactic| ((with_reducible show wpAny _ _ (storeName _ _ (Value.float (AK.F _) _)) _ _ _); (fail_if_success (with_reducible refine AK.gen_floatV (by with_reducible assumption) ?_)); (with_reducible refine AK.gen_float ?_); intro x9 hx9 hv9; walk_say "LETTER"))
local macro_rules | `(tactic| walk_at "storeName") => `(tactic| ((with_reducible show wpAny _ _ (storeName _ _ (Value.int _ _)) _ _ _); (fail_if_success (with_reducible refine AK.gen_intV (by with_reducible assumption) ?_)); (with_reducible refine AK.gen_int ?_); intro x9 hx9 hv9; walk_say "LETTER"))
namespace AK
theorem sk_a {E r n x1 yrs : Int} (e : E = 1461 * r + 365 * 3 + 365) (hn : n = 8468842 + 4 * (E + 1)) (hx : x1 = n - 8468842) (hy : yrs = x1 / 1461) : yrs = 4 * r + 4 := by omega
theorem sk_b {E r j q n x1 yrs : Int} (e : E = 1461 * r + 365 * j + q) (j0 : 0 ≤ j ∧ j ≤ 3) (q0 : 0 ≤ q ∧ q ≤ 364) (hn : n = 8468842 + 4 * (E + 1)) (hx : x1 = n - 8468842) (hy : yrs = x1 / 1461) : yrs = 4 * r + j ∧ yrs / 4 = r :=
 (by intro h9x; exact h9x : have h9x : yrs = 4 * r + j ∧ yrs / 4 = r := (by
  have : j = 0 ∨ j = 1 ∨ j = 2 ∨ j = 3 := by omega
  rcases this with rfl | rfl | rfl | rfl <;> omega
 ); yrs = 4 * r + j ∧ yrs / 4 = r)
theorem c_fromjdA2 (w : World) (E y m d r j q n : Int) (t ts : Tok) (h : IsSk E y m d r j q) (hn : n = 8468842 + 4 * (E + 1)) : Claim w 261 [.float (F n) t, .str (Str.ofString "sarkawag") ts] 4 (RetT3 y m d) :=
 (by intro h9x; exact h9x : have h9x : Claim w 261 [.float (F n) t, .str (Str.ofString "sarkawag") ts] 4 (RetT3 y m d) := (by
  obtain ⟨e, r0, j0, q0, q1, k1, k2, k3⟩ := h
  by_cases c : q = 365
  · have c3 : j = 3 := by omega
    subst c c3
    walk_at "AK claim"
    all_goals (have q9 := sk_a e hn (by assumption) (by assumption); walk_at "AK endT3")
    all_goals omega
  · have c3 : q ≤ 364 := by omega
    walk_at "AK claim"
    all_goals (have q9 := sk_b e j0 ⟨q0, c3⟩ hn (by assumption) (by assumption); walk_at "AK endT3")
    all_goals first | omega | (exfalso; omega)
 ); Claim w 261 [.float (F n) t, .str (Str.ofString "sarkawag") ts] 4 (RetT3 y m d))
end AK
end

section
local macro_rules | `(tactic| walk_at "AK claim") => `(tactic| (unfold AK.Claim; k_fill; intro p loose mean mg mb dp un gd cn cs a ccd cl outer A₀ base h₀ L mm news s Q E B F X N T hk hdp hun hret; refine wpAny_call ?_; k_dflt (refine' code_def ?k1 ?k2 ?k3 ?k4 ?k5 ?kA ?kF ?kK ?k6 ?k7 ?k8 ?k9 ?kB ?_ ?c2 ?c3 ?c4 ?c5; (case kA => exact rfl); (case kF => exact rfl); (case kK => assumption); (case k1 => k_asm); (case k2 => k_asm); (case k3 => k_asm); (case k4 => k_asm); (case k5 => k_asm); (case k6 => k_is); (case k7 => k_is); (case k8 => ktr_room); (case k9 => first | exact BindsTo.of_eq rfl | exact binds_K (by k_in) rfl (by k_is) rfl rfl rfl); (case c5 => decide); (case kB => exact locs rfl); (case c2 => exact rfl); (case c3 => exact rfl); (case c4 => exact rfl); k_whole; intro g' L' h' FG' F' N' B' X' T'; (try dsimp only); (try k_lift B'); (try k_fold)); k_steps))
local macro_rules | `(tactic| walk_at "AK lt") => `(tactic| first | k_asm | exact AK.and2 (by k_asm) | exact AK.and3 (by k_asm) | exact PySem.W.allLt_of (by k_asm) | exact AK.allLt_sub (by k_asm) (by walk_at "AK sub"))
local macro_rules | `(tactic| walk_at "AK endT3") => `(tactic| (refine AK.endT3' (by assumption) ?_ ?_ ?_ (by k_asm) (by k_asm) (by walk_at "AK sub") (by walk_at "AK lt")))
local macro_rules | `(tactic| walk_at "AK lt") => `(tactic| first | exact AK.and2 (by k_asm) | exact AK.and3 (by k_asm) | exact AK.and4 (by k_asm) | exact AK.and5 (by k_asm) | exact AK.and6 (by k_asm) | exact AK.and7 (by k_asm) | exact AK.and8 (by k_asm) | exact AK.and9 (by k_asm) | exact AK.and10 (by k_asm) | exact AK.and11 (by k_asm) | exact AK.and12 (by k_asm) | k_asm | exact PySem.W.allLt_of (by k_asm))
local macro_rules | `(tactic| walk_at "AK sub") => `(tactic| (intro p9 hp9; repeat (first | exact hp9 | refine List.mem_cons_of_mem _ ?_)))
local macro_rules | `(tactic| walk_at "AK endT5") => `(tactic| (refine AK.endT5 (by assumption) ?_ ?_ ?_ ?_ ?_ (by k_asm) (by k_asm) (by walk_at "AK sub") (by walk_at "AK lt")))
local macro_rules | `(tactic| walk_at "call ref") => `(tactic| (k_here; (with_reducible show wpAny _ _ (call (Value.ref 118) _ _) _ _ _); k_dflt (refine' AK.Claim.use (AK.c_fromjd_g _ _ _ _ _ _ ?p1 ?h ?e) ?k1 ?k2 ?k3 ?k4 ?k5 ?kK ?kd ?ku ?_; (case h => assumption); (case p1 => omega); (case e => omega); walk_at "AK use"); intro D9 t0 t1 t2 c9 h9 tk9 F9 N9 l9; (try simp only [PySem.W.AllLt, and_true] at l9); (try dsimp only); (try k_sweep)))
local macro_rules | `(tactic| walk_at "call ref") => `(tactic| (k_here; (with_reducible show wpAny _ _ (call (Value.ref 181) _ _) _ _ _); k_dflt (refine' AK.Claim.use (AK.c_fromjdH' _ _ _ _ _ _ ?p1 ?h ?e) ?k1 ?k2 ?k3 ?k4 ?k5 ?kK ?kd ?ku ?_; (case h => assumption); (case p1 => omega); (case e => omega); walk_at "AK use"); intro D9 t0 t1 t2 c9 h9 tk9 F9 N9 l9; (try simp only [PySem.W.AllLt, and_true] at l9); (try dsimp only); (try k_sweep)))
local macro_rules | `(tactic| walk_at "call ref") => `(tactic| (k_here; (with_reducible show wpAny _ _ (call (Value.ref 111) _ _) _ _ _); k_dflt (refine' AK.Claim.use (AK.c_tojd_g _ _ _ _ _ _ _ ?p1 ?h) ?k1 ?k2 ?k3 ?k4 ?k5 ?kK ?kd ?ku ?_; (case h => assumption); (case p1 => omega); walk_at "AK use"); intro t9 h9 tk9 F9 N9; (try dsimp only); (try k_sweep)))
local macro_rules | `(tactic| walk_at "call ref") => `(tactic| (k_here; (with_reducible show wpAny _ _ (call (Value.ref 174) _ _) _ _ _); k_dflt (refine' AK.Claim.use (AK.c_tojdHx _ _ _ _ _ _ _ ?p1 ?p2 ?p3 ?p4) ?k1 ?k2 ?k3 ?k4 ?k5 ?kK ?kd ?ku ?_; (case p1 => omega); (case p2 => omega); (case p3 => omega); (case p4 => omega); walk_at "AK use"); intro hzb9 t9 h9 tk9 F9 N9; (try dsimp only); (try k_sweep)))
local macro_rules | `(tactic| walk_at "call ref") => `(tactic| (k_here; (with_reducible show wpAny _ _ (call (Value.ref 253) _ _) _ _ _); k_dflt (refine' AK.Claim.use (AK.c_tojdA0 _ _ _ _ _ _ _ _ ?h ?a) ?k1 ?k2 ?k3 ?k4 ?k5 ?kK ?kd ?ku ?_; (case h => assumption); (case a => omega); walk_at "AK use"); intro t9 h9 tk9 F9 N9; (try dsimp only); (try k_sweep)))
local macro_rules | `(tactic| walk_at "call ref") => `(tactic| (k_here; (with_reducible show wpAny _ _ (call (Value.ref 253) _ _) _ _ _); k_dflt (refine' AK.Claim.use (AK.c_tojdA1 _ _ _ _ _ _ _ _ _ ?h ?a) ?k1 ?k2 ?k3 ?k4 ?k5 ?kK ?kd ?ku ?_; (case h => assumption); (case a => omega); walk_at "AK use"); intro t9 h9 tk9 F9 N9; (try dsimp only); (try k_sweep)))
local macro_rules | `(tactic| walk_at "call ref") => `(tactic| (k_here; (with_reducible show wpAny _ _ (call (Value.ref 253) _ _) _ _ _); k_dflt (refine' AK.Claim.use (AK.c_tojdA2 _ _ _ _ _ _ _ _ _ _ _ _ ?h) ?k1 ?k2 ?k3 ?k4 ?k5 ?kK ?kd ?ku ?_; (case h => assumption); walk_at "AK use"); intro t9 h9 tk9 F9 N9; (try dsimp only); (try k_sweep)))
local macro_rules | `(tactic| walk_at "call ref") => `(tactic| (k_here; (with_reducible show wpAny _ _ (call (Value.ref 261) _ _) _ _ _); k_dflt (refine' AK.Claim.use (AK.c_fromjdA0 _ _ _ _ _ _ _ ?h ?a ?e) ?k1 ?k2 ?k3 ?k4 ?k5 ?kK ?kd ?ku ?_; (case h => assumption); (case a => omega); (case e => omega); walk_at "AK use"); intro D9 t0 t1 t2 c9 h9 tk9 F9 N9 l9; (try simp only [PySem.W.AllLt, and_true] at l9); (try dsimp only); (try k_sweep)))
local macro_rules | `(tactic| walk_at "call ref") => `(tactic| (k_here; (with_reducible show wpAny _ _ (call (Value.ref 261) _ _) _ _ _); k_dflt (refine' AK.Claim.use (AK.c_fromjdA1 _ _ _ _ _ _ _ _ ?h ?a ?e) ?k1 ?k2 ?k3 ?k4 ?k5 ?kK ?kd ?ku ?_; (case h => assumption); (case a => omega); (case e => omega); walk_at "AK use"); intro D9 t0 t1 t2 c9 h9 tk9 F9 N9 l9; (try simp only [PySem.W.AllLt, and_true] at l9); (try dsimp only); (try k_sweep)))
local macro_rules | `(tactic| walk_at "call ref") => `(tactic| (k_here; (with_reducible show wpAny _ _ (call (Value.ref 261) _ _) _ _ _); k_dflt (refine' AK.Claim.use (AK.c_fromjdA2 _ _ _ _ _ _ _ _ _ _ _ ?h ?e) ?k1 ?k2 ?k3 ?k4 ?k5 ?kK ?kd ?ku ?_; (case h => assumption); (case e => omega); walk_at "AK use"); intro D9 t0 t1 t2 c9 h9 tk9 F9 N9 l9; (try simp only [PySem.W.AllLt, and_true] at l9); (try dsimp only); (try k_sweep)))
namespace AK
theorem c_fgA0 (w : World) (y m d D ay am ad : Int) (t t1 t2 : Tok) (h : IsDate y m d) (hy1 : y.natAbs < 40000) (h' : IsAr D ay am ad) (h0 : 366 ≤ D ∧ D ≤ 20000000) (e : 6885698 + 4 * gJ y m d = 7690006 + 4 * D) :
    Claim w 277 [.int y t, .int m t1, .int d t2] 12 (RetT3 ay am ad) :=
 (by intro h9x; exact h9x : have h9x : Claim w 277 [.int y t, .int m t1, .int d t2] 12 (RetT3 ay am ad) := (by
  walk_at "AK claim"
  all_goals walk_at "AK endT3"
  all_goals rfl
 ); Claim w 277 [.int y t, .int m t1, .int d t2] 12 (RetT3 ay am ad))
theorem c_tgA0 (w : World) (y m d D ay am ad : Int) (t t1 t2 : Tok) (h : IsDate y m d) (hy1 : y.natAbs < 40000) (h' : IsAr D ay am ad) (h0 : 366 ≤ D ∧ D ≤ 20000000) (e : 6885698 + 4 * gJ y m d = 7690006 + 4 * D) :
    Claim w 269 [.int ay t, .int am t1, .int ad t2] 18 (RetT3 y m d) :=
 (by intro h9x; exact h9x : have h9x : Claim w 269 [.int ay t, .int am t1, .int ad t2] 18 (RetT3 y m d) := (by
  walk_at "AK claim"
  all_goals walk_at "AK endT3"
  all_goals rfl
 ); Claim w 269 [.int ay t, .int am t1, .int ad t2] 18 (RetT3 y m d))
theorem c_fgA1 (w : World) (y m d D ay am ad : Int) (t t1 t2 ts : Tok) (h : IsDate y m d) (hy1 : y.natAbs < 40000) (h' : IsAr D ay am ad) (h0 : 366 ≤ D ∧ D ≤ 20000000) (e : 6885698 + 4 * gJ y m d = 7690006 + 4 * D) :
    Claim w 277 [.int y t, .int m t1, .int d t2, .str (Str.ofString "moveable") ts] 12 (RetT3 ay am ad) :=
 (by intro h9x; exact h9x : have h9x : Claim w 277 [.int y t, .int m t1, .int d t2, .str (Str.ofString "moveable") ts] 12 (RetT3 ay am ad) := (by
  walk_at "AK claim"
  all_goals walk_at "AK endT3"
  all_goals rfl
 ); Claim w 277 [.int y t, .int m t1, .int d t2, .str (Str.ofString "moveable") ts] 12 (RetT3 ay am ad))
theorem c_tgA1 (w : World) (y m d D ay am ad : Int) (t t1 t2 ts : Tok) (h : IsDate y m d) (hy1 : y.natAbs < 40000) (h' : IsAr D ay am ad) (h0 : 366 ≤ D ∧ D ≤ 20000000) (e : 6885698 + 4 * gJ y m d = 7690006 + 4 * D) :
    Claim w 269 [.int ay t, .int am t1, .int ad t2, .str (Str.ofString "moveable") ts] 18 (RetT3 y m d) :=
 (by intro h9x; exact h9x : have h9x : Claim w 269 [.int ay t, .int am t1, .int ad t2, .str (Str.ofString "moveable") ts] 18 (RetT3 y m d) := (by
  walk_at "AK claim"
  all_goals walk_at "AK endT3"
  all_goals rfl
 ); Claim w 269 [.int ay t, .int am t1, .int ad t2, .str (Str.ofString "moveable") ts] 18 (RetT3 y m d))
theorem c_fgA2 (w : World) (y m d E ay am ad r j q : Int) (t t1 t2 ts : Tok) (h : IsDate y m d) (hy1 : y.natAbs < 40000) (h' : IsSk E ay am ad r j q) (e : 6885698 + 4 * gJ y m d = 8468842 + 4 * (E + 1)) :
    Claim w 277 [.int y t, .int m t1, .int d t2, .str (Str.ofString "sarkawag") ts] 12 (RetT3 ay am ad) :=
 (by intro h9x; exact h9x : have h9x : Claim w 277 [.int y t, .int m t1, .int d t2, .str (Str.ofString "sarkawag") ts] 12 (RetT3 ay am ad) := (by
  walk_at "AK claim"
  all_goals walk_at "AK endT3"
  all_goals rfl
 ); Claim w 277 [.int y t, .int m t1, .int d t2, .str (Str.ofString "sarkawag") ts] 12 (RetT3 ay am ad))
theorem c_tgA2 (w : World) (y m d E ay am ad r j q : Int) (t t1 t2 ts : Tok) (h : IsDate y m d) (hy1 : y.natAbs < 40000) (h' : IsSk E ay am ad r j q) (e : 6885698 + 4 * gJ y m d = 8468842 + 4 * (E + 1)) :
    Claim w 269 [.int ay t, .int am t1, .int ad t2, .str (Str.ofString "sarkawag") ts] 18 (RetT3 y m d) :=
 (by intro h9x; exact h9x : have h9x : Claim w 269 [.int ay t, .int am t1, .int ad t2, .str (Str.ofString "sarkawag") ts] 18 (RetT3 y m d) := (by
  walk_at "AK claim"
  all_goals walk_at "AK endT3"
  all_goals rfl
 ); Claim w 269 [.int ay t, .int am t1, .int ad t2, .str (Str.ofString "sarkawag") ts] 18 (RetT3 y m d))
end AK
end

section
local macro_rules | `(tactic| walk_at "AK lt") => `(tactic| first | k_asm | exact AK.and2 (by k_asm) | exact AK.and3 (by k_asm) | exact PySem.W.allLt_of (by k_asm) | exact AK.allLt_sub (by k_asm) (by walk_at "AK sub"))
local macro_rules | `(tactic| walk_at "AK endT3") => `(tactic| (refine AK.endT3' (by assumption) ?_ ?_ ?_ (by k_asm) (by k_asm) (by walk_at "AK sub") (by walk_at "AK lt")))
local macro_rules | `(tactic| walk_at "AK lt") => `(tactic| first | exact AK.and2 (by k_asm) | exact AK.and3 (by k_asm) | exact AK.and4 (by k_asm) | exact AK.and5 (by k_asm) | exact AK.and6 (by k_asm) | exact AK.and7 (by k_asm) | exact AK.and8 (by k_asm) | exact AK.and9 (by k_asm) | exact AK.and10 (by k_asm) | exact AK.and11 (by k_asm) | exact AK.and12 (by k_asm) | k_asm | exact PySem.W.allLt_of (by k_asm))
local macro_rules | `(tactic| walk_at "AK sub") => `(tactic| (intro p9 hp9; repeat (first | exact hp9 | refine List.mem_cons_of_mem _ ?_)))
local macro_rules | `(tactic| walk_at "AK endT5") => `(tactic| (refine AK.endT5 (by assumption) ?_ ?_ ?_ ?_ ?_ (by k_asm) (by k_asm) (by walk_at "AK sub") (by walk_at "AK lt")))
local macro_rules | `(tactic| walk_at "storeName") => `(tactic| ((with_reducible show wpAny _ _ (storeName _ _ (Value.int _ _)) _ _ _); (fail_if_success (with_reducible refine AK.gen_intV (by with_reducible assumption) ?_)); (with_reducible refine AK.gen_int ?_); intro x9 hx9 hv9; walk_say "LETTER"))
namespace AK
theorem ar_f {D y m d n x1 x2 : Int} (h : IsAr D y m d) (hn : n = D + 1922502) (a1 : x1 = (n - 1922868).fdiv 365) (a2 : x2 = (n - 1922868).fmod 365) : x1 + 1 = y ∧ x2.fdiv 30 + 1 = m ∧ x2.fmod 30 + 1 = d ∧ x2 / 30 + 1 = m ∧ x2 % 30 + 1 = d :=
 (by intro h9x; exact h9x : have h9x : x1 + 1 = y ∧ x2.fdiv 30 + 1 = m ∧ x2.fmod 30 + 1 = d ∧ x2 / 30 + 1 = m ∧ x2 % 30 + 1 = d := (by
  obtain ⟨k1, k2, k3⟩ := h
  rw [fd (by decide)] at a1 ⊢
  rw [fm (by decide)] at a2 ⊢
  omega
 ); x1 + 1 = y ∧ x2.fdiv 30 + 1 = m ∧ x2.fmod 30 + 1 = d ∧ x2 / 30 + 1 = m ∧ x2 % 30 + 1 = d)
theorem c_larm (w : World) (D y m d n : Int) (t : Tok) (h : IsAr D y m d) (h0 : 366 ≤ D ∧ D ≤ 20000000) (hn : n = D + 1922502) : Claim w 380 [.int n t] 2 (RetT3 y m d) :=
 (by intro h9x; exact h9x : have h9x : Claim w 380 [.int n t] 2 (RetT3 y m d) := (by
  walk_at "AK claim"
  all_goals (have q9 := ar_f h hn (by assumption) (by assumption); walk_at "AK endT3")
  all_goals omega
 ); Claim w 380 [.int n t] 2 (RetT3 y m d))
end AK
end

section
namespace AK
theorem r_divmod {prog : Program} {w : World} {A : Around} {E : Value → Shared → Prop} {s : Shared} {Q : Value → Shared → Prop} {a b : Int} {t u : Tok} {h₀ : Heap} {L : Addr} {m : Str → Option Value} {news : List (Addr × Obj)} (F : Fr h₀ L s.heap m) (N : News h₀ L s.heap news) (hb : 0 < b) (hb2 : b < 2 ^ 29) (hs : a.natAbs < 2 ^ 60)
    (h : ∀ h', Fr h₀ L h' m → News h₀ L h' ((s.heap.objs.size, { cls := .type "tuple", data := .seq #[.int (a / b) s.toks, .int (a % b) (s.toks + 1)] }) :: news) → Q (.ref s.heap.objs.size) { s with toks := s.toks + 1 + 1, heap := h' }) :
    wpAny (model prog w) A (call (.builtin "divmod") [.int a t, .int b u]) Q E s :=
  divmod_N F N (by omega) (by rw [fd (by omega), fm (by omega)]; exact h) (.inl (PyProof.noPylong_small (by omega)))
end AK
end

section
local macro_rules | `(tactic| walk_at "AK lt") => `(tactic| first | k_asm | exact AK.and2 (by k_asm) | exact AK.and3 (by k_asm) | exact PySem.W.allLt_of (by k_asm) | exact AK.allLt_sub (by k_asm) (by walk_at "AK sub"))
local macro_rules | `(tactic| walk_at "AK endT3") => `(tactic| (refine AK.endT3' (by assumption) ?_ ?_ ?_ (by k_asm) (by k_asm) (by walk_at "AK sub") (by walk_at "AK lt")))
local macro_rules | `(tactic| walk_at "AK lt") => `(tactic| first | exact AK.and2 (by k_asm) | exact AK.and3 (by k_asm) | exact AK.and4 (by k_asm) | exact AK.and5 (by k_asm) | exact AK.and6 (by k_asm) | exact AK.and7 (by k_asm) | exact AK.and8 (by k_asm) | exact AK.and9 (by k_asm) | exact AK.and10 (by k_asm) | exact AK.and11 (by k_asm) | exact AK.and12 (by k_asm) | k_asm | exact PySem.W.allLt_of (by k_asm))
local macro_rules | `(tactic| walk_at "AK sub") => `(tactic| (intro p9 hp9; repeat (first | exact hp9 | refine List.mem_cons_of_mem _ ?_)))
local macro_rules | `(tactic| walk_at "AK endT5") => `(tactic| (refine AK.endT5 (by assumption) ?_ ?_ ?_ ?_ ?_ (by k_asm) (by k_asm) (by walk_at "AK sub") (by walk_at "AK lt")))
local macro_rules | `(tactic| walk_at "call builtin:divmod") => `(tactic| (k_here; (with_reducible show wpAny _ _ (call (Value.builtin _) [Value.int _ _, Value.int _ _]) _ _ _); k_dflt (refine' AK.r_divmod ?k1 ?k2 ?h1 ?h2 ?h3 ?_; (case k1 => k_asm); (case k2 => k_asm); (case h1 => omega); (case h2 => omega); (case h3 => omega)); intro h9 F9 N9; (try dsimp only)))
local macro_rules | `(tactic| walk_at "exec While Compare cons nil") => `(tactic| (k_here; k_dflt (k_extra "exec While Compare cons nil"); walk_say "WHILE"))
namespace AK
theorem sk_exit {r j q yr pl : Int} (p3 : pl = 365 * (j - (yr - 533 - 4 * r)) + q) (p1 : 0 ≤ yr - 533 - 4 * r) (p2 : yr - 533 - 4 * r ≤ j) (j0 : 0 ≤ j ∧ j ≤ 3) (q0 : 0 ≤ q) (hc : (yr % 4 = 0 ∧ pl < 366) ∨ (¬ yr % 4 = 0 ∧ pl < 365)) : yr = 533 + 4 * r + j ∧ pl = q :=
 (by intro h9x; exact h9x : have h9x : yr = 533 + 4 * r + j ∧ pl = q := (by
  have : yr - 533 - 4 * r = 0 ∨ yr - 533 - 4 * r = 1 ∨ yr - 533 - 4 * r = 2 ∨ yr - 533 - 4 * r = 3 := by omega
  rcases this with c | c | c | c <;> omega
 ); yr = 533 + 4 * r + j ∧ pl = q)
theorem c_lfixS (w : World) (E y m d r j q n : Int) (t t1 t2 t3 : Tok) (h : IsSk E y m d r j q) (hn : n = E + 2117212) : Claim w 387 [.int n t, .int 2117212 t1, .int 533 t2, .int 0 t3] 2 (RetT3 y m d) :=
 (by intro h9x; exact h9x : have h9x : Claim w 387 [.int n t, .int 2117212 t1, .int 533 t2, .int 0 t3] 2 (RetT3 y m d) := (by
  obtain ⟨e, r0, j0, q0, q1, k1, k2, k3⟩ := h
  k_with "exec While Compare cons nil" => k_while (fun _ place year => 0 ≤ year - 533 - 4 * r ∧ year - 533 - 4 * r ≤ j ∧ place = 365 * (j - (year - 533 - 4 * r)) + q) (fun _ _ year => (533 + 4 * r + j - year).toNat) "place" "year"
  walk_at "AK claim"
  all_goals (have q9 := sk_exit (by assumption) (by assumption) (by assumption) j0 q0 (by omega); obtain ⟨q8, q7⟩ := q9; walk_at "AK endT3")
  all_goals first | omega | (rw [q7]; omega)
 ); Claim w 387 [.int n t, .int 2117212 t1, .int 533 t2, .int 0 t3] 2 (RetT3 y m d))
end AK
end

section
local macro_rules | `(tactic| walk_at "AK pad") => `(tactic| skip)
local macro_rules | `(tactic| walk_at "AK lt") => `(tactic| first | k_asm | exact AK.and2 (by k_asm) | exact AK.and3 (by k_asm) | exact PySem.W.allLt_of (by k_asm) | exact AK.allLt_sub (by k_asm) (by walk_at "AK sub"))
local macro_rules | `(tactic| walk_at "AK endT3") => `(tactic| (refine AK.endT3' (by assumption) ?_ ?_ ?_ (by k_asm) (by k_asm) (by walk_at "AK sub") (by walk_at "AK lt")))
local macro_rules | `(tactic| walk_at "AK lt") => `(tactic| first | exact AK.and2 (by k_asm) | exact AK.and3 (by k_asm) | exact AK.and4 (by k_asm) | exact AK.and5 (by k_asm) | exact AK.and6 (by k_asm) | exact AK.and7 (by k_asm) | exact AK.and8 (by k_asm) | exact AK.and9 (by k_asm) | exact AK.and10 (by k_asm) | exact AK.and11 (by k_asm) | exact AK.and12 (by k_asm) | k_asm | exact PySem.W.allLt_of (by k_asm))
local macro_rules | `(tactic| walk_at "AK sub") => `(tactic| (intro p9 hp9; repeat (first | exact hp9 | refine List.mem_cons_of_mem _ ?_)))
local macro_rules | `(tactic| walk_at "AK endT5") => `(tactic| (refine AK.endT5 (by assumption) ?_ ?_ ?_ ?_ ?_ (by k_asm) (by k_asm) (by walk_at "AK sub") (by walk_at "AK lt")))
local macro_rules | `(tactic| walk_at "call builtin:divmod") => `(tactic| (k_here; (with_reducible show wpAny _ _ (call (Value.builtin _) [Value.int _ _, Value.int _ _]) _ _ _); k_dflt (refine' AK.r_divmod ?k1 ?k2 ?h1 ?h2 ?h3 ?_; (case k1 => k_asm); (case k2 => k_asm); (case h1 => omega); (case h2 => omega); (case h3 => omega)); intro h9 F9 N9; (try dsimp only)))
local macro_rules | `(tactic| walk_at "exec While Compare cons nil") => `(tactic| (k_here; k_dflt (k_extra "exec While Compare cons nil"); walk_say "WHILE"))
namespace AK
theorem fr_exit {r j o q yr pl : Int} (p3 : pl = o + q - 365 * (yr - 1 - 4 * r) - (if yr - 1 - 4 * r = 3 then 1 else 0)) (p1 : 0 ≤ yr - 1 - 4 * r) (p2 : yr - 1 - 4 * r ≤ j) (jo : (j = 0 ∧ o = 0) ∨ (j = 1 ∧ o = 365) ∨ (j = 2 ∧ o = 730) ∨ (j = 3 ∧ o = 1096)) (q0 : 0 ≤ q) (hc : (yr % 4 = 3 ∧ pl < 366) ∨ (¬ yr % 4 = 3 ∧ pl < 365)) : yr = 1 + 4 * r + j ∧ pl = q :=
 (by intro h9x; exact h9x : have h9x : yr = 1 + 4 * r + j ∧ pl = q := (by
  have : yr - 1 - 4 * r = 0 ∨ yr - 1 - 4 * r = 1 ∨ yr - 1 - 4 * r = 2 ∨ yr - 1 - 4 * r = 3 := by omega
  rcases this with c | c | c | c <;> rw [c] at p3 <;> simp at p3 <;> omega
 ); yr = 1 + 4 * r + j ∧ pl = q)
theorem fr_turn {r j o q yr pl L : Int} (p3 : pl = o + q - 365 * (yr - 1 - 4 * r) - (if yr - 1 - 4 * r = 3 then 1 else 0)) (p1 : 0 ≤ yr - 1 - 4 * r) (p2 : yr - 1 - 4 * r ≤ j) (jo : (j = 0 ∧ o = 0) ∨ (j = 1 ∧ o = 365) ∨ (j = 2 ∧ o = 730) ∨ (j = 3 ∧ o = 1096)) (q1 : q ≤ 364 ∨ (j = 2 ∧ q ≤ 365)) (hc : (yr % 4 = 3 ∧ 366 ≤ pl ∧ L = 366) ∨ (¬ yr % 4 = 3 ∧ 365 ≤ pl ∧ L = 365)) :
    yr - 1 - 4 * r < j ∧ pl - L = o + q - 365 * (yr + 1 - 1 - 4 * r) - (if yr + 1 - 1 - 4 * r = 3 then 1 else 0) :=
 (by intro h9x; exact h9x : have h9x : yr - 1 - 4 * r < j ∧ pl - L = o + q - 365 * (yr + 1 - 1 - 4 * r) - (if yr + 1 - 1 - 4 * r = 3 then 1 else 0) := (by
  have : yr - 1 - 4 * r = 0 ∨ yr - 1 - 4 * r = 1 ∨ yr - 1 - 4 * r = 2 ∨ yr - 1 - 4 * r = 3 := by omega
  rcases this with c | c | c | c <;> rw [c] at p3 <;> simp at p3 <;> split <;> omega
 ); yr - 1 - 4 * r < j ∧ pl - L = o + q - 365 * (yr + 1 - 1 - 4 * r) - (if yr + 1 - 1 - 4 * r = 3 then 1 else 0))
theorem c_lfixF (w : World) (E y m d r j o q n : Int) (t t1 t2 t3 : Tok) (h : IsFr E y m d r j o q) (hn : n = E + 2375840) : Claim w 387 [.int n t, .int 2375840 t1, .int 1 t2, .int 3 t3] 2 (RetT3 y m d) :=
 (by intro h9x; exact h9x : have h9x : Claim w 387 [.int n t, .int 2375840 t1, .int 1 t2, .int 3 t3] 2 (RetT3 y m d) := (by
  obtain ⟨e, r0, jo, q0, q1, k1, k2, k3⟩ := h
  k_with "state" => first
    | (exact ⟨by omega, by omega, by (rw [if_neg (by omega)]; omega)⟩)
    | ((have q9 := fr_turn (L := 366) (by assumption) (by assumption) (by assumption) jo q1 (by omega)); exact ⟨by omega, by omega, q9.2⟩)
    | ((have q9 := fr_turn (L := 365) (by assumption) (by assumption) (by assumption) jo q1 (by omega)); exact ⟨by omega, by omega, q9.2⟩)
  k_with "measure" => first
    | ((have q9 := fr_turn (L := 366) (by assumption) (by assumption) (by assumption) jo q1 (by omega)); omega)
    | ((have q9 := fr_turn (L := 365) (by assumption) (by assumption) (by assumption) jo q1 (by omega)); omega)
  k_with "exec While Compare cons nil" => k_while (fun _ place year => 0 ≤ year - 1 - 4 * r ∧ year - 1 - 4 * r ≤ j ∧ place = o + q - 365 * (year - 1 - 4 * r) - (if year - 1 - 4 * r = 3 then 1 else 0)) (fun _ _ year => (1 + 4 * r + j - year).toNat) "place" "year"
  walk_at "AK claim"
  all_goals (have q9 := fr_exit (by assumption) (by assumption) (by assumption) jo q0 (by omega); obtain ⟨q8, q7⟩ := q9; walk_at "AK endT3")
  all_goals first | omega | (rw [q7]; omega)
 ); Claim w 387 [.int n t, .int 2375840 t1, .int 1 t2, .int 3 t3] 2 (RetT3 y m d))
end AK
end

section
namespace AK
section
variable {prog : Program} {w : World} {A : Around} {E : Value → Shared → Prop} {s : Shared} {Q : Value → Shared → Prop} {h₀ : Heap} {L D : Addr} {news : List (Addr × Obj)} {i k : Int} {st x : Str} {t1 t2 t : Tok} {c : Nat} {b : Bool}
theorem isTuple_of {its : Array Value} (N : News h₀ L s.heap news) (hm : (D, ({ cls := .type "tuple", data := .seq its c } : Obj)) ∈ news) : s.heap.IsTuple D its := ⟨_, (N _ hm).1, rfl, c, rfl⟩
theorem r_in_i (N : News h₀ L s.heap news) (hm : (D, ({ cls := .type "tuple", data := .seq #[.int i t1, .str st t2] c } : Obj)) ∈ news) (e : (i == k) = b) (h : Q (.bool b) s) : wpAny (model prog w) A (compareOp .In (.int k t) (.ref D)) Q E s :=
 (by intro h9x; exact h9x : have h9x : wpAny (model prog w) A (compareOp .In (.int k t) (.ref D)) Q E s := (by
  refine SeqAt.in_tupleAt (fun v => match v with | .int j _ => j == k | _ => false) (isTuple_of N hm) ?_ ?_
  · intro y hy
    simp only [List.mem_toArray, List.mem_cons, List.not_mem_nil, or_false] at hy
    rcases hy with rfl | rfl
    · exact SeqAt.EqAt.int_int i t1 k t
    · exact SeqAt.EqAt.str_int st t2 k t
  · have : (#[Value.int i t1, Value.str st t2].any fun v => match v with | .int j _ => j == k | _ => false) = b := by
      rw [← e]; simp
    rw [this]; exact h
 ); wpAny (model prog w) A (compareOp .In (.int k t) (.ref D)) Q E s)
theorem r_in_s (N : News h₀ L s.heap news) (hm : (D, ({ cls := .type "tuple", data := .seq #[.int i t1, .str st t2] c } : Obj)) ∈ news) (e : (st == x) = b) (h : Q (.bool b) s) : wpAny (model prog w) A (compareOp .In (.str x t) (.ref D)) Q E s :=
 (by intro h9x; exact h9x : have h9x : wpAny (model prog w) A (compareOp .In (.str x t) (.ref D)) Q E s := (by
  refine SeqAt.in_tupleAt (fun v => match v with | .str j _ => j == x | _ => false) (isTuple_of N hm) ?_ ?_
  · intro y hy
    simp only [List.mem_toArray, List.mem_cons, List.not_mem_nil, or_false] at hy
    rcases hy with rfl | rfl
    · exact SeqAt.EqAt.int_str i t1 x t
    · exact SeqAt.EqAt.str_str st t2 x t
  · have : (#[Value.int i t1, Value.str st t2].any fun v => match v with | .str j _ => j == x | _ => false) = b := by
      rw [← e]; simp
    rw [this]; exact h
 ); wpAny (model prog w) A (compareOp .In (.str x t) (.ref D)) Q E s)
end
theorem newsSub {h₀ h : Heap} {L : Addr} {news news' : Led} (N : News h₀ L h news') (hs : ∀ p ∈ news, p ∈ news') : News h₀ L h news := fun p hp => N p (hs p hp)
theorem fr_turned {E r j o q y : Int} (e : E = 1461 * r + o + q) (r0 : 0 ≤ r ∧ r ≤ 20000) (jo : (j = 0 ∧ o = 0) ∨ (j = 1 ∧ o = 365) ∨ (j = 2 ∧ o = 730) ∨ (j = 3 ∧ o = 1096)) (k1 : y = 1 + 4 * r + j) : ∃ r' k : Int, E = 1461 * r' + 365 * k + q - 365 ∧ (0 ≤ k ∧ k ≤ 3) ∧ (0 ≤ r' ∧ r' ≤ 20001) ∧ y = 4 * r' + k :=
 (by intro h9x; exact h9x : have h9x : ∃ r' k : Int, E = 1461 * r' + 365 * k + q - 365 ∧ (0 ≤ k ∧ k ≤ 3) ∧ (0 ≤ r' ∧ r' ≤ 20001) ∧ y = 4 * r' + k := (by
  rcases jo with ⟨rfl, rfl⟩ | ⟨rfl, rfl⟩ | ⟨rfl, rfl⟩ | ⟨rfl, rfl⟩
  · exact ⟨r, 1, by omega, by omega, by omega, by omega⟩
  · exact ⟨r, 2, by omega, by omega, by omega, by omega⟩
  · exact ⟨r, 3, by omega, by omega, by omega, by omega⟩
  · exact ⟨r + 1, 0, by omega, by omega, by omega, by omega⟩
 ); ∃ r' k : Int, E = 1461 * r' + 365 * k + q - 365 ∧ (0 ≤ k ∧ k ≤ 3) ∧ (0 ≤ r' ∧ r' ≤ 20001) ∧ y = 4 * r' + k)
theorem r_eq_if {prog : Program} {w : World} {A : Around} {E : Value → Shared → Prop} {s : Shared} {Q : Value → Shared → Prop} {t u : Tok} {x : UInt64} {a n : Int} (hx : x = F a) (ha : a.natAbs < 2 ^ 53) (hb : n.natAbs < 2 ^ 50) (h : Q (.bool (decide (a = 4 * n))) s) : wpAny (model prog w) A (compareOp .Eq (.int n u) (.float x t)) Q E s :=
 (by intro h9x; exact h9x : have h9x : wpAny (model prog w) A (compareOp .Eq (.int n u) (.float x t)) Q E s := (by
  subst hx
  exact eq_if (by rw [cmpInt_cmp ha hb, cmp_eq' ha (by omega)]; exact h)
 ); wpAny (model prog w) A (compareOp .Eq (.int n u) (.float x t)) Q E s)
theorem fr_path {E r' k q n y m d x6 x5 x4 x3 x2 x1 x0 : Int} (e' : E = 1461 * r' + 365 * k + q - 365) (k0 : 0 ≤ k ∧ k ≤ 3) (q0 : 0 ≤ q) (q2 : q ≤ 364) (k2 : m = q / 30 + 1) (k3 : d = q % 30 + 1) (k1' : y = 4 * r' + k) (hn : n = 9503358 + 4 * E)
    (h6 : x6 = 4 * (n / 4) + 2 - 9503358) (h5 : x5 = x6 + 4 * 365) (h4 : x4 = x5 / (4 * 1461) * (4 * 4)) (h3 : x3 = x5 % (4 * 1461)) (h2 : x2 = x3 % (4 * 365)) (h1 : x1 = 4 * (0 + 0 + 0) + x4 + 4 * (x3 / (4 * 365)) + 4 * -1) (h0 : x0 = x2 - 4 * (x2 / (4 * 30) * 30)) :
    x1 / 4 + 1 = y ∧ x2 / (4 * 30) + 1 = m ∧ x0 / 4 + 1 = d :=
 (by intro h9x; exact h9x : have h9x : x1 / 4 + 1 = y ∧ x2 / (4 * 30) + 1 = m ∧ x0 / 4 + 1 = d := (by
  have a6 : x6 = 4 * E := by omega
  have a5 : x5 = 4 * (1461 * r' + 365 * k + q) := by omega
  have hk : k = 0 ∨ k = 1 ∨ k = 2 ∨ k = 3 := by omega
  have a3 : x3 = 4 * (365 * k + q) := by omega
  have a4 : x5 / (4 * 1461) = r' := by omega
  have b3 : x3 / (4 * 365) = k := by omega
  have a2 : x2 = 4 * q := by rcases hk with rfl | rfl | rfl | rfl <;> omega
  rw [a4] at h4
  rw [b3] at h1
  refine ⟨by omega, by omega, by omega⟩
 ); x1 / 4 + 1 = y ∧ x2 / (4 * 30) + 1 = m ∧ x0 / 4 + 1 = d)
theorem fr_tj {E y m d r j o q x3 x2 x1 x0 : Int} (e : E = 1461 * r + o + q) (jo : (j = 0 ∧ o = 0) ∨ (j = 1 ∧ o = 365) ∨ (j = 2 ∧ o = 730) ∨ (j = 3 ∧ o = 1096)) (k1 : y = 1 + 4 * r + j) (hq : (m - 1) * 30 + d = q + 1)
    (h3 : x3 = 4 * y / (4 * 4) * (4 * 1461)) (h2 : x2 = 4 * y % (4 * 4)) (h1 : x1 = x2 * 365) (h0 : x0 = 4 * (0 + 0 + 0) + x3 + x1 + 4 * -365) : 9503358 + x0 + 4 * ((m - 1) * 30) + 4 * d - 4 * 1 = 9503358 + 4 * E :=
 (by intro h9x; exact h9x : have h9x : 9503358 + x0 + 4 * ((m - 1) * 30) + 4 * d - 4 * 1 = 9503358 + 4 * E := (by
  rcases jo with ⟨rfl, rfl⟩ | ⟨rfl, rfl⟩ | ⟨rfl, rfl⟩ | ⟨rfl, rfl⟩ <;> omega
 ); 9503358 + x0 + 4 * ((m - 1) * 30) + 4 * d - 4 * 1 = 9503358 + 4 * E)
end AK
end

section
local macro_rules | `(tactic| walk_at "AK lt") => `(tactic| first | k_asm | exact AK.and2 (by k_asm) | exact AK.and3 (by k_asm) | exact PySem.W.allLt_of (by k_asm) | exact AK.allLt_sub (by k_asm) (by walk_at "AK sub"))
local macro_rules | `(tactic| walk_at "AK endT3") => `(tactic| (refine AK.endT3' (by assumption) ?_ ?_ ?_ (by k_asm) (by k_asm) (by walk_at "AK sub") (by walk_at "AK lt")))
local macro_rules | `(tactic| walk_at "AK lt") => `(tactic| first | exact AK.and2 (by k_asm) | exact AK.and3 (by k_asm) | exact AK.and4 (by k_asm) | exact AK.and5 (by k_asm) | exact AK.and6 (by k_asm) | exact AK.and7 (by k_asm) | exact AK.and8 (by k_asm) | exact AK.and9 (by k_asm) | exact AK.and10 (by k_asm) | exact AK.and11 (by k_asm) | exact AK.and12 (by k_asm) | k_asm | exact PySem.W.allLt_of (by k_asm))
local macro_rules | `(tactic| walk_at "AK sub") => `(tactic| (intro p9 hp9; repeat (first | exact hp9 | refine List.mem_cons_of_mem _ ?_)))
local macro_rules | `(tactic| walk_at "AK endT5") => `(tactic| (refine AK.endT5 (by assumption) ?_ ?_ ?_ ?_ ?_ (by k_asm) (by k_asm) (by walk_at "AK sub") (by walk_at "AK lt")))
local macro_rules | `(tactic| walk_at "compareOp In int ref") => `(tactic| (k_here; k_dflt (first | (refine' AK.r_in_i (b := false) ?N ?m ?e ?_; (case N => k_asm); (case m => k_mem); (case e => decide +kernel)) | (refine' AK.r_in_i (b := true) ?N ?m ?e ?_; (case N => k_asm); (case m => k_mem); (case e => decide +kernel))); (try dsimp only)))
local macro_rules | `(tactic| walk_at "compareOp In str ref") => `(tactic| (k_here; k_dflt (first | (refine' AK.r_in_s (b := false) ?N ?m ?e ?_; (case N => k_asm); (case m => k_mem); (case e => decide +kernel)) | (refine' AK.r_in_s (b := true) ?N ?m ?e ?_; (case N => k_asm); (case m => k_mem); (case e => decide +kernel))); (try dsimp only)))
local macro_rules | `(tactic| walk_at "compareOp Eq int float") => `(tactic| ((with_reducible refine' AK.r_eq_if ?hx ?ha ?hb ?_); (case hx => walk_at "AK lit"); (case ha => walk_at "AK bd"); (case hb => walk_at "AK bd"); (try dsimp only)))
local macro_rules | `(tactic| walk_at "storeName") => `(tactic| ((with_reducible show wpAny _ _ (storeName _ _ (Value.float (AK.F _) _)) _ _ _); (fail_if_success (with_reducible refine AK.gen_floatV (by with_reducible assumption) ?_)); (with_reducible refine AK.gen_float ?_); intro x9 hx9 hv9; walk_say "LETTER"))
local macro_rules | `(tactic| walk_at "exec If") => `(tactic| (k_here; (with_reducible show wpAny _ _ (exec (Stmt.If _ [Stmt.Assign [Expr.Name (Str.ofString "method") _] _ _] _ _) _) _ _ _); (with_reducible rename AK.Cut "method" _ => hCut9); (rename Fr _ _ _ _ => cF9); (rename News _ _ _ _ => cN9); k_dflt (refine' AK.mid_cut_int hCut9 (Str.ofString "method") cF9 cN9 ?_ (fun t9 h9 tk9 F9 N9 => ?_)); (all_goals (try clear hCut9)); (all_goals (try dsimp only)); (all_goals (try k_fold)); (all_goals (try k_sweep)); walk_say "CUT"))
local macro_rules | `(tactic| walk_at "MidAt") => `(tactic| (walk_say "MID"; (refine' AK.mid_end0 ?he ?hold ?F ?N; (case F => k_asm); (case N => first | k_asm | exact AK.newsSub (by k_asm) (by walk_at "AK sub")); (case hold => with_unfolding_all rfl); (case he => rfl))))
local macro_rules | `(tactic| walk_at "ite") => `(tactic| (k_here; k_openite; first | (refine ite_pos (by (simp only [decide_eq_true_eq]; omega)) ?_; walk_say "OMEGA +") | (refine ite_neg (by (simp only [decide_eq_true_eq]; omega)) ?_; walk_say "OMEGA -")))
namespace AK
theorem c_fromjdF (w : World) (E y m d r j o q n : Int) (t t1 : Tok) (h : IsFr E y m d r j o q) (hn : n = 9503358 + 4 * E) : Claim w 315 [.float (F n) t, .int 4 t1] 4 (RetT3 y m d) :=
 (by intro h9x; exact h9x : have h9x : Claim w 315 [.float (F n) t, .int 4 t1] 4 (RetT3 y m d) := (by
  obtain ⟨e, r0, jo, q0, q1, k1, k2, k3⟩ := h
  have hE : 0 ≤ E := by omega
  have hE2 : E ≤ 40000000 := by omega
  have hcm : Cut "method" 4 := trivial
  by_cases c : q = 365
  · have c3 : j = 2 ∧ o = 730 := by omega
    obtain ⟨rfl, rfl⟩ := c3
    subst c
    clear jo q1
    walk_at "AK claim"
    all_goals walk_at "AK endT3"
    all_goals omega
  · obtain ⟨r', k, e', k0, r0', k1'⟩ := fr_turned e r0 jo k1
    have q2 : q ≤ 364 := by omega
    clear jo q1 k1 r0 e
    walk_at "AK claim"
    all_goals (have q9 := fr_path e' k0 q0 q2 k2 k3 k1' hn (by assumption) (by assumption) (by assumption) (by assumption) (by assumption) (by assumption) (by assumption) ; walk_at "AK endT3")
    all_goals omega
 ); Claim w 315 [.float (F n) t, .int 4 t1] 4 (RetT3 y m d))
end AK
end

section
local macro_rules | `(tactic| walk_at "AK lt") => `(tactic| first | k_asm | exact AK.and2 (by k_asm) | exact AK.and3 (by k_asm) | exact PySem.W.allLt_of (by k_asm) | exact AK.allLt_sub (by k_asm) (by walk_at "AK sub"))
local macro_rules | `(tactic| walk_at "AK endT3") => `(tactic| (refine AK.endT3' (by assumption) ?_ ?_ ?_ (by k_asm) (by k_asm) (by walk_at "AK sub") (by walk_at "AK lt")))
local macro_rules | `(tactic| walk_at "AK lt") => `(tactic| first | exact AK.and2 (by k_asm) | exact AK.and3 (by k_asm) | exact AK.and4 (by k_asm) | exact AK.and5 (by k_asm) | exact AK.and6 (by k_asm) | exact AK.and7 (by k_asm) | exact AK.and8 (by k_asm) | exact AK.and9 (by k_asm) | exact AK.and10 (by k_asm) | exact AK.and11 (by k_asm) | exact AK.and12 (by k_asm) | k_asm | exact PySem.W.allLt_of (by k_asm))
local macro_rules | `(tactic| walk_at "AK sub") => `(tactic| (intro p9 hp9; repeat (first | exact hp9 | refine List.mem_cons_of_mem _ ?_)))
local macro_rules | `(tactic| walk_at "AK endT5") => `(tactic| (refine AK.endT5 (by assumption) ?_ ?_ ?_ ?_ ?_ (by k_asm) (by k_asm) (by walk_at "AK sub") (by walk_at "AK lt")))
local macro_rules | `(tactic| walk_at "compareOp In int ref") => `(tactic| (k_here; k_dflt (first | (refine' AK.r_in_i (b := false) ?N ?m ?e ?_; (case N => k_asm); (case m => k_mem); (case e => decide +kernel)) | (refine' AK.r_in_i (b := true) ?N ?m ?e ?_; (case N => k_asm); (case m => k_mem); (case e => decide +kernel))); (try dsimp only)))
local macro_rules | `(tactic| walk_at "compareOp In str ref") => `(tactic| (k_here; k_dflt (first | (refine' AK.r_in_s (b := false) ?N ?m ?e ?_; (case N => k_asm); (case m => k_mem); (case e => decide +kernel)) | (refine' AK.r_in_s (b := true) ?N ?m ?e ?_; (case N => k_asm); (case m => k_mem); (case e => decide +kernel))); (try dsimp only)))
local macro_rules | `(tactic| walk_at "compareOp Eq int float") => `(tactic| ((with_reducible refine' AK.r_eq_if ?hx ?ha ?hb ?_); (case hx => walk_at "AK lit"); (case ha => walk_at "AK bd"); (case hb => walk_at "AK bd"); (try dsimp only)))
local macro_rules | `(tactic| walk_at "storeName") => `(tactic| ((with_reducible show wpAny _ _ (storeName _ _ (Value.float (AK.F _) _)) _ _ _); (fail_if_success (with_reducible refine AK.gen_floatV (by with_reducible assumption) ?_)); (with_reducible refine AK.gen_float ?_); intro x9 hx9 hv9; walk_say "LETTER"))
namespace AK
theorem c_tojdF (w : World) (E y m d r j o q : Int) (t t1 t2 ts : Tok) (h : IsFr E y m d r j o q) : Claim w 300 [.int y t, .int m t1, .int d t2, .str (Str.ofString "continuous") ts] 4 (RetF (F (9503358 + 4 * E))) :=
 (by intro h9x; exact h9x : have h9x : Claim w 300 [.int y t, .int m t1, .int d t2, .str (Str.ofString "continuous") ts] 4 (RetF (F (9503358 + 4 * E))) := (by
  have hr := fr_range h
  obtain ⟨e, r0, jo, q0, q1, k1, k2, k3⟩ := h
  walk_at "AK claim"
  all_goals walk_at "AK endF"
  all_goals exact fr_tj e jo k1 hr.2.2.2.2.2 (by assumption) (by assumption) (by assumption) (by assumption) 
 ); Claim w 300 [.int y t, .int m t1, .int d t2, .str (Str.ofString "continuous") ts] 4 (RetF (F (9503358 + 4 * E))))
end AK
end

section
local macro_rules | `(tactic| walk_at "AK claim") => `(tactic| (unfold AK.Claim; k_fill; intro p loose mean mg mb dp un gd cn cs a ccd cl outer A₀ base h₀ L mm news s Q E B F X N T hk hdp hun hret; refine wpAny_call ?_; k_dflt (refine' code_def ?k1 ?k2 ?k3 ?k4 ?k5 ?kA ?kF ?kK ?k6 ?k7 ?k8 ?k9 ?kB ?_ ?c2 ?c3 ?c4 ?c5; (case kA => exact rfl); (case kF => exact rfl); (case kK => assumption); (case k1 => k_asm); (case k2 => k_asm); (case k3 => k_asm); (case k4 => k_asm); (case k5 => k_asm); (case k6 => k_is); (case k7 => k_is); (case k8 => ktr_room); (case k9 => first | exact BindsTo.of_eq rfl | exact binds_K (by k_in) rfl (by k_is) rfl rfl rfl); (case c5 => decide); (case kB => exact locs rfl); (case c2 => exact rfl); (case c3 => exact rfl); (case c4 => exact rfl); k_whole; intro g' L' h' FG' F' N' B' X' T'; (try dsimp only); (try k_lift B'); (try k_fold)); k_steps))
local macro_rules | `(tactic| k_room) => `(tactic| ktr_room)
local macro_rules | `(tactic| walk_at "AK lt") => `(tactic| first | k_asm | exact AK.and2 (by k_asm) | exact AK.and3 (by k_asm) | exact PySem.W.allLt_of (by k_asm) | exact AK.allLt_sub (by k_asm) (by walk_at "AK sub"))
local macro_rules | `(tactic| walk_at "AK endT3") => `(tactic| (refine AK.endT3' (by assumption) ?_ ?_ ?_ (by k_asm) (by k_asm) (by walk_at "AK sub") (by walk_at "AK lt")))
local macro_rules | `(tactic| walk_at "AK lt") => `(tactic| first | exact AK.and2 (by k_asm) | exact AK.and3 (by k_asm) | exact AK.and4 (by k_asm) | exact AK.and5 (by k_asm) | exact AK.and6 (by k_asm) | exact AK.and7 (by k_asm) | exact AK.and8 (by k_asm) | exact AK.and9 (by k_asm) | exact AK.and10 (by k_asm) | exact AK.and11 (by k_asm) | exact AK.and12 (by k_asm) | k_asm | exact PySem.W.allLt_of (by k_asm))
local macro_rules | `(tactic| walk_at "AK sub") => `(tactic| (intro p9 hp9; repeat (first | exact hp9 | refine List.mem_cons_of_mem _ ?_)))
local macro_rules | `(tactic| walk_at "AK endT5") => `(tactic| (refine AK.endT5 (by assumption) ?_ ?_ ?_ ?_ ?_ (by k_asm) (by k_asm) (by walk_at "AK sub") (by walk_at "AK lt")))
local macro_rules | `(tactic| walk_at "call ref") => `(tactic| (k_here; (with_reducible show wpAny _ _ (call (Value.ref 118) _ _) _ _ _); k_dflt (refine' AK.Claim.use (AK.c_fromjd_g _ _ _ _ _ _ ?p1 ?h ?e) ?k1 ?k2 ?k3 ?k4 ?k5 ?kK ?kd ?ku ?_; (case h => assumption); (case p1 => omega); (case e => omega); walk_at "AK use"); intro D9 t0 t1 t2 c9 h9 tk9 F9 N9 l9; (try simp only [PySem.W.AllLt, and_true] at l9); (try dsimp only); (try k_sweep)))
local macro_rules | `(tactic| walk_at "call ref") => `(tactic| (k_here; (with_reducible show wpAny _ _ (call (Value.ref 181) _ _) _ _ _); k_dflt (refine' AK.Claim.use (AK.c_fromjdH' _ _ _ _ _ _ ?p1 ?h ?e) ?k1 ?k2 ?k3 ?k4 ?k5 ?kK ?kd ?ku ?_; (case h => assumption); (case p1 => omega); (case e => omega); walk_at "AK use"); intro D9 t0 t1 t2 c9 h9 tk9 F9 N9 l9; (try simp only [PySem.W.AllLt, and_true] at l9); (try dsimp only); (try k_sweep)))
local macro_rules | `(tactic| walk_at "call ref") => `(tactic| (k_here; (with_reducible show wpAny _ _ (call (Value.ref 111) _ _) _ _ _); k_dflt (refine' AK.Claim.use (AK.c_tojd_g _ _ _ _ _ _ _ ?p1 ?h) ?k1 ?k2 ?k3 ?k4 ?k5 ?kK ?kd ?ku ?_; (case h => assumption); (case p1 => omega); walk_at "AK use"); intro t9 h9 tk9 F9 N9; (try dsimp only); (try k_sweep)))
local macro_rules | `(tactic| walk_at "call ref") => `(tactic| (k_here; (with_reducible show wpAny _ _ (call (Value.ref 174) _ _) _ _ _); k_dflt (refine' AK.Claim.use (AK.c_tojdHx _ _ _ _ _ _ _ ?p1 ?p2 ?p3 ?p4) ?k1 ?k2 ?k3 ?k4 ?k5 ?kK ?kd ?ku ?_; (case p1 => omega); (case p2 => omega); (case p3 => omega); (case p4 => omega); walk_at "AK use"); intro hzb9 t9 h9 tk9 F9 N9; (try dsimp only); (try k_sweep)))
local macro_rules | `(tactic| walk_at "call ref") => `(tactic| (k_here; (with_reducible show wpAny _ _ (call (Value.ref 315) _ _) _ _ _); k_dflt (refine' AK.Claim.use (AK.c_fromjdF _ _ _ _ _ _ _ _ _ _ _ _ ?h ?e) ?k1 ?k2 ?k3 ?k4 ?k5 ?kK ?kd ?ku ?_; (case h => assumption); (case e => omega); walk_at "AK use"); intro D9 t0 t1 t2 c9 h9 tk9 F9 N9 l9; (try simp only [PySem.W.AllLt, and_true] at l9); (try dsimp only); (try k_sweep)))
local macro_rules | `(tactic| walk_at "call ref") => `(tactic| (k_here; (with_reducible show wpAny _ _ (call (Value.ref 300) _ _) _ _ _); k_dflt (refine' AK.Claim.use (AK.c_tojdF _ _ _ _ _ _ _ _ _ _ _ _ _ ?h) ?k1 ?k2 ?k3 ?k4 ?k5 ?kK ?kd ?ku ?_; (case h => assumption); walk_at "AK use"); intro t9 h9 tk9 F9 N9; (try dsimp only); (try k_sweep)))
namespace AK
theorem c_fgF (w : World) (y m d E ay am ad r j o q : Int) (t t1 t2 t3 : Tok) (h : IsDate y m d) (hy1 : y.natAbs < 40000) (h' : IsFr E ay am ad r j o q) (e : 6885698 + 4 * gJ y m d = 9503358 + 4 * E) :
    Claim w 323 [.int y t, .int m t1, .int d t2, .int 4 t3] 16 (RetT3 ay am ad) :=
 (by intro h9x; exact h9x : have h9x : Claim w 323 [.int y t, .int m t1, .int d t2, .int 4 t3] 16 (RetT3 ay am ad) := (by
  walk_at "AK claim"
  all_goals walk_at "AK endT3"
  all_goals rfl
 ); Claim w 323 [.int y t, .int m t1, .int d t2, .int 4 t3] 16 (RetT3 ay am ad))
end AK
end

section
namespace AK
theorem r_add_idec {prog : Program} {w : World} {A : Around} {E : Value → Shared → Prop} {s : Shared} {Q : Value → Shared → Prop} {t : Tok} {n : Int} {p : Prop} [Decidable p] (h : ∀ z : Int, (0 ≤ z ∧ z ≤ 1) → (p → z = 1) → Q (.int (n + z) s.toks) { s with toks := s.toks + 1 }) : wpAny (model prog w) A (binaryOp .Add (.int n t) (.bool (decide p))) Q E s :=
 (by intro h9x; exact h9x : have h9x : wpAny (model prog w) A (binaryOp .Add (.int n t) (.bool (decide p))) Q E s := (by
  refine add_int_bool ?_
  have := h (if decide p = true then 1 else 0) (by split <;> omega) (fun hp => by rw [if_pos (decide_eq_true hp)])
  exact this
 ); wpAny (model prog w) A (binaryOp .Add (.int n t) (.bool (decide p))) Q E s)
section
variable {prog : Program} {w : World} {A : Around} {E : Value → Shared → Prop} {s : Shared} {Q : Value → Shared → Prop} {t : Tok} {n : Int}
theorem r_add_it (h : Q (.int (n + 1) s.toks) { s with toks := s.toks + 1 }) : wpAny (model prog w) A (binaryOp .Add (.int n t) (.bool true)) Q E s := add_int_bool h
theorem r_add_i0 (h : Q (.int (n + 0) s.toks) { s with toks := s.toks + 1 }) : wpAny (model prog w) A (binaryOp .Add (.int n t) (.bool false)) Q E s := add_int_bool h
end
theorem r_in3 {prog : Program} {w : World} {A : Around} {E : Value → Shared → Prop} {s : Shared} {Q : Value → Shared → Prop} {h₀ : Heap} {L D : Addr} {news : List (Addr × Obj)} {k a b c : Int} {t t1 t2 t3 : Tok} {n : Nat}
    (N : News h₀ L s.heap news) (hm : (D, ({ cls := .type "tuple", data := .seq #[.int a t1, .int b t2, .int c t3] n } : Obj)) ∈ news) (h : Q (.bool (decide (k = a ∨ k = b ∨ k = c))) s) : wpAny (model prog w) A (compareOp .In (.int k t) (.ref D)) Q E s :=
 (by intro h9x; exact h9x : have h9x : wpAny (model prog w) A (compareOp .In (.int k t) (.ref D)) Q E s := (by
  refine SeqAt.in_tupleAt (fun v => match v with | .int j _ => j == k | _ => false) (isTuple_of N hm) ?_ ?_
  · intro y hy
    simp only [List.mem_toArray, List.mem_cons, List.not_mem_nil, or_false] at hy
    rcases hy with rfl | rfl | rfl
    · exact SeqAt.EqAt.int_int a t1 k t
    · exact SeqAt.EqAt.int_int b t2 k t
    · exact SeqAt.EqAt.int_int c t3 k t
  · have : (#[Value.int a t1, Value.int b t2, Value.int c t3].any fun v => match v with | .int j _ => j == k | _ => false) = decide (k = a ∨ k = b ∨ k = c) := by
      rw [Bool.eq_iff_iff]
      simp
      constructor <;> (intro h; rcases h with h | h | h <;> simp [h])
    rw [this]; exact h
 ); wpAny (model prog w) A (compareOp .In (.int k t) (.ref D)) Q E s)
end AK
end

section
local macro_rules | `(tactic| walk_at "AK claim") => `(tactic| (unfold AK.Claim; k_fill; intro p loose mean mg mb dp un gd cn cs a ccd cl outer A₀ base h₀ L mm news s Q E B F X N T hk hdp hun hret; refine wpAny_call ?_; k_dflt (refine' code_def ?k1 ?k2 ?k3 ?k4 ?k5 ?kA ?kF ?kK ?k6 ?k7 ?k8 ?k9 ?kB ?_ ?c2 ?c3 ?c4 ?c5; (case kA => exact rfl); (case kF => exact rfl); (case kK => assumption); (case k1 => k_asm); (case k2 => k_asm); (case k3 => k_asm); (case k4 => k_asm); (case k5 => k_asm); (case k6 => k_is); (case k7 => k_is); (case k8 => ktr_room); (case k9 => first | exact BindsTo.of_eq rfl | exact binds_K (by k_in) rfl (by k_is) rfl rfl rfl); (case c5 => decide); (case kB => exact locs rfl); (case c2 => exact rfl); (case c3 => exact rfl); (case c4 => exact rfl); k_whole; intro g' L' h' FG' F' N' B' X' T'; (try dsimp only); (try k_lift B'); (try k_fold)); k_steps))
local macro_rules | `(tactic| k_room) => `(tactic| ktr_room)
local macro_rules | `(tactic| walk_at "AK lt") => `(tactic| first | k_asm | exact AK.and2 (by k_asm) | exact AK.and3 (by k_asm) | exact PySem.W.allLt_of (by k_asm) | exact AK.allLt_sub (by k_asm) (by walk_at "AK sub"))
local macro_rules | `(tactic| walk_at "AK endT3") => `(tactic| (refine AK.endT3' (by assumption) ?_ ?_ ?_ (by k_asm) (by k_asm) (by walk_at "AK sub") (by walk_at "AK lt")))
local macro_rules | `(tactic| walk_at "AK lt") => `(tactic| first | exact AK.and2 (by k_asm) | exact AK.and3 (by k_asm) | exact AK.and4 (by k_asm) | exact AK.and5 (by k_asm) | exact AK.and6 (by k_asm) | exact AK.and7 (by k_asm) | exact AK.and8 (by k_asm) | exact AK.and9 (by k_asm) | exact AK.and10 (by k_asm) | exact AK.and11 (by k_asm) | exact AK.and12 (by k_asm) | k_asm | exact PySem.W.allLt_of (by k_asm))
local macro_rules | `(tactic| walk_at "AK sub") => `(tactic| (intro p9 hp9; repeat (first | exact hp9 | refine List.mem_cons_of_mem _ ?_)))
local macro_rules | `(tactic| walk_at "AK endT5") => `(tactic| (refine AK.endT5 (by assumption) ?_ ?_ ?_ ?_ ?_ (by k_asm) (by k_asm) (by walk_at "AK sub") (by walk_at "AK lt")))
local macro_rules | `(tactic| walk_at "compareOp In int ref") => `(tactic| (k_here; k_dflt (first | (refine' AK.r_in_i (b := false) ?N ?m ?e ?_; (case N => k_asm); (case m => k_mem); (case e => decide +kernel)) | (refine' AK.r_in_i (b := true) ?N ?m ?e ?_; (case N => k_asm); (case m => k_mem); (case e => decide +kernel))); (try dsimp only)))
local macro_rules | `(tactic| walk_at "compareOp In str ref") => `(tactic| (k_here; k_dflt (first | (refine' AK.r_in_s (b := false) ?N ?m ?e ?_; (case N => k_asm); (case m => k_mem); (case e => decide +kernel)) | (refine' AK.r_in_s (b := true) ?N ?m ?e ?_; (case N => k_asm); (case m => k_mem); (case e => decide +kernel))); (try dsimp only)))
local macro_rules | `(tactic| walk_at "compareOp Eq int float") => `(tactic| ((with_reducible refine' AK.r_eq_if ?hx ?ha ?hb ?_); (case hx => walk_at "AK lit"); (case ha => walk_at "AK bd"); (case hb => walk_at "AK bd"); (try dsimp only)))
local macro_rules | `(tactic| walk_at "ite") => `(tactic| (k_here; k_openite; first | (refine ite_pos (by (simp only [decide_eq_true_eq]; omega)) ?_; walk_say "OMEGA +") | (refine ite_neg (by (simp only [decide_eq_true_eq]; omega)) ?_; walk_say "OMEGA -")))
local macro_rules | `(tactic| walk_at "binaryOp Add int bool") => `(tactic| (k_here; (with_reducible show wpAny _ _ (binaryOp _ _ (Value.bool (decide _))) _ _ _); k_dflt (refine' AK.r_add_idec (fun z9 hz9 hp9 => ?_)); (try dsimp only); walk_say "BOOL"))
local macro_rules | `(tactic| walk_at "binaryOp Add int bool") => `(tactic| (k_here; first | ((with_reducible show wpAny _ _ (binaryOp _ _ (Value.bool true)) _ _ _); k_dflt (refine' AK.r_add_it ?_)) | ((with_reducible show wpAny _ _ (binaryOp _ _ (Value.bool false)) _ _ _); k_dflt (refine' AK.r_add_i0 ?_)); (try dsimp only); walk_say "BOOL"))
local macro_rules | `(tactic| walk_at "compareOp In int ref") => `(tactic| (k_here; k_dflt (refine' AK.r_in3 ?N ?m ?_; (case N => k_asm); (case m => k_mem)); (try dsimp only); walk_say "IN3"))
local macro_rules | `(tactic| walk_at "call ref") => `(tactic| (k_here; (with_reducible show wpAny _ _ (call (Value.ref 118) _ _) _ _ _); k_dflt (refine' AK.Claim.use (AK.c_fromjd_g _ _ _ _ _ _ ?p1 ?h ?e) ?k1 ?k2 ?k3 ?k4 ?k5 ?kK ?kd ?ku ?_; (case h => assumption); (case p1 => omega); (case e => omega); walk_at "AK use"); intro D9 t0 t1 t2 c9 h9 tk9 F9 N9 l9; (try simp only [PySem.W.AllLt, and_true] at l9); (try dsimp only); (try k_sweep)))
local macro_rules | `(tactic| walk_at "call ref") => `(tactic| (k_here; (with_reducible show wpAny _ _ (call (Value.ref 181) _ _) _ _ _); k_dflt (refine' AK.Claim.use (AK.c_fromjdH' _ _ _ _ _ _ ?p1 ?h ?e) ?k1 ?k2 ?k3 ?k4 ?k5 ?kK ?kd ?ku ?_; (case h => assumption); (case p1 => omega); (case e => omega); walk_at "AK use"); intro D9 t0 t1 t2 c9 h9 tk9 F9 N9 l9; (try simp only [PySem.W.AllLt, and_true] at l9); (try dsimp only); (try k_sweep)))
local macro_rules | `(tactic| walk_at "call ref") => `(tactic| (k_here; (with_reducible show wpAny _ _ (call (Value.ref 111) _ _) _ _ _); k_dflt (refine' AK.Claim.use (AK.c_tojd_g _ _ _ _ _ _ _ ?p1 ?h) ?k1 ?k2 ?k3 ?k4 ?k5 ?kK ?kd ?ku ?_; (case h => assumption); (case p1 => omega); walk_at "AK use"); intro t9 h9 tk9 F9 N9; (try dsimp only); (try k_sweep)))
local macro_rules | `(tactic| walk_at "call ref") => `(tactic| (k_here; (with_reducible show wpAny _ _ (call (Value.ref 174) _ _) _ _ _); k_dflt (refine' AK.Claim.use (AK.c_tojdHx _ _ _ _ _ _ _ ?p1 ?p2 ?p3 ?p4) ?k1 ?k2 ?k3 ?k4 ?k5 ?kK ?kd ?ku ?_; (case p1 => omega); (case p2 => omega); (case p3 => omega); (case p4 => omega); walk_at "AK use"); intro hzb9 t9 h9 tk9 F9 N9; (try dsimp only); (try k_sweep)))
local macro_rules | `(tactic| walk_at "call ref") => `(tactic| (k_here; (with_reducible show wpAny _ _ (call (Value.ref 315) _ _) _ _ _); k_dflt (refine' AK.Claim.use (AK.c_fromjdF _ _ _ _ _ _ _ _ _ _ _ _ ?h ?e) ?k1 ?k2 ?k3 ?k4 ?k5 ?kK ?kd ?ku ?_; (case h => assumption); (case e => omega); walk_at "AK use"); intro D9 t0 t1 t2 c9 h9 tk9 F9 N9 l9; (try simp only [PySem.W.AllLt, and_true] at l9); (try dsimp only); (try k_sweep)))
local macro_rules | `(tactic| walk_at "call ref") => `(tactic| (k_here; (with_reducible show wpAny _ _ (call (Value.ref 300) _ _) _ _ _); k_dflt (refine' AK.Claim.use (AK.c_tojdF _ _ _ _ _ _ _ _ _ _ _ _ _ ?h) ?k1 ?k2 ?k3 ?k4 ?k5 ?kK ?kd ?ku ?_; (case h => assumption); walk_at "AK use"); intro t9 h9 tk9 F9 N9; (try dsimp only); (try k_sweep)))
namespace AK
theorem c_tgF (w : World) (y m d E ay am ad r j o q : Int) (t t1 t2 ts : Tok) (h : IsDate y m d) (hy1 : y.natAbs < 40000) (h' : IsFr E ay am ad r j o q) (e : 6885698 + 4 * gJ y m d = 9503358 + 4 * E) :
    Claim w 331 [.int ay t, .int am t1, .int ad t2, .str (Str.ofString "continuous") ts] 20 (RetT3 y m d) :=
 (by intro h9x; exact h9x : have h9x : Claim w 331 [.int ay t, .int am t1, .int ad t2, .str (Str.ofString "continuous") ts] 20 (RetT3 y m d) := (by
  have hr := fr_range h'
  by_cases c : am = 13
  · by_cases c2 : ad = 6
    · have c3 := hr.2.2.2.2.1 c c2
      walk_at "AK claim"
      all_goals walk_at "AK endT3"
      all_goals rfl
    · have c3 : ad ≤ 5 := by have := hr.2.2.2.1 c; omega
      walk_at "AK claim"
      all_goals walk_at "AK endT3"
      all_goals rfl
  · have c3 : am < 13 := by omega
    walk_at "AK claim"
    all_goals walk_at "AK endT3"
    all_goals rfl
 ); Claim w 331 [.int ay t, .int am t1, .int ad t2, .str (Str.ofString "continuous") ts] 20 (RetT3 y m d))
end AK
end

section
namespace AK
theorem dec28 (y : Int) : gJ (y - 1) 12 28 = janG y - 3 :=
 (by intro h9x; exact h9x : have h9x : gJ (y - 1) 12 28 = janG y - 3 := (by
  have h := janG_leap (y - 1)
  have e : y - 1 + 1 = y := by omega
  rw [e] at h
  unfold gJ ydG ladj
  rw [if_neg (by decide)]
  cases hl : leapG (y - 1) <;> rw [hl] at h <;> simp at h ⊢ <;> omega
 ); gJ (y - 1) 12 28 = janG y - 3)
theorem d28 (y : Int) : IsDate y 12 28 := ⟨by decide, by decide, by decide, by have := dimG_pos y 12; omega⟩
theorem c_jwday (w : World) (a : Int) (t : Tok) (ha : a.natAbs < 2 ^ 40) (h4 : a % 4 = 2) : Claim w 49 [.float (F a) t] 2 (RetI ((a + 2) / 4 % 7)) :=
 (by intro h9x; exact h9x : have h9x : Claim w 49 [.float (F a) t] 2 (RetI ((a + 2) / 4 % 7)) := (by
  walk_at "AK claim"
  all_goals walk_at "AK endI"
  all_goals rfl
 ); Claim w 49 [.float (F a) t] 2 (RetI ((a + 2) / 4 % 7)))
end AK
end

section
local macro_rules | `(tactic| walk_at "call ref") => `(tactic| (k_here; (with_reducible show wpAny _ _ (call (Value.ref 49) _ _) _ _ _); k_dflt (refine' AK.Claim.use (AK.c_jwday _ _ _ ?a ?b) ?k1 ?k2 ?k3 ?k4 ?k5 ?kK ?kd ?ku ?_; (case a => omega); (case b => omega); walk_at "AK use"); intro t9 h9 tk9 F9 N9; (try dsimp only); (try k_sweep)))
namespace AK
theorem c_wbefore (w : World) (a : Int) (t t1 : Tok) (ha : a.natAbs < 2 ^ 39) (h4 : a % 4 = 2) : Claim w 56 [.int 6 t1, .float (F a) t] 4 (RetF (F (a - 4 * ((a - 4 * 6 + 2) / 4 % 7)))) :=
 (by intro h9x; exact h9x : have h9x : Claim w 56 [.int 6 t1, .float (F a) t] 4 (RetF (F (a - 4 * ((a - 4 * 6 + 2) / 4 % 7)))) := (by
  walk_at "AK claim"
  all_goals walk_at "AK endF"
  all_goals rfl
 ); Claim w 56 [.int 6 t1, .float (F a) t] 4 (RetF (F (a - 4 * ((a - 4 * 6 + 2) / 4 % 7)))))
end AK
end

section
local macro_rules | `(tactic| walk_at "AK pad") => `(tactic| skip)
local macro_rules | `(tactic| walk_at "call ref") => `(tactic| (k_here; (with_reducible show wpAny _ _ (call (Value.ref 56) _ _) _ _ _); k_dflt (refine' AK.Claim.use (AK.c_wbefore _ _ _ _ ?a ?b) ?k1 ?k2 ?k3 ?k4 ?k5 ?kK ?kd ?ku ?_; (case a => omega); (case b => omega); walk_at "AK use"); intro t9 h9 tk9 F9 N9; (try dsimp only); (try k_sweep)))
namespace AK
theorem c_wsearch (w : World) (a : Int) (t t1 t2 t3 : Tok) (ha : a.natAbs < 2 ^ 38) (h4 : a % 4 = 2) : Claim w 63 [.int 6 t1, .float (F a) t, .int (-1) t2, .int 1 t3] 6 (RetF (F (a - 4 - 4 * ((a - 4 - 4 * 6 + 2) / 4 % 7)))) :=
 (by intro h9x; exact h9x : have h9x : Claim w 63 [.int 6 t1, .float (F a) t, .int (-1) t2, .int 1 t3] 6 (RetF (F (a - 4 - 4 * ((a - 4 - 4 * 6 + 2) / 4 % 7)))) := (by
  walk_at "AK claim"
  all_goals walk_at "AK endF"
  all_goals omega
 ); Claim w 63 [.int 6 t1, .float (F a) t, .int (-1) t2, .int 1 t3] 6 (RetF (F (a - 4 - 4 * ((a - 4 - 4 * 6 + 2) / 4 % 7)))))
end AK
end

section
local macro_rules | `(tactic| walk_at "call ref") => `(tactic| (k_here; (with_reducible show wpAny _ _ (call (Value.ref 63) _ _) _ _ _); k_dflt (refine' AK.Claim.use (AK.c_wsearch _ _ _ _ _ _ ?a ?b) ?k1 ?k2 ?k3 ?k4 ?k5 ?kK ?kd ?ku ?_; (case a => omega); (case b => omega); walk_at "AK use"); intro t9 h9 tk9 F9 N9; (try dsimp only); (try k_sweep)))
namespace AK
theorem c_wprev (w : World) (a : Int) (t t1 : Tok) (ha : a.natAbs < 2 ^ 38) (h4 : a % 4 = 2) : Claim w 77 [.int 6 t1, .float (F a) t] 8 (RetF (F (a - 4 - 4 * ((a - 4 - 4 * 6 + 2) / 4 % 7)))) :=
 (by intro h9x; exact h9x : have h9x : Claim w 77 [.int 6 t1, .float (F a) t] 8 (RetF (F (a - 4 - 4 * ((a - 4 - 4 * 6 + 2) / 4 % 7)))) := (by
  walk_at "AK claim"
  all_goals walk_at "AK endF"
  all_goals rfl
 ); Claim w 77 [.int 6 t1, .float (F a) t] 8 (RetF (F (a - 4 - 4 * ((a - 4 - 4 * 6 + 2) / 4 % 7)))))
end AK
end

section
local macro_rules | `(tactic| walk_at "AK pad") => `(tactic| skip)
local macro_rules | `(tactic| walk_at "call ref") => `(tactic| (k_here; (with_reducible show wpAny _ _ (call (Value.ref 77) _ _) _ _ _); k_dflt (refine' AK.Claim.use (AK.c_wprev _ _ _ _ ?a ?b) ?k1 ?k2 ?k3 ?k4 ?k5 ?kK ?kd ?ku ?_; (case a => omega); (case b => omega); walk_at "AK use"); intro t9 h9 tk9 F9 N9; (try dsimp only); (try k_sweep)))
namespace AK
theorem c_nweeks (w : World) (a k : Int) (t t1 t2 : Tok) (ha : a.natAbs < 2 ^ 38) (h4 : a % 4 = 2) (hk : 0 < k ∧ k ≤ 60) : Claim w 84 [.int 6 t1, .float (F a) t, .int k t2] 10 (RetF (F (4 * (7 * k) + (a - 4 - 4 * ((a - 4 - 4 * 6 + 2) / 4 % 7))))) :=
 (by intro h9x; exact h9x : have h9x : Claim w 84 [.int 6 t1, .float (F a) t, .int k t2] 10 (RetF (F (4 * (7 * k) + (a - 4 - 4 * ((a - 4 - 4 * 6 + 2) / 4 % 7))))) := (by
  walk_at "AK claim"
  all_goals walk_at "AK endF"
  all_goals rfl
 ); Claim w 84 [.int 6 t1, .float (F a) t, .int k t2] 10 (RetF (F (4 * (7 * k) + (a - 4 - 4 * ((a - 4 - 4 * 6 + 2) / 4 % 7))))))
end AK
end

section
local macro_rules | `(tactic| walk_at "AK pad") => `(tactic| skip)
local macro_rules | `(tactic| walk_at "call ref") => `(tactic| (k_here; (with_reducible show wpAny _ _ (call (Value.ref 111) _ _) _ _ _); k_dflt (refine' AK.Claim.use (AK.c_tojd_g _ _ _ _ _ _ _ ?p1 ?h) ?k1 ?k2 ?k3 ?k4 ?k5 ?kK ?kd ?ku ?_; (case h => exact AK.d28 _); (case p1 => omega); walk_at "AK use"); intro t9 h9 tk9 F9 N9; (try dsimp only); (try k_sweep)))
local macro_rules | `(tactic| walk_at "call ref") => `(tactic| (k_here; (with_reducible show wpAny _ _ (call (Value.ref 84) _ _) _ _ _); k_dflt (refine' AK.Claim.use (AK.c_nweeks _ _ _ _ _ _ ?a ?b ?c) ?k1 ?k2 ?k3 ?k4 ?k5 ?kK ?kd ?ku ?_; (case a => omega); (case b => omega); (case c => omega); walk_at "AK use"); intro t9 h9 tk9 F9 N9; (try dsimp only); (try k_sweep)))
namespace AK
theorem c_tojdI (w : World) (Y wk dy : Int) (t t1 t2 : Tok) (hY : Y.natAbs < 40000) (hw : 0 < wk ∧ wk ≤ 60) (hd : 1 ≤ dy ∧ dy ≤ 7) : Claim w 338 [.int Y t, .int wk t1, .int dy t2] 14 (RetF (F (6885698 + 4 * (dy + 7 * wk + (janG Y - 4) - (1721415 + janG Y) % 7)))) :=
 (by intro h9x; exact h9x : have h9x : Claim w 338 [.int Y t, .int wk t1, .int dy t2] 14 (RetF (F (6885698 + 4 * (dy + 7 * wk + (janG Y - 4) - (1721415 + janG Y) % 7)))) := (by
  have hg := dec28 Y
  have hJ : (janG Y).natAbs < 2 ^ 26 := by unfold janG; omega
  walk_at "AK claim"
  all_goals walk_at "AK endF"
  all_goals (rw [hg]; omega)
 ); Claim w 338 [.int Y t, .int wk t1, .int dy t2] 14 (RetF (F (6885698 + 4 * (dy + 7 * wk + (janG Y - 4) - (1721415 + janG Y) % 7)))))
end AK
end

section
local macro_rules | `(tactic| walk_at "AK lt") => `(tactic| first | k_asm | exact AK.and2 (by k_asm) | exact AK.and3 (by k_asm) | exact PySem.W.allLt_of (by k_asm) | exact AK.allLt_sub (by k_asm) (by walk_at "AK sub"))
local macro_rules | `(tactic| walk_at "AK endT3") => `(tactic| (refine AK.endT3' (by assumption) ?_ ?_ ?_ (by k_asm) (by k_asm) (by walk_at "AK sub") (by walk_at "AK lt")))
local macro_rules | `(tactic| walk_at "AK lt") => `(tactic| first | exact AK.and2 (by k_asm) | exact AK.and3 (by k_asm) | exact AK.and4 (by k_asm) | exact AK.and5 (by k_asm) | exact AK.and6 (by k_asm) | exact AK.and7 (by k_asm) | exact AK.and8 (by k_asm) | exact AK.and9 (by k_asm) | exact AK.and10 (by k_asm) | exact AK.and11 (by k_asm) | exact AK.and12 (by k_asm) | k_asm | exact PySem.W.allLt_of (by k_asm))
local macro_rules | `(tactic| walk_at "AK sub") => `(tactic| (intro p9 hp9; repeat (first | exact hp9 | refine List.mem_cons_of_mem _ ?_)))
local macro_rules | `(tactic| walk_at "AK endT5") => `(tactic| (refine AK.endT5 (by assumption) ?_ ?_ ?_ ?_ ?_ (by k_asm) (by k_asm) (by walk_at "AK sub") (by walk_at "AK lt")))
local macro_rules | `(tactic| walk_at "call ref") => `(tactic| (k_here; (with_reducible show wpAny _ _ (call (Value.ref 338) _ _) _ _ _); k_dflt (refine' AK.Claim.use (AK.c_tojdI _ _ _ _ _ _ _ ?hY ?hw ?hd) ?k1 ?k2 ?k3 ?k4 ?k5 ?kK ?kd ?ku ?_; (case hY => omega); (case hw => omega); (case hd => omega); walk_at "AK use"); intro t9 h9 tk9 F9 N9; (try dsimp only); (try k_sweep)))
local macro_rules | `(tactic| walk_at "call ref") => `(tactic| (k_here; (with_reducible show wpAny _ _ (call (Value.ref 118) _ _) _ _ _); k_dflt (refine' AK.Claim.use (AK.c_fromjd_g _ _ _ _ _ _ ?p1 ?h ?e) ?k1 ?k2 ?k3 ?k4 ?k5 ?kK ?kd ?ku ?_; (case h => assumption); (case p1 => omega); (case e => omega); walk_at "AK use"); intro D9 t0 t1 t2 c9 h9 tk9 F9 N9 l9; (try simp only [PySem.W.AllLt, and_true] at l9); (try dsimp only); (try k_sweep)))
namespace AK
theorem c_tgI (w : World) (Y wk dy y m d : Int) (t t1 t2 : Tok) (h : IsDate y m d) (hy1 : y.natAbs < 40000) (hY : Y.natAbs < 40000) (hw : 0 < wk ∧ wk ≤ 60) (hd : 1 ≤ dy ∧ dy ≤ 7)
    (e : dy + 7 * wk + (janG Y - 4) - (1721415 + janG Y) % 7 = gJ y m d) : Claim w 345 [.int Y t, .int wk t1, .int dy t2] 20 (RetT3 y m d) :=
 (by intro h9x; exact h9x : have h9x : Claim w 345 [.int Y t, .int wk t1, .int dy t2] 20 (RetT3 y m d) := (by
  walk_at "AK claim"
  all_goals walk_at "AK endT3"
  all_goals rfl
 ); Claim w 345 [.int Y t, .int wk t1, .int dy t2] 20 (RetT3 y m d))
end AK
end

section
open PySem.SeqAt
namespace AK
/-- a list whose items are carried data -/
def RowIs (h : Heap) (v : Value) (ds : List PyData) : Prop := ∃ T its, v = .ref T ∧ h.IsList T its ∧ CarriedAll its.toList ds
inductive RowsAre (h : Heap) : List Value → List (List PyData) → Prop
  | nil : RowsAre h [] []
  | cons {v ds vs dss} : RowIs h v ds → RowsAre h vs dss → RowsAre h (v :: vs) (ds :: dss)
def IN (d : PyData) : Prop := d = .none ∨ ∃ i, d = .int i
theorem all_tt (n : Nat) : ((List.range n).all fun _ => true) = true := by simp
theorem carried_get : ∀ {vs : List Value} {ds : List PyData}, CarriedAll vs ds → ∀ j (h1 : j < vs.length) (h2 : j < ds.length), Carried vs[j] ds[j]
  | _, _, .cons c r, 0, _, _ => c
  | _, _, .cons c r, j+1, h1, h2 => carried_get r j (by simpa using h1) (by simpa using h2)
theorem rows_get {h : Heap} : ∀ {vs : List Value} {dss : List (List PyData)}, RowsAre h vs dss → ∀ j (h1 : j < vs.length) (h2 : j < dss.length), RowIs h vs[j] dss[j]
  | _, _, .cons c r, 0, _, _ => c
  | _, _, .cons c r, j+1, h1, h2 => rows_get r j (by simpa using h1) (by simpa using h2)
theorem rows_len {h : Heap} : ∀ {vs : List Value} {dss : List (List PyData)}, RowsAre h vs dss → vs.length = dss.length
  | _, _, .nil => rfl
  | _, _, .cons _ r => by simp [rows_len r]
theorem carried_eq {A : Around} {s : Shared} {v w : Value} {d : PyData} (hd : IN d) (hv : Carried v d) (hw : Carried w d) : EqAt A s v w true :=
 (by intro h9x; exact h9x : have h9x : EqAt A s v w true := (by
  rcases hd with rfl | ⟨i, rfl⟩
  · cases hv; cases hw; exact EqAt.same _
  · cases hv with | int _ t => cases hw with | int _ u => simpa using EqAt.int_int (A := A) (s := s) i t i u
 ); EqAt A s v w true)
theorem row_eq {A : Around} {s : Shared} {v w : Value} {ds : List PyData} (hds : ∀ d ∈ ds, IN d) (hu : A.units < cLine) (hv : RowIs s.heap v ds) (hw : RowIs s.heap w ds) : EqAt A s v w true :=
 (by intro h9x; exact h9x : have h9x : EqAt A s v w true := (by
  obtain ⟨T, its, rfl, hl, hc⟩ := hv
  obtain ⟨T2, its2, rfl, hl2, hc2⟩ := hw
  by_cases e : T = T2
  · subst e; exact EqAt.same _
  have l1 := hc.length_eq
  have l2 := hc2.length_eq
  have := EqAt.of_refs e (RcAt.lists (A := A) (e := fun _ => true) hl hl2 (by simpa using l1.trans l2.symm) hu (fun j h1 h2 => by
    have c1 := carried_get hc j (by simpa using h1) (by rw [← l1]; simpa using h1)
    have c2 := carried_get hc2 j (by simpa using h2) (by rw [← l1]; simpa using h1)
    exact carried_eq (hds _ (List.getElem_mem ..)) (by simpa using c1) (by simpa using c2)))
  rw [all_tt] at this; exact this
 ); EqAt A s v w true)
theorem cal_ne {prog : Program} {w : World} {A : Around} {E : Value → Shared → Prop} {s : Shared} {Q : Value → Shared → Prop} {D D2 : Addr} {ys ys2 : List Value} {dss : List (List PyData)}
    (hl : s.heap.IsList D ys.toArray) (hl2 : s.heap.IsList D2 ys2.toArray) (hds : ∀ ds ∈ dss, ∀ d ∈ ds, IN d) (hu : A.units + 4 < cLine) (h1 : RowsAre s.heap ys dss) (h2 : RowsAre s.heap ys2 dss)
    (h : Q (.bool true) s) : wpAny (model prog w) A (compareOp .Eq (.ref D) (.ref D2)) Q E s :=
 (by intro h9x; exact h9x : have h9x : wpAny (model prog w) A (compareOp .Eq (.ref D) (.ref D2)) Q E s := (by
  have l1 := rows_len h1
  have l2 := rows_len h2
  refine eq_listAt (e := fun _ => true) hl hl2 (by simpa using l1.trans l2.symm) (by omega) (fun j k1 k2 => ?_) (by rw [all_tt]; exact h)
  have c1 := rows_get h1 j (by simpa using k1) (by rw [← l1]; simpa using k1)
  have c2 := rows_get h2 j (by simpa using k2) (by rw [← l1]; simpa using k1)
  exact row_eq (hds _ (List.getElem_mem ..)) (by show A.units + 1 < cLine; omega) (by simpa using c1) (by simpa using c2)
 ); wpAny (model prog w) A (compareOp .Eq (.ref D) (.ref D2)) Q E s)
end AK
end

section
open PySem.W.KM
namespace AK
theorem allLt1 {news : List (Addr × Obj)} {L : Addr} (h : ∀ p ∈ news, p.1 < L) : ∀ p ∈ news, p.1 < L + 1 := fun p hp => Nat.lt_succ_of_lt (h p hp)
theorem ne_lt {news : List (Addr × Obj)} {d : Addr} (h : ∀ p ∈ news, p.1 < d) : ∀ p ∈ news, p.1 ≠ d := fun p hp => Nat.ne_of_lt (h p hp)
theorem carried_app : ∀ {vs ws : List Value} {ds es : List PyData}, CarriedAll vs ds → CarriedAll ws es → CarriedAll (vs ++ ws) (ds ++ es)
  | _, _, _, _, .nil, h => h
  | _, _, _, _, .cons c r, h => .cons c (carried_app r h)
theorem carried_none (n : Nat) : CarriedAll (List.replicate n Value.none) (List.replicate n PyData.none) :=
 (by intro h9x; exact h9x : have h9x : CarriedAll (List.replicate n Value.none) (List.replicate n PyData.none) := (by
  induction n with
  | zero => exact .nil
  | succ n ih => rw [List.replicate_succ, List.replicate_succ]; exact .cons .none ih
 ); CarriedAll (List.replicate n Value.none) (List.replicate n PyData.none))
theorem carried_ints : ∀ {vs : List Value} {ns : List Int}, IntsAre vs ns → CarriedAll vs (ns.map .int)
  | _, _, .nil => .nil
  | _, _, .cons _ _ r => .cons (.int _ _) (carried_ints r)
section
variable {prog : Program} {w : World} {A : Around} {E : Value → Shared → Prop} {s : Shared} {h₀ : Heap} {L : Addr} {m : Str → Option Value} {news : List (Addr × Obj)}
theorem r_addC {l b : Addr} {vs ws : List Value} {ds es : List PyData} {Q : Value → Shared → Prop} (F : Fr h₀ L s.heap m) (N : News h₀ L s.heap news) (hl : s.heap.IsList l vs.toArray) (hb : s.heap.IsList b ws.toArray) (hv : CarriedAll vs ds) (hw : CarriedAll ws es) (hsz : ds.length + es.length ≤ 100)
    (h : ∀ D us h', Fr h₀ L h' m → News h₀ L h' ((D, listOf us.toArray 0) :: news) → (∀ p ∈ news, p.1 < D) → CarriedAll us (ds ++ es) → Q (.ref D) { s with heap := h' }) :
    wpAny (model prog w) A (binaryOp .Add (.ref l) (.ref b)) Q E s := by
  have l1 := hv.length_eq
  have l2 := hw.length_eq
  refine add_arrays F N hl hb (fun h' F' N' => h _ _ h' F' (by simpa using N') (fun p hp => Heap.lt_size (N p hp).1) (carried_app hv hw)) (by simp only [List.size_toArray, sizeLine_eq]; omega)
theorem r_mulC {l : Addr} {x : Int} {u : Tok} {Q : Value → Shared → Prop} (F : Fr h₀ L s.heap m) (N : News h₀ L s.heap news) (hl : s.heap.IsList l #[.none]) (hx : 0 ≤ x ∧ x ≤ 50)
    (h : ∀ D us h', Fr h₀ L h' m → News h₀ L h' ((D, listOf us.toArray 0) :: news) → (∀ p ∈ news, p.1 < D) → CarriedAll us (List.replicate x.toNat .none) → Q (.ref D) { s with heap := h' }) :
    wpAny (model prog w) A (binaryOp .Mult (.ref l) (.int x u)) Q E s :=
  KMa.mul (vs := [.none]) F N hl (by omega) (by omega) (by simp only [List.length_cons, List.length_nil]; omega) (by simp) fun D h' F' N' l1 => h D _ h' F' N' l1 (carried_none _)
theorem r_mulCr {l : Addr} {x : Int} {u : Tok} {Q : Value → Shared → Prop} (F0 : Fr h₀ L s.heap m) (N : News h₀ L s.heap news) (hl : s.heap.IsList l #[.none]) (hx : 0 ≤ x ∧ x ≤ 50)
    (h : ∀ D us h', Fr h₀ L h' m → News h₀ L h' ((D, listOf us.toArray 0) :: news) → (∀ p ∈ news, p.1 < D) → CarriedAll us (List.replicate x.toNat .none) → Q (.ref D) { s with heap := h' }) :
    wpAny (model prog w) A (binaryOp .Mult (.int x u) (.ref l)) Q E s := by
  have hsz' : (#[Value.none] : Array Value).size * x.toNat ≤ 256 := by simp only [List.size_toArray, List.length_cons, List.length_nil]; omega
  obtain ⟨⟨cls, d, data, sl⟩, ho, hcl, k, hd⟩ := id hl
  simp only at hcl hd
  subst hcl hd
  refine lm_binaryOp_repeat_right (T := "list") (U := "int") (by decide) (fun s' => typeIs_int s' x u) ⟨_, ho, rfl⟩ F.fills_int_mul noFill_list_mul F.slot_int_mul lm_noRepeat_int repeat_list F.slot_int_index.lookup
    (call_meets F.slot_int_mul (typeIs_int s x u) F.entry_int_mul (F.args_int_mul_2 _ _) (lm_int_mul_list_any x u l #[.none] k d sl)
      ⟨ho, rfl, ⟨_, ho, rfl⟩, call_meets F.slot_list_mul ⟨_, ho, rfl⟩ F.entry_list_mul (F.args_list_mul_2 _ _)
        (lm_list_mul_any l #[.none] k d sl x u (by simp [Builtin.List.listFitsIndex]; omega) (by omega) (by simp [Builtin.List.listTooLong, sizeLine]; omega))
        ⟨ho, ?_⟩⟩)
  have N' := News.push F0 N { cls := Value.type "list", data := Data.seq (List.foldl (fun x1 x2 => x1 ++ x2) #[] (List.replicate (if (#[Value.none] : Array Value).isEmpty = true then 0 else x.toNat) #[.none])) }
  have e : List.foldl (fun (x1 x2 : Array Value) => x1 ++ x2) #[] (List.replicate (if (#[Value.none] : Array Value).isEmpty = true then 0 else x.toNat) #[.none]) = (List.replicate x.toNat Value.none).toArray := by
    rw [show (#[Value.none] : Array Value) = [Value.none].toArray from rfl, listMul_foldl_if]; simp
  rw [e] at N'
  rw [e]
  exact h _ _ _ (F0.push _) N' (fun p hp => Heap.lt_size (N p hp).1) (carried_none _)
theorem compR {env : Env} {m : Str → Option Value} {s : Shared} (_F : Fr h₀ L s.heap m) {elt iter : Expr} {x : Str} {px : Pos} {scope : Scope} {cl : List (Str × Addr)} {pos : Pos} {Q : Value → Shared → Prop} {d : Int → List PyData}
    (hh : A.handled = none) (hclos : closureFor scope env = pure cl) (hcell : ∀ y ∈ scope.names, y.2 ≠ .cell) (hkind : scope.kind = .function)
    (hnames : ∀ y ∈ scope.names, y.2 = .local → scope.names.lookup y.1 = some .local) (hx : scope.names.lookup x = some .local) (hs : ∀ x, foldedSetIterable iter env x = pure x)
    (h : wpAny (model prog w) A (eval iter env) (fun xv s₁ => ∃ news : List (Addr × Obj), ∃ r a₀ b₀ c₀ t₀ u₀ v₀, ∃ n : Nat, xv = .ref r ∧ IsRange s₁.heap r a₀ b₀ c₀ t₀ u₀ v₀ ∧ Builtin.Range.rangeSize a₀ b₀ c₀ = (n : Int) ∧ n ≤ sizeLine ∧ Fr h₀ L s₁.heap m ∧ News h₀ L s₁.heap news ∧
      (∀ C a v s₂ m₂ E', s₁.heap.objs.size ≤ C → a ∈ rangeInts a₀ c₀ n → ItemKind.int.is a v → s₂.heap.Ns (compEnvC scope cl C env).locals m₂ → m₂ x = some v → (∀ b o, s₁.heap.get? b = some o → s₂.heap.get? b = some o) →
        wpAny (model prog w) A (eval elt (compEnvC scope cl C env)) (fun y s₃ => (∃ T its, y = .ref T ∧ s₂.heap.get? T = none ∧ s₃.heap.IsList T its ∧ CarriedAll its.toList (d a)) ∧ Keeps s₂ s₃) E' s₂) ∧
      (∀ D (ys : List Value) (Ts : List Addr) h' tk, Fr h₀ L h' m → News h₀ L h' news → h'.IsList D ys.toArray → ReadsAll h' ys ((rangeInts a₀ c₀ n).map fun a => .list (d a)) Ts →
        (D :: Ts).Nodup → (∀ T ∈ D :: Ts, h₀.get? T = none) → Q (.ref D) { s₁ with heap := h', toks := tk })) E s) :
    wpAny (model prog w) A (eval (.ListComp elt [⟨.Name x px, iter, [], 0⟩] scope pos) env) Q E s := by
  refine ListComp_DCrO (h₀ := h₀) (L := L) (m := m) (pz := fun _ => true) (d := d) hh hclos hcell hkind hnames hx (wpAny_mono h (fun xv s₁ h₁ => ?_) fun _ _ e => e) hs
  obtain ⟨news, r, a₀, b₀, c₀, t₀, u₀, v₀, n, rfl, hr, hn, hsz, F, N, helt, hQ⟩ := h₁
  refine ⟨news, r, a₀, b₀, c₀, t₀, u₀, v₀, n, rfl, hr, hn, hsz, F, N, ?_, ?_, ?_⟩
  · intro C a v s₂ m₂ E' _ _ _ _ _ _
    exact wpAny_pure ⟨rfl, _, _, rfl, fun _ _ e => e⟩
  · intro C a v s₂ m₂ E' h1 h2 h3 _ h4 h5 h6
    exact helt C a v s₂ m₂ E' h1 h2 h3 h4 h5 h6
  · intro D ys Ts h' tk F' N' hl hra hnd hfr
    refine hQ D ys Ts h' tk F' N' hl ?_ hnd hfr
    rw [filter_const_true] at hra; exact hra
end
end AK
end

section
open PySem.Spec
namespace AK
theorem carried_drop : ∀ {vs : List Value} {ds : List PyData}, CarriedAll vs ds → ∀ n, CarriedAll (vs.drop n) (ds.drop n)
  | _, _, h, 0 => h
  | _, _, .nil, _+1 => .nil
  | _, _, .cons _ r, n+1 => carried_drop r n
theorem carried_take : ∀ {vs : List Value} {ds : List PyData}, CarriedAll vs ds → ∀ n, CarriedAll (vs.take n) (ds.take n)
  | _, _, _, 0 => .nil
  | _, _, .nil, _+1 => .nil
  | _, _, .cons c r, n+1 => .cons c (carried_take r n)
theorem carried_pick {vs : List Value} {ds : List PyData} (h : CarriedAll vs ds) {x y : Int} (hx : 0 ≤ x) (hy : y = x + 7) (hn : y ≤ ds.length) : CarriedAll (slicePick vs.toArray (some x) (some y) none).toList ((ds.drop x.toNat).take 7) :=
 (by intro h9x; exact h9x : have h9x : CarriedAll (slicePick vs.toArray (some x) (some y) none).toList ((ds.drop x.toNat).take 7) := (by
  have e : vs.toArray.size = ds.length := by simp [h.length_eq]
  rw [slicePick_plain]
  simp only [Option.elim, e]
  have a := clipAt_in hx (show x ≤ ds.length by omega)
  have b := clipAt_in (show 0 ≤ y by omega) hn
  rw [a, b, show y.toNat - x.toNat = 7 by omega]
  exact carried_take (carried_drop h _) _
 ); CarriedAll (slicePick vs.toArray (some x) (some y) none).toList ((ds.drop x.toNat).take 7))
theorem leafC {s₂ : Shared} {tk : Nat} {vl vu : Value} {vs : List Value} {ds : List PyData} {x y : Int} (h : CarriedAll vs ds) (hx : 0 ≤ x) (hy : y = x + 7) (hn : y ≤ ds.length) :
    (∃ T its, Value.ref (s₂.heap.objs.size + 1) = Value.ref T ∧ s₂.heap.get? T = none ∧
      ((s₂.heap.push { cls := .type "slice", data := .fields #[vl, vu, .none] }).push { cls := .type "list", data := .seq (slicePick vs.toArray (some x) (some y) none) }).IsList T its ∧
      CarriedAll its.toList ((ds.drop x.toNat).take 7)) ∧
    Keeps s₂ { s₂ with heap := (s₂.heap.push { cls := .type "slice", data := .fields #[vl, vu, .none] }).push { cls := .type "list", data := .seq (slicePick vs.toArray (some x) (some y) none) }, toks := tk } :=
  ⟨⟨_, _, rfl, fresh_above _ 1, isList_pushed2 _ _ _, carried_pick h hx hy hn⟩, _, _, rfl, fun _ _ e => Heap.get?_push_of_some _ (Heap.get?_push_of_some _ e)⟩
/-- a new list of new lists of data -/
abbrev RetCal (dss : List (List PyData)) : Post := fun h₀ L m news s Q => ∀ (D : Addr) (ys : List Value) (h' : Heap) (tk' : Nat), Fr h₀ L h' m → News h₀ L h' news → h'.IsList D ys.toArray → RowsAre h' ys dss → Q (.ref D) { s with heap := h', toks := tk' }
def daysD (s l : Int) : List PyData := List.replicate ((s + 1) % 7).toNat PyData.none ++ (rangeKs 1 (1 + l - 1).toNat).map .int ++ List.replicate (Int.toNat 7) PyData.none
theorem daysD_len (s l : Int) (hl : 0 ≤ l) : ((daysD s l).length : Int) = (s + 1) % 7 + l + 7 :=
 (by intro h9x; exact h9x : have h9x : ((daysD s l).length : Int) = (s + 1) % 7 + l + 7 := (by
  unfold daysD
  simp only [List.length_append, List.length_replicate, List.length_map, rangeKs_length]
  omega
 ); ((daysD s l).length : Int) = (s + 1) % 7 + l + 7)
/-- the rows of the helper -/
def calD (s l : Int) : List (List PyData) := (rangeInts 0 7 (Builtin.Range.rangeSize 0 ((s + 1) % 7 + l) 7).toNat).map fun a => ((daysD s l).drop a.toNat).take 7
theorem mem_ri7 {n : Nat} {a : Int} (h : a ∈ rangeInts 0 7 n) : 0 ≤ a ∧ a < 7 * (n : Int) ∧ a % 7 = 0 :=
 (by intro h9x; exact h9x : have h9x : 0 ≤ a ∧ a < 7 * (n : Int) ∧ a % 7 = 0 := (by
  obtain ⟨i, hi, rfl⟩ := List.mem_map.mp h
  have := List.mem_range.mp hi
  omega
 ); 0 ≤ a ∧ a < 7 * (n : Int) ∧ a % 7 = 0)
theorem calD_bd {e : Int} {a : Int} (he : 0 ≤ e) (h : a ∈ rangeInts 0 7 (Builtin.Range.rangeSize 0 e 7).toNat) : 0 ≤ a ∧ a + 7 ≤ e + 7 :=
 (by intro h9x; exact h9x : have h9x : 0 ≤ a ∧ a + 7 ≤ e + 7 := (by
  have := mem_ri7 h
  unfold Builtin.Range.rangeSize at this
  split at this <;> split at this <;> omega
 ); 0 ≤ a ∧ a + 7 ≤ e + 7)
theorem carried_reads {h : Heap} : ∀ {its : List Value} {ds : List PyData} {as : List Addr}, (∀ d ∈ ds, IN d) → ReadsAll h its ds as → CarriedAll its ds
  | _, _, _, _, .nil => .nil
  | _, _, _, hd, .cons r rs => by
    refine .cons ?_ (carried_reads (fun d hm => hd d (.tail _ hm)) rs)
    rcases hd _ (.head _) with rfl | ⟨i, rfl⟩
    · cases r; exact .none
    · cases r; exact .int _ _
theorem row_reads {h : Heap} {v : Value} {ds : List PyData} {as : List Addr} (hd : ∀ d ∈ ds, IN d) (r : Reads h v (.list ds) as) : RowIs h v ds :=
 (by intro h9x; exact h9x : have h9x : RowIs h v ds := (by
  cases r with
  | list ho hc hdat hr => exact ⟨_, _, rfl, ⟨_, ho, hc, _, hdat⟩, carried_reads hd hr⟩
 ); RowIs h v ds)
theorem rows_reads {h : Heap} {α : Type} {d : α → List PyData} : ∀ {xs : List α} {ys : List Value} {as : List Addr}, (∀ a ∈ xs, ∀ x ∈ d a, IN x) → ReadsAll h ys (xs.map fun a => .list (d a)) as → RowsAre h ys (xs.map d)
  | [], _, _, _, r => by cases r; exact .nil
  | _ :: _, _, _, hd, r => by
    rw [List.map_cons] at r
    cases r with
    | cons r rs => exact .cons (row_reads (hd _ (.head _)) r) (rows_reads (fun a hm => hd a (.tail _ hm)) rs)
theorem daysD_IN (s l : Int) : ∀ x ∈ daysD s l, IN x :=
 (by intro h9x; exact h9x : have h9x : ∀ x ∈ daysD s l, IN x := (by
  intro x hx
  unfold daysD at hx
  rcases List.mem_append.mp hx with hx | hx
  · rcases List.mem_append.mp hx with hx | hx
    · exact .inl (List.eq_of_mem_replicate hx)
    · obtain ⟨i, _, rfl⟩ := List.mem_map.mp hx
      exact .inr ⟨i, rfl⟩
  · exact .inl (List.eq_of_mem_replicate hx)
 ); ∀ x ∈ daysD s l, IN x)
theorem news_back {h₀ h g h' : Heap} {L L' : Addr} {news big : List (Addr × Obj)} (N : News h₀ L h news) (N8 : News g L' h' big) (hs : ∀ p ∈ news, p ∈ big) : News h₀ L h' news := fun p hp => ⟨(N8 p (hs p hp)).1, (N p hp).2⟩
theorem calD_IN (s l : Int) : ∀ ds ∈ calD s l, ∀ d ∈ ds, IN d :=
 (by intro h9x; exact h9x : have h9x : ∀ ds ∈ calD s l, ∀ d ∈ ds, IN d := (by
  intro ds h d hd
  obtain ⟨a, _, rfl⟩ := List.mem_map.mp h
  exact daysD_IN s l d (List.mem_of_mem_drop (List.mem_of_mem_take hd))
 ); ∀ ds ∈ calD s l, ∀ d ∈ ds, IN d)
end AK
end

section
local macro_rules | `(tactic| walk_at "AK claim") => `(tactic| (unfold AK.Claim; k_fill; intro p loose mean mg mb dp un gd cn cs a ccd cl outer A₀ base h₀ L mm news s Q E B F X N T hk hdp hun hret; refine wpAny_call ?_; k_dflt (refine' code_defC ?k1 ?k2 ?k3 ?k4 ?k5 ?kA ?kF ?kK ?k6 ?k7 ?k8 ?k9 ?kB ?kD ?_ ?c2 ?c3 ?c4; (case kA => exact rfl); (case kF => exact rfl); (case kK => assumption); (case k1 => k_asm); (case k2 => k_asm); (case k3 => k_asm); (case k4 => k_asm); (case k5 => k_asm); (case k6 => k_is); (case k7 => k_is); (case k8 => ktr_room); (case k9 => first | exact BindsTo.of_eq rfl | exact binds_K (by k_in) rfl (by k_is) rfl rfl rfl); (case kB => exact rfl); (case kD => decide +kernel); (case c2 => exact rfl); (case c3 => exact rfl); (case c4 => exact rfl); k_whole; intro g' L' h' tk' cells' FG' F' N' Y' B' X' T' l1; (have l9 := AK.allLt1 l1); (try k_lt l1); k_cells Y'; (try simp only [List.cons_append, List.nil_append] at N'); (try dsimp only); (try k_lift B'); (try k_fold)); k_steps))
local macro_rules | `(tactic| walk_at "AK carried") => `(tactic| first | with_reducible assumption | exact AK.carried_ints (by with_reducible assumption))
local macro_rules | `(tactic| walk_at "binaryOp Mult ref int") => `(tactic| (k_here; (with_reducible show wpAny _ _ (binaryOp Operator.Mult (Value.ref _) (Value.int _ _)) _ _ _); k_dflt (refine' AK.r_mulC ?F ?N ?l ?x ?_; (case F => k_asm); (case N => k_asm); (case l => is_list); (case x => omega); k_whole); intro D' us' h' F' N' l1 hC'; (try k_lt l1); (try k_sweep)))
local macro_rules | `(tactic| walk_at "binaryOp Mult int ref") => `(tactic| (k_here; (with_reducible show wpAny _ _ (binaryOp Operator.Mult (Value.int _ _) (Value.ref _)) _ _ _); k_dflt (refine' AK.r_mulCr ?F ?N ?l ?x ?_; (case F => k_asm); (case N => k_asm); (case l => is_list); (case x => omega); k_whole); intro D' us' h' F' N' l1 hC'; (try k_lt l1); (try k_sweep)))
local macro_rules | `(tactic| walk_at "binaryOp Add ref ref") => `(tactic| (k_here; (with_reducible show wpAny _ _ (binaryOp _ (Value.ref _) (Value.ref _)) _ _ _); k_dflt (refine' AK.r_addC ?F ?N ?a ?b ?i ?j ?z ?_; (case F => k_asm); (case N => k_asm); (case a => is_list); (case b => is_list); (case i => walk_at "AK carried"); (case j => walk_at "AK carried"); (case z => (simp only [List.length_append, List.length_replicate, List.length_map, rangeKs_length]; omega)); k_whole); intro D' us' h' F' N' l1 hC'; (try k_lt l1); (try k_sweep)))
local macro_rules | `(tactic| k_all) => `(tactic| exact AK.ne_lt (by assumption))
theorem AK.stopW {M : Model} {A : Around} {α : Type} {t : Sem α} {Q : α → Shared → Prop} {E : Value → Shared → Prop} {s : Shared} (h : id (wpAny M A t Q E s)) : wpAny M A t Q E s := h
local macro_rules | `(tactic| walk_at "eval ListComp") => `(tactic| (refine AK.stopW ?_))
local macro_rules | `(tactic| walk_at "subscriptTail Name Slice ref ref") => `(tactic| ((with_reducible show wpAny _ _ (subscriptTail _ (Expr.Slice _ _ none _) (Value.ref _) (Value.ref _)) _ _ _); with_unfolding_all refine slice_listK (by first | assumption | is_list) (by first | exact .none | exact .int _ _) (by first | exact .none | exact .int _ _) ?_))
local macro_rules | `(tactic| walk_at "AK lt") => `(tactic| first | exact AK.and2 (by k_asm) | exact AK.and3 (by k_asm) | exact AK.and4 (by k_asm) | exact AK.and5 (by k_asm) | exact AK.and6 (by k_asm) | exact AK.and7 (by k_asm) | exact AK.and8 (by k_asm) | exact AK.and9 (by k_asm) | exact AK.and10 (by k_asm) | exact AK.and11 (by k_asm) | exact AK.and12 (by k_asm) | k_asm | exact PySem.W.allLt_of (by k_asm))
local macro_rules | `(tactic| walk_at "AK sub") => `(tactic| (intro p9 hp9; repeat (first | exact hp9 | refine List.mem_cons_of_mem _ ?_)))
local macro_rules | `(tactic| walk_at "AK endT5") => `(tactic| (refine AK.endT5 (by assumption) ?_ ?_ ?_ ?_ ?_ (by k_asm) (by k_asm) (by walk_at "AK sub") (by walk_at "AK lt")))
namespace AK
set_option pp.deepTerms false
theorem isList_of {h : Heap} {D : Addr} {its : Array Value} {n : Nat} (e : h.get? D = some (listOf its n)) : h.IsList D its := ⟨_, e, rfl, _, rfl⟩
theorem c_helper (w : World) (s l : Int) (t t1 : Tok) (hs : 0 ≤ s ∧ s ≤ 6) (hl : l = 29 ∨ l = 30) : Claim w 89 [.int s t, .int l t1] 4 (RetCal (calD s l)) :=
 (by intro h9x; exact h9x : have h9x : Claim w 89 [.int s t, .int l t1] 4 (RetCal (calD s l)) := (by
  walk_at "AK claim"
  rw [id]
  rename CarriedAll _ (_ ++ _ ++ _) => hC0
  have hC : CarriedAll _ (daysD s l) := hC0
  rename RetCal _ _ _ _ _ _ _ => hret
  rename Fr _ _ _ _ => F'
  k_dflt (refine' AK.compR F' (d := fun a => ((daysD s l).drop a.toNat).take 7) ?hh ?hclos ?hcell ?hkind ?hnames ?hx ?hs ?h; (case hh => exact rfl); (case hclos => exact rfl); (case hcell => decide +kernel); (case hkind => exact rfl); (case hnames => decide +kernel); (case hx => exact rfl); (case hs => exact fun _ => rfl))
  refine wpAny_rangePackO ?_
  k_steps
  refine RangePackO.intro ?_
  rename IsRange _ _ _ _ _ _ _ _ => R'
  rename Fr _ _ _ _ => F'
  rename News _ _ _ _ => N'
  with_unfolding_all refine ⟨_, _, _, _, _, _, _, _, _, rfl, R', rangeSize_toNat _ _ _, ?hsz, F', N', ?helt, ?hq⟩
  case hsz =>
    refine Nat.le_trans (rangeSize_toNat_le _ _ _) ?_
    rw [sizeLine_eq]
    omega
  case helt =>
    intro C a v s₂ m₂ E' h1 h2 h3 h4 h5 h6
    obtain ⟨_, e'⟩ := ItemKind.int_is h3; subst e'
    have hb := calD_bd (by omega) h2
    have hdl := daysD_len s l (by omega)
    have hlD := isList_of (h6 _ _ (N' _ (List.Mem.head _)).1)
    dsimp only at hlD
    k_steps
    all_goals first | exact fresh_above _ 1 | with_unfolding_all exact isList_pushed2 _ _ _ | with_unfolding_all exact carried_pick hC (by omega) rfl (by omega) | with_unfolding_all exact ⟨_, _, rfl, fun _ _ e => Heap.get?_push_of_some _ (Heap.get?_push_of_some _ e)⟩ | skip
  case hq =>
    intro D ys Ts h' tk F8 N8 hl8 hra hnd hfr
    k_steps
    exact hret D ys h' tk (by k_asm) (news_back (by assumption) N8 (by walk_at "AK sub")) hl8 (rows_reads (fun a _ x hx => daysD_IN s l x (List.mem_of_mem_drop (List.mem_of_mem_take hx))) hra)
 ); Claim w 89 [.int s t, .int l t1] 4 (RetCal (calD s l)))
end AK
end

section
local macro_rules | `(tactic| walk_at "AK lt") => `(tactic| first | k_asm | exact AK.and2 (by k_asm) | exact AK.and3 (by k_asm) | exact PySem.W.allLt_of (by k_asm) | exact AK.allLt_sub (by k_asm) (by walk_at "AK sub"))
local macro_rules | `(tactic| walk_at "AK endT3") => `(tactic| (refine AK.endT3' (by assumption) ?_ ?_ ?_ (by k_asm) (by k_asm) (by walk_at "AK sub") (by walk_at "AK lt")))
local macro_rules | `(tactic| walk_at "AK lt") => `(tactic| first | exact AK.and2 (by k_asm) | exact AK.and3 (by k_asm) | exact AK.and4 (by k_asm) | exact AK.and5 (by k_asm) | exact AK.and6 (by k_asm) | exact AK.and7 (by k_asm) | exact AK.and8 (by k_asm) | exact AK.and9 (by k_asm) | exact AK.and10 (by k_asm) | exact AK.and11 (by k_asm) | exact AK.and12 (by k_asm) | k_asm | exact PySem.W.allLt_of (by k_asm))
local macro_rules | `(tactic| walk_at "AK sub") => `(tactic| (intro p9 hp9; repeat (first | exact hp9 | refine List.mem_cons_of_mem _ ?_)))
local macro_rules | `(tactic| walk_at "AK endT5") => `(tactic| (refine AK.endT5 (by assumption) ?_ ?_ ?_ ?_ ?_ (by k_asm) (by k_asm) (by walk_at "AK sub") (by walk_at "AK lt")))
local macro_rules | `(tactic| walk_at "call ref") => `(tactic| (k_here; (with_reducible show wpAny _ _ (call (Value.ref 49) _ _) _ _ _); k_dflt (refine' AK.Claim.use (AK.c_jwday _ _ _ ?a ?b) ?k1 ?k2 ?k3 ?k4 ?k5 ?kK ?kd ?ku ?_; (case a => omega); (case b => omega); walk_at "AK use"); intro t9 h9 tk9 F9 N9; (try dsimp only); (try k_sweep)))
local macro_rules | `(tactic| walk_at "call ref") => `(tactic| (k_here; (with_reducible show wpAny _ _ (call (Value.ref 167) _ _) _ _ _); k_dflt (refine' AK.Claim.use (AK.c_mdays _ _ _ _ _ ?p1 ?p2 ?p3) ?k1 ?k2 ?k3 ?k4 ?k5 ?kK ?kd ?ku ?_; (case p1 => omega); (case p2 => omega); (case p3 => omega); walk_at "AK use"); intro t9 h9 tk9 F9 N9; (try dsimp only); (try k_sweep)))
local macro_rules | `(tactic| walk_at "call ref") => `(tactic| (k_here; (with_reducible show wpAny _ _ (call (Value.ref 174) _ _) _ _ _); k_dflt (refine' AK.Claim.use (AK.c_tojdHx _ _ _ _ _ _ _ ?p1 ?p2 ?p3 ?p4) ?k1 ?k2 ?k3 ?k4 ?k5 ?kK ?kd ?ku ?_; (case p1 => omega); (case p2 => omega); (case p3 => omega); (case p4 => omega); walk_at "AK use"); intro hzb9 t9 h9 tk9 F9 N9; (try dsimp only); (try k_sweep)))
local macro_rules | `(tactic| walk_at "call ref") => `(tactic| (k_here; (with_reducible show wpAny _ _ (call (Value.ref 89) _ _) _ _ _); k_dflt (refine' AK.Claim.use (AK.c_helper _ _ _ _ _ ?a ?b) ?k1 ?k2 ?k3 ?k4 ?k5 ?kK ?kd ?ku ?_; (case a => omega); (case b => omega); walk_at "AK use"); intro D9 ys9 h9 tk9 F9 N9 hl9 hr9; (try dsimp only); (try k_sweep)))
namespace AK
theorem endCal {h₀ h' : Heap} {L D : Addr} {m : Str → Option Value} {news : Led} {s : Shared} {Q : Value → Shared → Prop} {dss dss' : List (List PyData)} {ys : List Value} {tk' : Nat}
    (hret : RetCal dss h₀ L m news s Q) (e : dss' = dss) (F : Fr h₀ L h' m) (N : News h₀ L h' news) (hl : h'.IsList D ys.toArray) (hr : RowsAre h' ys dss') : Q (.ref D) { s with heap := h', toks := tk' } :=
 (by intro h9x; exact h9x : have h9x : Q (.ref D) { s with heap := h', toks := tk' } := (by
  subst e
  exact hret D ys h' tk' F N hl hr
 ); Q (.ref D) { s with heap := h', toks := tk' })
theorem c_mcal (w : World) (y m : Int) (t t1 : Tok) (hy : y.natAbs < 40000) (hp : -1 ≤ y) (hm : 1 ≤ m ∧ m ≤ 13) : Claim w 202 [.int y t, .int m t1] 20 (RetCal (calD ((jdH y m 1 + 1) % 7) (mlenH y m))) :=
 (by intro h9x; exact h9x : have h9x : Claim w 202 [.int y t, .int m t1] 20 (RetCal (calD ((jdH y m 1 + 1) % 7) (mlenH y m))) := (by
  have r1 := mlenH_range y m
  walk_at "AK claim"
  have e : (4 * jdH y m 1 + 2 + 2) / 4 % 7 = (jdH y m 1 + 1) % 7 := by omega
  refine endCal (by assumption) ?_ (by k_asm) (by k_asm) (by assumption) (by assumption)
  rw [e]
 ); Claim w 202 [.int y t, .int m t1] 20 (RetCal (calD ((jdH y m 1 + 1) % 7) (mlenH y m))))
end AK
end

section
open PySem.Spec
namespace AK
theorem carried_set {x : Int} {t : Tok} : ∀ {vs : List Value} {ds : List PyData}, CarriedAll vs ds → ∀ j : Nat, CarriedAll (vs.set j (.int x t)) (ds.set j (.int x))
  | _, _, .nil, _ => .nil
  | _, _, .cons _ r, 0 => .cons (.int x t) r
  | _, _, .cons c r, j+1 => .cons c (carried_set r j)
/-- the rows of a month, day by day -/
def rowStep (len : Int) (c : Int → Int) (st : List (List PyData) × List PyData) (one : Int) : List (List PyData) × List PyData :=
  if c one = 6 ∨ one = len then (st.1 ++ [st.2.set (c one).toNat (.int one)], List.replicate 7 .none) else (st.1, st.2.set (c one).toNat (.int one))
def rowsAt (len b : Int) (i : Nat) : List (List PyData) × List PyData := ((rangeKs 1 len.toNat).take i).foldl (rowStep len fun one => (b + one) % 7) ([], List.replicate 7 .none)
def rowsD (len b : Int) : List (List PyData) := (rowsAt len b len.toNat).1
theorem rowsAt_succ {len b : Int} {i : Nat} {k : Int} (h : (rangeKs 1 len.toNat)[i]? = some k) : rowsAt len b (i + 1) = rowStep len (fun one => (b + one) % 7) (rowsAt len b i) k :=
 (by intro h9x; exact h9x : have h9x : rowsAt len b (i + 1) = rowStep len (fun one => (b + one) % 7) (rowsAt len b i) k := (by
  unfold rowsAt
  rw [List.take_add_one, h]
  simp
 ); rowsAt len b (i + 1) = rowStep len (fun one => (b + one) % 7) (rowsAt len b i) k)
theorem rowsAt_len {len b : Int} (i : Nat) : (rowsAt len b i).1.length ≤ i ∧ (rowsAt len b i).2.length = 7 :=
 (by intro h9x; exact h9x : have h9x : (rowsAt len b i).1.length ≤ i ∧ (rowsAt len b i).2.length = 7 := (by
  induction i with
  | zero => exact ⟨Nat.le_refl _, rfl⟩
  | succ i ih =>
    cases e : (rangeKs 1 len.toNat)[i]? with
    | none =>
      have : rowsAt len b (i + 1) = rowsAt len b i := by
        unfold rowsAt
        rw [List.take_add_one, e]; simp
      rw [this]; exact ⟨Nat.le_succ_of_le ih.1, ih.2⟩
    | some k =>
      rw [rowsAt_succ e]
      unfold rowStep
      split
      · simp only [List.length_append, List.length_singleton, List.length_replicate, and_true]; omega
      · simp only [List.length_set]; exact ⟨Nat.le_succ_of_le ih.1, ih.2⟩
 ); (rowsAt len b i).1.length ≤ i ∧ (rowsAt len b i).2.length = 7)
theorem rows_mod (len b b' : Int) (h : b % 7 = b' % 7) : rowsD len b = rowsD len b' :=
 (by intro h9x; exact h9x : have h9x : rowsD len b = rowsD len b' := (by
  have e : (fun one : Int => (b + one) % 7) = fun one => (b' + one) % 7 := by funext one; omega
  unfold rowsD rowsAt
  rw [e]
 ); rowsD len b = rowsD len b')
theorem cal_mod (s s' l : Int) (h : (s + 1) % 7 = (s' + 1) % 7) : calD s l = calD s' l :=
 (by intro h9x; exact h9x : have h9x : calD s l = calD s' l := (by
  unfold calD daysD; rw [h]
 ); calD s l = calD s' l)
theorem rows_cal (s l b : Int) (hl : l = 29 ∨ l = 30) (hb : (b + 1) % 7 = (s + 1) % 7) : rowsD l b = calD s l :=
 (by intro h9x; exact h9x : have h9x : rowsD l b = calD s l := (by
  have hr : s % 7 = 0 ∨ s % 7 = 1 ∨ s % 7 = 2 ∨ s % 7 = 3 ∨ s % 7 = 4 ∨ s % 7 = 5 ∨ s % 7 = 6 := by omega
  rw [rows_mod l b (s % 7) (by omega), cal_mod s (s % 7) l (by omega)]
  rcases hr with h | h | h | h | h | h | h <;> rw [h] <;> rcases hl with rfl | rfl <;> rfl
 ); rowsD l b = calD s l)
/-- the rows that are done, in the ledger -/
inductive RowsLed (rl : Led) : List Value → List (List PyData) → Prop
  | nil : RowsLed rl [] []
  | cons {T : Addr} {its : List Value} {n : Nat} {ds : List PyData} {ys : List Value} {dss : List (List PyData)} : (T, listOf its.toArray n) ∈ rl → CarriedAll its ds → RowsLed rl ys dss → RowsLed rl (.ref T :: ys) (ds :: dss)
theorem RowsLed.len {rl : Led} : ∀ {ys : List Value} {dss : List (List PyData)}, RowsLed rl ys dss → ys.length = dss.length
  | _, _, .nil => rfl
  | _, _, .cons _ _ r => by simp [r.len]
theorem RowsLed.mono {rl rl' : Led} (h : ∀ p ∈ rl, p ∈ rl') : ∀ {ys : List Value} {dss : List (List PyData)}, RowsLed rl ys dss → RowsLed rl' ys dss
  | _, _, .nil => .nil
  | _, _, .cons a b r => .cons (h _ a) b (r.mono h)
theorem RowsLed.snoc {rl : Led} {T : Addr} {its : List Value} {n : Nat} {ds : List PyData} (h : (T, listOf its.toArray n) ∈ rl) (c : CarriedAll its ds) : ∀ {ys : List Value} {dss : List (List PyData)}, RowsLed rl ys dss → RowsLed rl (ys ++ [Value.ref T]) (dss ++ [ds])
  | _, _, .nil => .cons h c .nil
  | _, _, .cons a b r => .cons a b (r.snoc h c)
theorem RowsLed.rows {h₀ h : Heap} {L : Addr} {rl news : Led} (N : News h₀ L h news) (hs : ∀ p ∈ rl, p ∈ news) : ∀ {ys : List Value} {dss : List (List PyData)}, RowsLed rl ys dss → RowsAre h ys dss
  | _, _, .nil => .nil
  | _, _, .cons a b r => .cons ⟨_, _, rfl, ⟨_, (N _ (hs _ a)).1, rfl, _, rfl⟩, b⟩ (r.rows N hs)
/-- what a turn of the loop leaves -/
inductive RowOut (h₀ : Heap) (L : Addr) (h' : Heap) (m' : Str → Option Value) (C R : Addr) (its ys : List Value) (n : Nat) (nw : Led) (xr : Str) (c : Nat) (k : Int) : Bool → Prop
  | keep {t : Tok} : m' xr = some (.ref C) → News h₀ L h' ((C, listOf (its.set c (.int k t)).toArray 0) :: (R, listOf ys.toArray n) :: nw) → RowOut h₀ L h' m' C R its ys n nw xr c k false
  | full {t : Tok} {C2 : Addr} {n' : Nat} : m' xr = some (.ref C2) → News h₀ L h' ((C2, listOf (List.replicate 7 Value.none).toArray 0) :: (C, listOf (its.set c (.int k t)).toArray 0) :: (R, listOf (ys ++ [Value.ref C]).toArray n') :: nw) →
      @LT.lt Nat _ C C2 → @LT.lt Nat _ R C2 → AllLt C2 nw → RowOut h₀ L h' m' C R its ys n nw xr c k true
structure RowEnd (h₀ : Heap) (L : Addr) (m₀ : Str → Option Value) (x xr xs xc : Str) (C R : Addr) (its ys : List Value) (n : Nat) (nw : Led) (c : Nat) (k : Int) (full : Bool) (s₁ s₂ : Shared) : Prop where
  out : ∃ h' tk m', s₂ = { s₁ with heap := h', toks := tk } ∧ Fr h₀ L h' m' ∧ m' xs = some (.ref R) ∧ (∀ z, z ≠ x → z ≠ xr → z ≠ xs → z ≠ xc → m' z = m₀ z) ∧ RowOut h₀ L h' m' C R its ys n nw xr c k full
def RowPost (h₀ : Heap) (L : Addr) (m₀ : Str → Option Value) (x xr xs xc : Str) (C R : Addr) (its ys : List Value) (n : Nat) (nw : Led) (c : Nat) (k : Int) (full : Bool) (s₁ : Shared) (f : Flow) (s₂ : Shared) : Prop :=
  f = .next ∧ RowEnd h₀ L m₀ x xr xs xc C R its ys n nw c k full s₁ s₂
/-- the state between two turns -/
structure RowSt (m₀ : Str → Option Value) (news₀ : Led) (x xr xs xc : Str) (st : List (List PyData) × List PyData) (m : Str → Option Value) (nx : Led) (C R : Addr) (its ys : List Value) (n : Nat) (rl : Led) : Prop where
  nx : nx = (C, listOf its.toArray 0) :: (R, listOf ys.toArray n) :: (rl ++ news₀)
  cr : C ≠ R
  c : ∀ p ∈ rl ++ news₀, p.1 ≠ C
  r : ∀ p ∈ rl ++ news₀, p.1 ≠ R
  cur : CarriedAll its st.2
  done : RowsLed rl ys st.1
  mr : m xr = some (.ref C)
  ms : m xs = some (.ref R)
  mo : ∀ z, z ≠ x → z ≠ xr → z ≠ xs → z ≠ xc → m z = m₀ z
theorem turnMap {m m₀ : Str → Option Value} {x xr xs xc : Str} {v : Value} {C R : Addr} (mr : m xr = some (.ref C)) (ms : m xs = some (.ref R)) (mo : ∀ z, z ≠ x → z ≠ xr → z ≠ xs → z ≠ xc → m z = m₀ z) :
    (fun z => if z = x then some v else m z) = fun z => if z = x then some v else if z = xr then some (.ref C) else if z = xs then some (.ref R) else if z = xc then m xc else m₀ z :=
 (by intro h9x; exact h9x : have h9x : (fun z => if z = x then some v else m z) = fun z => if z = x then some v else if z = xr then some (.ref C) else if z = xs then some (.ref R) else if z = xc then m xc else m₀ z := (by
  funext z
  by_cases h1 : z = x
  · rw [if_pos h1, if_pos h1]
  rw [if_neg h1, if_neg h1]
  by_cases h2 : z = xr
  · rw [if_pos h2, h2, mr]
  rw [if_neg h2]
  by_cases h3 : z = xs
  · rw [if_pos h3, h3, ms]
  rw [if_neg h3]
  by_cases h4 : z = xc
  · rw [if_pos h4, h4]
  rw [if_neg h4]
  exact mo z h1 h2 h3 h4
 ); (fun z => if z = x then some v else m z) = fun z => if z = x then some v else if z = xr then some (.ref C) else if z = xs then some (.ref R) else if z = xc then m xc else m₀ z)
theorem doneMap {m m₀ : Str → Option Value} {x xr xs xc : Str} {R : Addr} (ms : m xs = some (.ref R)) (mo : ∀ z, z ≠ x → z ≠ xr → z ≠ xs → z ≠ xc → m z = m₀ z) :
    m = fun z => if z = xs then some (.ref R) else if z = x then m x else if z = xr then m xr else if z = xc then m xc else m₀ z :=
 (by intro h9x; exact h9x : have h9x : m = fun z => if z = xs then some (.ref R) else if z = x then m x else if z = xr then m xr else if z = xc then m xc else m₀ z := (by
  funext z
  by_cases h3 : z = xs
  · rw [if_pos h3, h3, ms]
  rw [if_neg h3]
  by_cases h1 : z = x
  · rw [if_pos h1, h1]
  rw [if_neg h1]
  by_cases h2 : z = xr
  · rw [if_pos h2, h2]
  rw [if_neg h2]
  by_cases h4 : z = xc
  · rw [if_pos h4, h4]
  rw [if_neg h4]
  exact mo z h1 h2 h3 h4
 ); m = fun z => if z = xs then some (.ref R) else if z = x then m x else if z = xr then m xr else if z = xc then m xc else m₀ z)
section
variable {prog : Program} {w : World} {A : Around} {E : Value → Shared → Prop} {s : Shared} {env : Env} {h₀ : Heap} {x xr xs xc : Str} {body : List Stmt} {Q : Flow → Shared → Prop}
theorem rows_loop {r : Addr} {b₀ len b : Int} {t₀ u₀ v₀ : Tok} {m₀ : Str → Option Value} {news₀ : Led} {C₀ R₀ : Addr}
    (hh : A.handled = none) (hr : IsRange s.heap r 1 b₀ 1 t₀ u₀ v₀) (hb₀ : b₀ = len + 1) (hlen : 1 ≤ len ∧ len ≤ 30) (hsmall : Builtin.Range.small 1 b₀ 1 = true)
    (F : Fr h₀ env.locals s.heap m₀) (N : News h₀ env.locals s.heap ((C₀, listOf (List.replicate 7 Value.none).toArray 0) :: (R₀, listOf [].toArray 0) :: news₀))
    (hc0 : @LT.lt Nat _ R₀ C₀) (hc1 : AllLt C₀ news₀) (hc2 : AllLt R₀ news₀) (hmr : m₀ xr = some (.ref C₀)) (hms : m₀ xs = some (.ref R₀))
    (turn : ∀ (k : Int) (t : Tok) (C R : Addr) (its ys : List Value) (cur : List PyData) (n : Nat) (nw : Led) (u : Option Value) (h : Heap) (tk : Nat),
      1 ≤ k → k ≤ len → CarriedAll its cur → its.length = 7 → ys.length ≤ 30 → C ≠ R → (∀ p ∈ nw, p.1 ≠ C) → (∀ p ∈ nw, p.1 ≠ R) →
      Fr h₀ env.locals h (fun z => if z = x then some (.int k t) else if z = xr then some (.ref C) else if z = xs then some (.ref R) else if z = xc then u else m₀ z) →
      News h₀ env.locals h ((C, listOf its.toArray 0) :: (R, listOf ys.toArray n) :: nw) →
      wpAny (model prog w) A (execs body env) (fun f s₂ => RowPost h₀ env.locals m₀ x xr xs xc C R its ys n nw ((b + k) % 7).toNat k (decide ((b + k) % 7 = 6 ∨ k = len)) { s with heap := h, toks := tk } f s₂) E { s with heap := h, toks := tk })
    (done : ∀ (R : Addr) (ys : List Value) (n : Nat) (rl : Led) (u1 u2 u3 : Option Value) (h : Heap) (tk : Nat), RowsLed rl ys (rowsD len b) →
      Fr h₀ env.locals h (fun z => if z = xs then some (.ref R) else if z = x then u1 else if z = xr then u2 else if z = xc then u3 else m₀ z) →
      News h₀ env.locals h ((R, listOf ys.toArray n) :: (rl ++ news₀)) → Q .next { s with heap := h, toks := tk }) :
    wpAny (model prog w) A (pyIter (.ref r)) (fun it s₂ => LoopAtV prog w A h₀ env x body Q E it s₂) E s := by
  have hn : Builtin.Range.rangeSize 1 b₀ 1 = ((len.toNat : Nat) : Int) := by
    unfold Builtin.Range.rangeSize
    split <;> split <;> omega
  refine tbr_invG (fun i m nx => ∃ C R its ys n rl, RowSt m₀ news₀ x xr xs xc (rowsAt len b i) m nx C R its ys n rl) hh hr hsmall hn F N ?_ ?_ ?_
  · refine ⟨C₀, R₀, _, _, _, [], rfl, Nat.ne_of_gt hc0, ?_, ?_, carried_none 7, .nil, hmr, hms, fun _ _ _ _ _ => rfl⟩
    · exact fun p hp => Nat.ne_of_lt (tb_ltOf hc1 p hp)
    · exact fun p hp => Nat.ne_of_lt (tb_ltOf hc2 p hp)
  · rintro i k t m₁ nx h tk own hk hoff ⟨C, R, its, ys, n, rl, ⟨rfl, cr, hC, hR, cur, don, mr, ms, mo⟩⟩ F₁ N₁
    have hkb := mem_rangeKs (List.mem_of_getElem? hk)
    have hi : i < len.toNat := by
      have := (List.getElem?_eq_some_iff.mp hk).1
      rwa [rangeKs_length] at this
    have hl := rowsAt_len (len := len) (b := b) i
    rw [turnMap mr ms mo] at F₁
    have e : ((C, listOf its.toArray 0) :: (R, listOf ys.toArray n) :: (rl ++ news₀)) ++ own = (C, listOf its.toArray 0) :: (R, listOf ys.toArray n) :: (rl ++ news₀ ++ own) := by simp
    rw [e] at N₁
    have oC : ∀ p ∈ own, p.1 ≠ C := fun p hp => hoff p hp _ (.head _)
    have oR : ∀ p ∈ own, p.1 ≠ R := fun p hp => hoff p hp _ (.tail _ (.head _))
    have hnC : ∀ p ∈ rl ++ news₀ ++ own, p.1 ≠ C := fun p hp => (List.mem_append.mp hp).elim (hC p) (oC p)
    have hnR : ∀ p ∈ rl ++ news₀ ++ own, p.1 ≠ R := fun p hp => (List.mem_append.mp hp).elim (hR p) (oR p)
    have := turn k t C R its ys _ n (rl ++ news₀ ++ own) (m₁ xc) h tk hkb.1 (by omega) cur (by rw [cur.length_eq]; exact hl.2) (by rw [don.len]; omega) cr hnC hnR F₁ N₁
    refine wpAny_mono this (fun f s₂ p => ?_) fun _ _ e => e
    obtain ⟨rfl, ⟨h', tk', m', rfl, F', ms', mo', out⟩⟩ := p
    show TbEnd _ _ _ _ _ _
    cases hf : decide ((b + k) % 7 = 6 ∨ k = len) with
    | false =>
      rw [hf] at out
      cases out with
      | @keep t' mr' N' =>
        have es : rowsAt len b (i + 1) = ((rowsAt len b i).1, (rowsAt len b i).2.set ((b + k) % 7).toNat (.int k)) := by
          rw [rowsAt_succ hk]; unfold rowStep; rw [if_neg (of_decide_eq_false hf)]
        refine ⟨h', tk', m', _, (C, listOf (its.set ((b + k) % 7).toNat (.int k t')).toArray 0) :: (R, listOf ys.toArray n) :: (rl ++ news₀), rfl, F', N', ?_, ?_, ?_, C, R, _, ys, n, rl, rfl, cr, hC, hR, ?_, ?_, mr', ms', mo'⟩
        · intro p hp
          rcases List.mem_cons.mp hp with rfl | hp
          · exact .head _
          rcases List.mem_cons.mp hp with rfl | hp
          · exact .tail _ (.head _)
          · exact .tail _ (.tail _ (List.mem_append.mpr (.inl hp)))
        · exact fun p hp => .tail _ (.tail _ (List.mem_append.mpr (.inr hp)))
        · intro p hp q hq
          rcases List.mem_cons.mp hq with rfl | hq
          · exact oC p hp
          rcases List.mem_cons.mp hq with rfl | hq
          · exact oR p hp
          · exact hoff p hp q (.tail _ (.tail _ hq))
        · rw [es]; exact carried_set cur _
        · rw [es]; exact don
    | true =>
      rw [hf] at out
      cases out with
      | @full t' C2 n' mr' N' l1 l2 l3 =>
        have es : rowsAt len b (i + 1) = ((rowsAt len b i).1 ++ [(rowsAt len b i).2.set ((b + k) % 7).toNat (.int k)], List.replicate 7 .none) := by
          rw [rowsAt_succ hk]; unfold rowStep; rw [if_pos (of_decide_eq_true hf)]
        have l3' : ∀ p ∈ rl ++ news₀ ++ own, @LT.lt Nat _ p.1 C2 := tb_ltOf l3
        refine ⟨h', tk', m', _, (C2, listOf (List.replicate 7 Value.none).toArray 0) :: (R, listOf (ys ++ [Value.ref C]).toArray n') :: ((C, listOf (its.set ((b + k) % 7).toNat (.int k t')).toArray 0) :: rl ++ news₀), rfl, F', N', ?_, ?_, ?_, C2, R, _, _, n', (C, listOf (its.set ((b + k) % 7).toNat (.int k t')).toArray 0) :: rl, rfl, Nat.ne_of_gt l2, ?_, ?_, ?_, ?_, mr', ms', mo'⟩
        · intro p hp
          rcases List.mem_cons.mp hp with rfl | hp
          · exact .head _
          rcases List.mem_cons.mp hp with rfl | hp
          · exact .tail _ (.tail _ (.head _))
          rcases List.mem_cons.mp hp with rfl | hp
          · exact .tail _ (.head _)
          · exact .tail _ (.tail _ (.tail _ (List.mem_append.mpr (.inl hp))))
        · exact fun p hp => .tail _ (.tail _ (.tail _ (List.mem_append.mpr (.inr hp))))
        · intro p hp q hq
          rcases List.mem_cons.mp hq with rfl | hq
          · exact Nat.ne_of_lt (l3' p (List.mem_append.mpr (.inr hp)))
          rcases List.mem_cons.mp hq with rfl | hq
          · exact oR p hp
          rcases List.mem_cons.mp hq with rfl | hq
          · exact oC p hp
          · exact hoff p hp q (.tail _ (.tail _ hq))
        · intro p hp
          rcases List.mem_cons.mp hp with rfl | hp
          · exact Nat.ne_of_lt l1
          · exact Nat.ne_of_lt (l3' p (List.mem_append.mpr (.inl hp)))
        · intro p hp
          rcases List.mem_cons.mp hp with rfl | hp
          · exact cr
          · exact hR p hp
        · rw [es]; exact carried_none 7
        · rw [es]; exact (don.mono (fun p hp => .tail _ hp)).snoc (.head _) (carried_set cur _)
  · rintro m₁ nx h tk ⟨C, R, its, ys, n, rl, ⟨rfl, cr, hC, hR, cur, don, mr, ms, mo⟩⟩ F₁ N₁
    rw [doneMap ms mo] at F₁
    exact done R ys n rl _ _ _ h tk don F₁ fun p hp => N₁ p (.tail _ hp)
end
end AK
namespace AK
section
variable {prog : Program} {w : World} {A : Around} {E : Value → Shared → Prop} {s : Shared} {h₀ : Heap} {L : Addr} {m : Str → Option Value} {news news' : Led}
theorem r_setC {D : Addr} {vs : List Value} {n : Nat} {k x : Int} {t u : Tok} {Q : Unit → Shared → Prop} (F : Fr h₀ L s.heap m) (N : News h₀ L s.heap news) (U : Upd D (listOf vs.toArray n) (listOf (vs.set k.toNat (.int x u)).toArray n) news news') (h0 : 0 ≤ k) (h1 : k < vs.length) (hfit : k < 2 ^ 63)
    (h : ∀ h', Fr h₀ L h' m → News h₀ L h' news' → Q () { s with heap := h' }) : wpAny (model prog w) A (setItem (.ref D) (.int k t) (.int x u)) Q E s :=
 (by intro h9x; exact h9x : have h9x : wpAny (model prog w) A (setItem (.ref D) (.int k t) (.int x u)) Q E s := (by
  obtain ⟨pre, post, rfl, rfl, a, b⟩ := U.split
  have z := N (D, listOf vs.toArray n) (List.mem_append.mpr (.inr (.head _)))
  refine ki_setAt z.1 h0 hfit (by simpa using h1) (h _ (F.change (Heap.SameBut.update ..) z.2.1 z.2.2) (ki_turn _ N a b ?_ ?_))
  · apply Array.toList_inj.mp
    simp
  · simp
 ); wpAny (model prog w) A (setItem (.ref D) (.int k t) (.int x u)) Q E s)
theorem r_appC {D : Addr} {vs : List Value} {n : Nat} {x : Value} {Q : Value → Shared → Prop} (F : Fr h₀ L s.heap m) (N : News h₀ L s.heap news) (U : Upd D (listOf vs.toArray n) (listOf (vs ++ [x]).toArray (n + 1)) news news') (hs : vs.length ≤ 30)
    (h : ∀ h', Fr h₀ L h' m → News h₀ L h' news' → Q .none { s with heap := h' }) : wpAny (model prog w) A (call (.builtin "list.append") [.ref D, x]) Q E s :=
 (by intro h9x; exact h9x : have h9x : wpAny (model prog w) A (call (.builtin "list.append") [.ref D, x]) Q E s := (by
  have e : (vs ++ [x]).toArray = vs.toArray.push x := by simp
  rw [e] at U
  exact append_K F N U h (by rw [List.size_toArray, sizeLine_eq]; omega)
 ); wpAny (model prog w) A (call (.builtin "list.append") [.ref D, x]) Q E s)
theorem canLayIN : ∀ (ds : List PyData), (∀ d ∈ ds, IN d) → PyData.canLayAll0 ds = true ∧ PyData.depthAll ds = 0
  | [], _ => ⟨rfl, rfl⟩
  | d :: r, h => by
    have ih := canLayIN r (fun x hx => h x (.tail _ hx))
    rcases h d (.head _) with rfl | ⟨i, rfl⟩ <;> simp [PyData.canLayAll0, PyData.canLay0, PyData.depthAll, PyData.depth, ih]
theorem canLayRows : ∀ (dss : List (List PyData)), (∀ ds ∈ dss, ∀ d ∈ ds, IN d) → PyData.canLayAll0 (dss.map .list) = true ∧ PyData.depthAll (dss.map .list) ≤ 1
  | [], _ => ⟨rfl, Nat.zero_le _⟩
  | ds :: r, h => by
    have ih := canLayRows r (fun x hx => h x (.tail _ hx))
    have a := canLayIN ds (h ds (.head _))
    simp only [List.map_cons, PyData.canLayAll0, PyData.canLay0, PyData.depthAll, PyData.depth, a, ih, Bool.and_self, true_and]
    omega
theorem rows_shaped (dss : List (List PyData)) (h : ∀ ds ∈ dss, ∀ d ∈ ds, IN d) : SeqAt.shaped (.list (dss.map .list)) = true :=
 (by intro h9x; exact h9x : have h9x : SeqAt.shaped (.list (dss.map .list)) = true := (by
  have a := canLayRows dss h
  unfold SeqAt.shaped
  simp only [PyData.canLay0, PyData.depth, a, Bool.true_and]
  exact decide_eq_true (by omega)
 ); SeqAt.shaped (.list (dss.map .list)) = true)
theorem reads_rows {h : Heap} : ∀ {ys : List Value} {dss : List (List PyData)}, RowsAre h ys dss → ∃ as, ReadsAll h ys (dss.map .list) as
  | _, _, .nil => ⟨_, .nil⟩
  | _, _, .cons ⟨T, its, e, hl, c⟩ r => by
    obtain ⟨as, ra⟩ := reads_rows r
    subst e
    exact ⟨_, .cons (reads_newData (ys := its.toList) (by simpa using hl) c) ra⟩
theorem r_calNe {D D2 : Addr} {ys ys2 : List Value} {dss : List (List PyData)} {Q : Value → Shared → Prop} (hl : s.heap.IsList D ys.toArray) (hl2 : s.heap.IsList D2 ys2.toArray) (hds : ∀ ds ∈ dss, ∀ d ∈ ds, IN d) (hu : A.units + 64 < cLine) (h1 : RowsAre s.heap ys dss) (h2 : RowsAre s.heap ys2 dss)
    (h : Q (.bool false) s) : wpAny (model prog w) A (compareOp .NotEq (.ref D) (.ref D2)) Q E s :=
 (by intro h9x; exact h9x : have h9x : wpAny (model prog w) A (compareOp .NotEq (.ref D) (.ref D2)) Q E s := (by
  obtain ⟨as, ra⟩ := reads_rows h1
  obtain ⟨bs, rb⟩ := reads_rows h2
  have sh := rows_shaped dss hds
  refine ne_dataH (reads_newLists hl ra) (reads_newLists hl2 rb) sh sh hu ?_
  rw [SeqAt.eqv_refl _ (SeqAt.canLay_of_shaped sh)]
  exact h
 ); wpAny (model prog w) A (compareOp .NotEq (.ref D) (.ref D2)) Q E s)
end
section
variable {h₀ h' : Heap} {L : Addr} {m₀ m' : Str → Option Value} {x xr xs xc : Str} {C C2 R : Addr} {its ys : List Value} {n n' : Nat} {nw : Led} {c : Nat} {k : Int} {s₁ : Shared} {tk' : Nat} {t : Tok} {P : Prop} [Decidable P] {itsA zA : Array Value}
theorem row_keep (hf : ¬ P) (F : Fr h₀ L h' m') (ms : m' xs = some (.ref R)) (mo : ∀ z, z ≠ x → z ≠ xr → z ≠ xs → z ≠ xc → m' z = m₀ z) (mr : m' xr = some (.ref C))
    (N : News h₀ L h' ((C, listOf itsA 0) :: (R, listOf ys.toArray n) :: nw)) (hi : itsA = (its.set c (.int k t)).toArray) : RowPost h₀ L m₀ x xr xs xc C R its ys n nw c k (decide P) s₁ .next { s₁ with heap := h', toks := tk' } :=
 (by intro h9x; exact h9x : have h9x : RowPost h₀ L m₀ x xr xs xc C R its ys n nw c k (decide P) s₁ .next { s₁ with heap := h', toks := tk' } := (by
  subst hi
  rw [decide_eq_false hf]
  exact ⟨rfl, ⟨h', tk', m', rfl, F, ms, mo, .keep mr N⟩⟩
 ); RowPost h₀ L m₀ x xr xs xc C R its ys n nw c k (decide P) s₁ .next { s₁ with heap := h', toks := tk' })
theorem row_full (hf : P) (F : Fr h₀ L h' m') (ms : m' xs = some (.ref R)) (mo : ∀ z, z ≠ x → z ≠ xr → z ≠ xs → z ≠ xc → m' z = m₀ z) (mr : m' xr = some (.ref C2))
    (N : News h₀ L h' ((C2, listOf zA 0) :: (C, listOf itsA 0) :: (R, listOf (ys ++ [Value.ref C]).toArray n') :: nw)) (hi : itsA = (its.set c (.int k t)).toArray) (hz : zA = (List.replicate 7 Value.none).toArray)
    (l : AllLt C2 ((C, listOf itsA 0) :: (R, listOf (ys ++ [Value.ref C]).toArray n') :: nw)) : RowPost h₀ L m₀ x xr xs xc C R its ys n nw c k (decide P) s₁ .next { s₁ with heap := h', toks := tk' } :=
 (by intro h9x; exact h9x : have h9x : RowPost h₀ L m₀ x xr xs xc C R its ys n nw c k (decide P) s₁ .next { s₁ with heap := h', toks := tk' } := (by
  subst hi hz
  rw [decide_eq_true hf]
  exact ⟨rfl, ⟨h', tk', m', rfl, F, ms, mo, .full mr N l.1 l.2.1 l.2.2⟩⟩
 ); RowPost h₀ L m₀ x xr xs xc C R its ys n nw c k (decide P) s₁ .next { s₁ with heap := h', toks := tk' })
end
theorem news_app {h₀ h : Heap} {L : Addr} {q : Addr × Obj} {rl l : Led} (N : News h₀ L h (q :: (rl ++ l))) : News h₀ L h l := fun p hp => N p (.tail _ (List.mem_append.mpr (.inr hp)))
theorem rows_at {h₀ h : Heap} {L : Addr} {q : Addr × Obj} {rl l : Led} {ys : List Value} {dss : List (List PyData)} (N : News h₀ L h (q :: (rl ++ l))) (r : RowsLed rl ys dss) : RowsAre h ys dss := r.rows N fun _ hp => .tail _ (List.mem_append.mpr (.inl hp))
end AK
end

section
namespace AK
theorem yd11 (y : Int) : ydG y 1 1 = 1 := by unfold ydG ladj; rw [if_pos (by decide)]; omega
theorem yd12 (y : Int) : ydG y 12 1 = (if leapG y = true then 366 else 365) - 30 :=
 (by intro h9x; exact h9x : have h9x : ydG y 12 1 = (if leapG y = true then 366 else 365) - 30 := (by
  unfold ydG ladj; rw [if_neg (by decide)]
  split <;> omega
 ); ydG y 12 1 = (if leapG y = true then 366 else 365) - 30)
theorem dim12 (y : Int) : dimG y 12 = 31 :=
 (by intro h9x; exact h9x : have h9x : dimG y 12 = 31 := (by
  unfold dimG; rw [if_neg (by decide), if_neg (by decide)]
 ); dimG y 12 = 31)
theorem next_day {y m d : Int} (h : IsDate y m d) : ∃ y' m' d', IsDate y' m' d' ∧ gJ y' m' d' = gJ y m d + 1 :=
 (by intro h9x; exact h9x : have h9x : ∃ y' m' d', IsDate y' m' d' ∧ gJ y' m' d' = gJ y m d + 1 := (by
  obtain ⟨m1, m2, d1, d2⟩ := h
  have e := yd_day y m d
  by_cases c : d < dimG y m
  · exact ⟨y, m, d + 1, ⟨m1, m2, by omega, by omega⟩, by have := yd_day y m (d + 1); unfold gJ; omega⟩
  by_cases c2 : m < 12
  · have q := yd_next y m m1 (by omega)
    have := dimG_pos y (m + 1)
    exact ⟨y, m + 1, 1, ⟨by omega, by omega, by omega, by omega⟩, by unfold gJ; omega⟩
  · have hm : m = 12 := by omega
    subst hm
    have a := yd12 y
    have b := dim12 y
    have l := janG_leap y
    have f := yd11 (y + 1)
    have := dimG_pos (y + 1) 1
    exact ⟨y + 1, 1, 1, ⟨by omega, by omega, by omega, by omega⟩, by unfold gJ; omega⟩
 ); ∃ y' m' d', IsDate y' m' d' ∧ gJ y' m' d' = gJ y m d + 1)
theorem prev_day {y m d : Int} (h : IsDate y m d) : ∃ y' m' d', IsDate y' m' d' ∧ gJ y' m' d' = gJ y m d - 1 :=
 (by intro h9x; exact h9x : have h9x : ∃ y' m' d', IsDate y' m' d' ∧ gJ y' m' d' = gJ y m d - 1 := (by
  obtain ⟨m1, m2, d1, d2⟩ := h
  have e := yd_day y m d
  by_cases c : 1 < d
  · exact ⟨y, m, d - 1, ⟨m1, m2, by omega, by omega⟩, by have := yd_day y m (d - 1); unfold gJ; omega⟩
  by_cases c2 : 1 < m
  · have q := yd_next y (m - 1) (by omega) (by omega)
    have e2 := yd_day y (m - 1) (dimG y (m - 1))
    have := dimG_pos y (m - 1)
    rw [show m - 1 + 1 = m by omega] at q
    exact ⟨y, m - 1, dimG y (m - 1), ⟨by omega, by omega, by omega, by omega⟩, by unfold gJ; omega⟩
  · have hm : m = 1 := by omega
    subst hm
    have a := yd12 (y - 1)
    have b := dim12 (y - 1)
    have l := janG_leap (y - 1)
    have f := yd11 y
    have e2 := yd_day (y - 1) 12 31
    rw [show y - 1 + 1 = y by omega] at l
    exact ⟨y - 1, 12, 31, ⟨by omega, by omega, by omega, by omega⟩, by unfold gJ; omega⟩
 ); ∃ y' m' d', IsDate y' m' d' ∧ gJ y' m' d' = gJ y m d - 1)
theorem up_day (k : Nat) : ∃ y m d, IsDate y m d ∧ gJ y m d = 1 + (k : Int) :=
 (by intro h9x; exact h9x : have h9x : ∃ y m d, IsDate y m d ∧ gJ y m d = 1 + (k : Int) := (by
  induction k with
  | zero => exact ⟨1, 1, 1, first_date (by decide), by decide⟩
  | succ k ih =>
    obtain ⟨y, m, d, h, e⟩ := ih
    obtain ⟨y', m', d', h', e'⟩ := next_day h
    exact ⟨y', m', d', h', by omega⟩
 ); ∃ y m d, IsDate y m d ∧ gJ y m d = 1 + (k : Int))
theorem down_day (k : Nat) : ∃ y m d, IsDate y m d ∧ gJ y m d = 1 - (k : Int) :=
 (by intro h9x; exact h9x : have h9x : ∃ y m d, IsDate y m d ∧ gJ y m d = 1 - (k : Int) := (by
  induction k with
  | zero => exact ⟨1, 1, 1, first_date (by decide), by decide⟩
  | succ k ih =>
    obtain ⟨y, m, d, h, e⟩ := ih
    obtain ⟨y', m', d', h', e'⟩ := prev_day h
    exact ⟨y', m', d', h', by omega⟩
 ); ∃ y m d, IsDate y m d ∧ gJ y m d = 1 - (k : Int))
/-- every day has a Gregorian date -/
theorem greg_ex (n : Int) : ∃ y m d, IsDate y m d ∧ n = numG y m d :=
 (by intro h9x; exact h9x : have h9x : ∃ y m d, IsDate y m d ∧ n = numG y m d := (by
  unfold numG
  by_cases c : 1721426 ≤ n
  · obtain ⟨y, m, d, h, e⟩ := up_day (n - 1721426).toNat
    exact ⟨y, m, d, h, by omega⟩
  · obtain ⟨y, m, d, h, e⟩ := down_day (1721426 - n).toNat
    exact ⟨y, m, d, h, by omega⟩
 ); ∃ y m d, IsDate y m d ∧ n = numG y m d)
theorem greg_bd {y m d n : Int} (h : IsDate y m d) (e : n = numG y m d) (hn : -12000000 < n ∧ n < 13000000) : y.natAbs < 40000 :=
 (by intro h9x; exact h9x : have h9x : y.natAbs < 40000 := (by
  unfold numG at e
  have a := in_yearG h
  have j1 : 14600000 ≤ janG 40000 := by decide
  have j2 : janG (-39999) ≤ -14600000 := by decide
  by_cases c : 40000 ≤ y
  · have := janG_mono c; omega
  by_cases c2 : y + 1 ≤ -39999
  · have := janG_mono c2; omega
  omega
 ); y.natAbs < 40000)
theorem iso_ok {n T Y m4 d4 y m d wk : Int} (h4 : IsDate Y m4 d4) (h : IsDate y m d) (eT : T = n - n % 7 + 3) (e4 : T = numG Y m4 d4) (e : n = numG y m d) (ew : wk = (T - (janG Y + 1721426)) / 7 + 1) :
    (0 < wk ∧ wk ≤ 60) ∧ (n % 7 + 1) + 7 * wk + (janG Y - 4) - (1721415 + janG Y) % 7 = gJ y m d :=
 (by intro h9x; exact h9x : have h9x : (0 < wk ∧ wk ≤ 60) ∧ (n % 7 + 1) + 7 * wk + (janG Y - 4) - (1721415 + janG Y) % 7 = gJ y m d := (by
  unfold numG at e4 e
  have a := in_yearG h4
  have b := janG_step Y
  omega
 ); (0 < wk ∧ wk ≤ 60) ∧ (n % 7 + 1) + 7 * wk + (janG Y - 4) - (1721415 + janG Y) % 7 = gJ y m d)
/-- a mark: the walk rests once at the named place -/
def StopAt (_name : String) : Prop := True
/-- the numbers that the law takes -/
def cutN (k : Int) : Int := if -10000000 < k ∧ k < 10000000 then k else if -10000000 < k ∧ ¬k < 10000000 then k % 10000000 else k % 10000000
theorem cutN_bd (k : Int) : (cutN k).natAbs < 10000000 :=
 (by intro h9x; exact h9x : have h9x : (cutN k).natAbs < 10000000 := (by
  unfold cutN
  split
  · omega
  · split <;> omega
 ); (cutN k).natAbs < 10000000)
theorem nums_bd (ns : List Int) (i : Nat) (h : i < 3) : ((List.map cutN (List.take 3 ns) ++ [0, 0, 0]).getD i 0).natAbs < 10000000 :=
 (by intro h9x; exact h9x : have h9x : ((List.map cutN (List.take 3 ns) ++ [0, 0, 0]).getD i 0).natAbs < 10000000 := (by
  rw [List.getD_eq_getElem?_getD]
  cases e : (List.map cutN (List.take 3 ns) ++ [0, 0, 0])[i]? with
  | none => decide
  | some x =>
    have hm := List.mem_of_getElem? e
    rcases List.mem_append.mp hm with hm | hm
    · obtain ⟨k, _, rfl⟩ := List.mem_map.mp hm
      exact cutN_bd k
    · simp at hm; subst hm; decide
 ); ((List.map cutN (List.take 3 ns) ++ [0, 0, 0]).getD i 0).natAbs < 10000000)
theorem nums_len (ns : List Int) : 3 ≤ (List.map cutN (List.take 3 ns) ++ [0, 0, 0]).length := by simp
theorem firsts {z a N : Int} (hz : 0 ≤ z ∧ z ≤ 4) (ha : a.natAbs < 10000000) (e : N = [347998, 584283, 1922868, 2117212, 2375840].getD z.toNat 0 + if a < 0 then -a else a) :
    (347998 ≤ N ∧ N ≤ 12375839) ∧ (0 < z → 584283 ≤ N) ∧ (1 < z → 1922868 ≤ N) ∧ (2 < z → 2117212 ≤ N) ∧ (3 < z → 2375840 ≤ N) :=
 (by intro h9x; exact h9x : have h9x : (347998 ≤ N ∧ N ≤ 12375839) ∧ (0 < z → 584283 ≤ N) ∧ (1 < z → 1922868 ≤ N) ∧ (2 < z → 2117212 ≤ N) ∧ (3 < z → 2375840 ≤ N) := (by
  have hz' : z = 0 ∨ z = 1 ∨ z = 2 ∨ z = 3 ∨ z = 4 := by omega
  rcases hz' with rfl | rfl | rfl | rfl | rfl <;> simp at e <;> split at e <;> omega
 ); (347998 ≤ N ∧ N ≤ 12375839) ∧ (0 < z → 584283 ≤ N) ∧ (1 < z → 1922868 ≤ N) ∧ (2 < z → 2117212 ≤ N) ∧ (3 < z → 2375840 ≤ N))
theorem heb_ex {N : Int} (h : 347998 ≤ N ∧ N ≤ 12375839) : ∃ y m d, (1 ≤ y ∧ y ≤ 34000) ∧ IsHDate y m d ∧ N = jdH y m d + 1 :=
 (by intro h9x; exact h9x : have h9x : ∃ y m d, (1 ≤ y ∧ y ≤ 34000) ∧ IsHDate y m d ∧ N = jdH y m d + 1 := (by
  obtain ⟨y, m, d, hy, hd, e⟩ := date_ex (N - 347998).toNat
  exact ⟨y, m, d, ⟨hy, year_bound hd hy (by omega)⟩, hd, by omega⟩
 ); ∃ y m d, (1 ≤ y ∧ y ≤ 34000) ∧ IsHDate y m d ∧ N = jdH y m d + 1)
theorem jd_num {y m d N hy hm hd : Int} (e1 : N = numG y m d) (e2 : N = jdH hy hm hd + 1) : 6885698 + 4 * gJ y m d = 4 * jdH hy hm hd + 2 := by unfold numG at e1; omega
theorem news_head {h₀ h : Heap} {L : Addr} {p : Addr × Obj} {r : Led} (N : News h₀ L h (p :: r)) : News h₀ L h [p] := fun q hq => by
  obtain rfl := List.mem_singleton.mp hq
  exact N _ (.head _)
theorem news_snd {h₀ h : Heap} {L : Addr} {p q : Addr × Obj} {r : Led} (N : News h₀ L h (q :: p :: r)) : News h₀ L h [p] := news_head (fun x hx => N x (.tail _ hx))
theorem news_two {h₀ h : Heap} {L : Addr} {p q : Addr × Obj} {r : Led} (N : News h₀ L h (q :: p :: r)) : News h₀ L h [q, p] := fun x hx => by
  rcases List.mem_cons.mp hx with rfl | hx
  · exact N _ (.head _)
  · obtain rfl := List.mem_singleton.mp hx
    exact N _ (.tail _ (.head _))
/-- a statement's end: nothing has changed -/
def Same (h₀ : Heap) (L : Addr) (m : Str → Option Value) (news : Led) (s : Shared) (f : Flow) (s' : Shared) : Prop :=
  f = .next ∧ ∃ (h : Heap) (tk : Nat), s' = { s with heap := h, toks := tk } ∧ Fr h₀ L h m ∧ News h₀ L h news
/-- a statement's end: one name may have changed -/
def SameBut (x : Str) (h₀ : Heap) (L : Addr) (m : Str → Option Value) (news : Led) (s : Shared) (f : Flow) (s' : Shared) : Prop :=
  f = .next ∧ ∃ (o : Option Value) (h : Heap) (tk : Nat), s' = { s with heap := h, toks := tk } ∧ Fr h₀ L h (fun z => if z = x then o else m z) ∧ News h₀ L h news
section
variable {M : Model} {A : Around} {E : Value → Shared → Prop} {s : Shared} {env : Env} {h₀ h h' : Heap} {L : Addr} {m : Str → Option Value} {news news' : Led} {x : Str} {tk : Nat}
theorem cut_same {st : Stmt} {Q : Flow → Shared → Prop} (F : Fr h₀ L s.heap m) (N : News h₀ L s.heap news)
    (h1 : wpAny M A (exec st env) (fun f s₂ => Same h₀ L m news s f s₂) E s)
    (h2 : ∀ (h : Heap) (tk : Nat), Fr h₀ L h m → News h₀ L h news → Q .next { s with heap := h, toks := tk }) : wpAny M A (exec st env) Q E s :=
 (by intro h9x; exact h9x : have h9x : wpAny M A (exec st env) Q E s := (by
  refine wpAny_mono h1 (fun f s₂ hq => ?_) fun _ _ h => h
  obtain ⟨rfl, h, tk, rfl, F, N⟩ := hq
  exact h2 h tk F N
 ); wpAny M A (exec st env) Q E s)
theorem end_same (F : Fr h₀ L h' m) (N : News h₀ L h' news') (hn : ∀ p ∈ news, p ∈ news') : Same h₀ L m news s .next { s with heap := h', toks := tk } :=
  ⟨rfl, h', tk, rfl, F, fun p hp => N p (hn p hp)⟩
theorem cut_but {st : Stmt} {Q : Flow → Shared → Prop} (x : Str) (F : Fr h₀ L s.heap m) (N : News h₀ L s.heap news)
    (h1 : wpAny M A (exec st env) (fun f s₂ => SameBut x h₀ L m news s f s₂) E s)
    (h2 : ∀ (o : Option Value) (h : Heap) (tk : Nat), Fr h₀ L h (fun z => if z = x then o else m z) → News h₀ L h news → Q .next { s with heap := h, toks := tk }) : wpAny M A (exec st env) Q E s :=
 (by intro h9x; exact h9x : have h9x : wpAny M A (exec st env) Q E s := (by
  refine wpAny_mono h1 (fun f s₂ hq => ?_) fun _ _ h => h
  obtain ⟨rfl, o, h, tk, rfl, F, N⟩ := hq
  exact h2 o h tk F N
 ); wpAny M A (exec st env) Q E s)
theorem end_but {o : Option Value} (F : Fr h₀ L h' (fun z => if z = x then o else m z)) (N : News h₀ L h' news') (hn : ∀ p ∈ news, p ∈ news') : SameBut x h₀ L m news s .next { s with heap := h', toks := tk } :=
  ⟨rfl, o, h', tk, rfl, F, fun p hp => N p (hn p hp)⟩
theorem end_but0 (F : Fr h₀ L h' m) (N : News h₀ L h' news') (hn : ∀ p ∈ news, p ∈ news') : SameBut x h₀ L m news s .next { s with heap := h', toks := tk } :=
 (by intro h9x; exact h9x : have h9x : SameBut x h₀ L m news s .next { s with heap := h', toks := tk } := (by
  refine ⟨rfl, m x, h', tk, rfl, ?_, fun p hp => N p (hn p hp)⟩
  have e : (fun z => if z = x then m x else m z) = m := by
    funext z
    by_cases hz : z = x
    · rw [if_pos hz, hz]
    · rw [if_neg hz]
  rw [e]; exact F
 ); SameBut x h₀ L m news s .next { s with heap := h', toks := tk })
end
theorem cal_rows {len N hy hm hd : Int} (hl : len = 29 ∨ len = 30) (el : len = mlenH hy hm) (eH : N = jdH hy hm hd + 1) : rowsD len (N - hd + 1) = calD ((jdH hy hm 1 + 1) % 7) (mlenH hy hm) :=
 (by intro h9x; exact h9x : have h9x : rowsD len (N - hd + 1) = calD ((jdH hy hm 1 + 1) % 7) (mlenH hy hm) := (by
  rw [← el]
  refine rows_cal _ _ _ hl ?_
  unfold jdH at eH ⊢
  omega
 ); rowsD len (N - hd + 1) = calD ((jdH hy hm 1 + 1) % 7) (mlenH hy hm))
/-- a goal by a name -/
theorem named {P : Prop} (k : ∀ Q : Prop, Q = P → Q) : P := k P rfl
theorem mp {R Q : Prop} (h : R → Q) (r : R) : Q := h r
def Tag {P : Prop} (_h : P) : Prop := P
theorem tag {P : Prop} (h : P) : Tag h := h
end AK
end

section
local macro_rules | `(tactic| walk_at "AK lt") => `(tactic| first | k_asm | exact AK.and2 (by k_asm) | exact AK.and3 (by k_asm) | exact PySem.W.allLt_of (by k_asm) | exact AK.allLt_sub (by k_asm) (by walk_at "AK sub"))
local macro_rules | `(tactic| walk_at "AK endT3") => `(tactic| (refine AK.endT3' (by assumption) ?_ ?_ ?_ (by k_asm) (by k_asm) (by walk_at "AK sub") (by walk_at "AK lt")))
local macro_rules | `(tactic| walk_at "AK lt") => `(tactic| first | exact AK.and2 (by k_asm) | exact AK.and3 (by k_asm) | exact AK.and4 (by k_asm) | exact AK.and5 (by k_asm) | exact AK.and6 (by k_asm) | exact AK.and7 (by k_asm) | exact AK.and8 (by k_asm) | exact AK.and9 (by k_asm) | exact AK.and10 (by k_asm) | exact AK.and11 (by k_asm) | exact AK.and12 (by k_asm) | k_asm | exact PySem.W.allLt_of (by k_asm))
local macro_rules | `(tactic| walk_at "AK sub") => `(tactic| (intro p9 hp9; repeat (first | exact hp9 | refine List.mem_cons_of_mem _ ?_)))
local macro_rules | `(tactic| walk_at "AK endT5") => `(tactic| (refine AK.endT5 (by assumption) ?_ ?_ ?_ ?_ ?_ (by k_asm) (by k_asm) (by walk_at "AK sub") (by walk_at "AK lt")))
local macro_rules | `(tactic| walk_at "storeName") => `(tactic| ((with_reducible show wpAny _ _ (storeName _ _ (Value.int _ _)) _ _ _); (fail_if_success (with_reducible refine AK.gen_intV (by with_reducible assumption) ?_)); (with_reducible refine AK.gen_int ?_); intro x9 hx9 hv9; walk_say "LETTER"))
local macro_rules | `(tactic| walk_at "call ref") => `(tactic| (k_here; (with_reducible show wpAny _ _ (call (Value.ref 366) _ _) _ _ _); k_dflt (refine' AK.Claim.use (AK.c_ldate _ _ _ _ _ _ ?hy ?h ?hn ?hr) ?k1 ?k2 ?k3 ?k4 ?k5 ?kK ?kd ?ku ?_; (case hn => assumption); (case h => assumption); (case hy => omega); (case hr => omega); walk_at "AK use"); intro D9 t0 t1 t2 c9 h9 tk9 F9 N9 l9; (try simp only [PySem.W.AllLt, and_true] at l9); (try dsimp only); (try k_sweep)))
local macro_rules | `(tactic| walk_at "call ref") => `(tactic| (k_here; (with_reducible show wpAny _ _ (call (Value.ref 188) _ _) _ _ _); k_dflt (refine' AK.Claim.use (AK.c_fgH _ _ _ _ _ _ _ _ _ _ ?h ?hy ?h2 ?hy2 ?e) ?k1 ?k2 ?k3 ?k4 ?k5 ?kK ?kd ?ku ?_; (case h => assumption); (case hy => omega); (case h2 => assumption); (case hy2 => omega); (case e => assumption); walk_at "AK use"); intro D9 t0 t1 t2 c9 h9 tk9 F9 N9 l9; (try simp only [PySem.W.AllLt, and_true] at l9); (try dsimp only); (try k_sweep)))
local macro_rules | `(tactic| walk_at "call ref") => `(tactic| (k_here; (with_reducible show wpAny _ _ (call (Value.ref 195) _ _) _ _ _); k_dflt (refine' AK.Claim.use (AK.c_tgH _ _ _ _ _ _ _ _ _ _ ?h ?hy ?h2 ?hy2 ?e) ?k1 ?k2 ?k3 ?k4 ?k5 ?kK ?kd ?ku ?_; (case h2 => assumption); (case e => assumption); (case h => assumption); (case hy => omega); (case hy2 => omega); walk_at "AK use"); intro D9 t0 t1 t2 c9 h9 tk9 F9 N9 l9; (try simp only [PySem.W.AllLt, and_true] at l9); (try dsimp only); (try k_sweep)))
local macro_rules | `(tactic| walk_at "call ref") => `(tactic| (k_here; (with_reducible show wpAny _ _ (call (Value.ref 125) _ _) _ _ _); k_dflt (refine' AK.Claim.use (AK.c_leapH' _ _ _ _ ?p1 ?hb) ?k1 ?k2 ?k3 ?k4 ?k5 ?kK ?kd ?ku ?_; (case hb => assumption); (case p1 => omega); walk_at "AK use"); intro t9 h9 tk9 F9 N9; (try dsimp only); (try k_sweep)))
local macro_rules | `(tactic| walk_at "call ref") => `(tactic| (k_here; (with_reducible show wpAny _ _ (call (Value.ref 160) _ _) _ _ _); k_dflt (refine' AK.Claim.use (AK.c_mlen _ _ _ _ _ ?p1 ?p2 ?p3) ?k1 ?k2 ?k3 ?k4 ?k5 ?kK ?kd ?ku ?_; (case p1 => omega); (case p2 => omega); (case p3 => omega); walk_at "AK use"); intro t9 h9 tk9 F9 N9; (try dsimp only); (try k_sweep)))
local macro_rules | `(tactic| walk_at "call ref") => `(tactic| (k_here; (with_reducible show wpAny _ _ (call (Value.ref 174) _ _) _ _ _); k_dflt (refine' AK.Claim.use (AK.c_tojdHx _ _ _ _ _ _ _ ?p1 ?p2 ?p3 ?p4) ?k1 ?k2 ?k3 ?k4 ?k5 ?kK ?kd ?ku ?_; (case p1 => omega); (case p2 => omega); (case p3 => omega); (case p4 => omega); walk_at "AK use"); intro hzb9 t9 h9 tk9 F9 N9; (try dsimp only); (try k_sweep)))
local macro_rules | `(tactic| walk_at "call ref") => `(tactic| (k_here; (with_reducible show wpAny _ _ (call (Value.ref 202) _ _) _ _ _); k_dflt (refine' AK.Claim.use (AK.c_mcal _ _ _ _ _ ?p1 ?p2 ?p3) ?k1 ?k2 ?k3 ?k4 ?k5 ?kK ?kd ?ku ?_; (case p1 => omega); (case p2 => omega); (case p3 => omega); walk_at "AK use"); intro D9 ys9 h9 tk9 F9 N9 hl9 hr9; (try dsimp only); (try k_sweep)))
local macro_rules | `(tactic| walk_at "call ref") => `(tactic| (k_here; (with_reducible show wpAny _ _ (call (Value.ref 373) _ _) _ _ _); k_dflt (refine' AK.Claim.use (AK.c_lcount _ _ _ _ _ _ _ _ _ ?h ?h0 ?e) ?k1 ?k2 ?k3 ?k4 ?k5 ?kK ?kd ?ku ?_; (case h => assumption); (case h0 => omega); (case e => omega); walk_at "AK use"); intro D9 t0 t1 t2 t3 t4 c9 h9 tk9 F9 N9 l9; (try simp only [PySem.W.AllLt, and_true] at l9); (try dsimp only); (try k_sweep)))
local macro_rules | `(tactic| walk_at "call ref") => `(tactic| (k_here; (with_reducible show wpAny _ _ (call (Value.ref 230) _ _) _ _ _); k_dflt (refine' AK.Claim.use (AK.c_fgM _ _ _ _ _ _ _ _ _ _ _ _ _ ?h ?hy ?h2 ?h0 ?e) ?k1 ?k2 ?k3 ?k4 ?k5 ?kK ?kd ?ku ?_; (case h2 => assumption); (case h => assumption); (case hy => omega); (case h0 => omega); (case e => omega); walk_at "AK use"); intro D9 t0 t1 t2 t3 t4 c9 h9 tk9 F9 N9 l9; (try simp only [PySem.W.AllLt, and_true] at l9); (try dsimp only); (try k_sweep)))
local macro_rules | `(tactic| walk_at "call ref") => `(tactic| (k_here; (with_reducible show wpAny _ _ (call (Value.ref 223) _ _) _ _ _); k_dflt (refine' AK.Claim.use (AK.c_tgM _ _ _ _ _ _ _ _ _ _ _ _ _ _ _ ?h ?hy ?h2 ?h0 ?e) ?k1 ?k2 ?k3 ?k4 ?k5 ?kK ?kd ?ku ?_; (case h2 => assumption); (case h => assumption); (case hy => omega); (case h0 => omega); (case e => omega); walk_at "AK use"); intro D9 t0 t1 t2 c9 h9 tk9 F9 N9 l9; (try simp only [PySem.W.AllLt, and_true] at l9); (try dsimp only); (try k_sweep)))
local macro_rules | `(tactic| walk_at "call ref") => `(tactic| (k_here; (with_reducible show wpAny _ _ (call (Value.ref 380) _ _) _ _ _); k_dflt (refine' AK.Claim.use (AK.c_larm _ _ _ _ _ _ _ ?h ?h0 ?e) ?k1 ?k2 ?k3 ?k4 ?k5 ?kK ?kd ?ku ?_; (case h => assumption); (case h0 => omega); (case e => omega); walk_at "AK use"); intro D9 t0 t1 t2 c9 h9 tk9 F9 N9 l9; (try simp only [PySem.W.AllLt, and_true] at l9); (try dsimp only); (try k_sweep)))
local macro_rules | `(tactic| walk_at "call ref") => `(tactic| (k_here; (with_reducible show wpAny _ _ (call (Value.ref 277) _ _) _ _ _); k_dflt (refine' AK.Claim.use (AK.c_fgA0 _ _ _ _ _ _ _ _ _ _ _ ?h ?hy ?h2 ?h0 ?e) ?k1 ?k2 ?k3 ?k4 ?k5 ?kK ?kd ?ku ?_; (case h2 => assumption); (case h => assumption); (case hy => omega); (case h0 => omega); (case e => omega); walk_at "AK use"); intro D9 t0 t1 t2 c9 h9 tk9 F9 N9 l9; (try simp only [PySem.W.AllLt, and_true] at l9); (try dsimp only); (try k_sweep)))
local macro_rules | `(tactic| walk_at "call ref") => `(tactic| (k_here; (with_reducible show wpAny _ _ (call (Value.ref 269) _ _) _ _ _); k_dflt (refine' AK.Claim.use (AK.c_tgA0 _ _ _ _ _ _ _ _ _ _ _ ?h ?hy ?h2 ?h0 ?e) ?k1 ?k2 ?k3 ?k4 ?k5 ?kK ?kd ?ku ?_; (case h2 => assumption); (case h => assumption); (case hy => omega); (case h0 => omega); (case e => omega); walk_at "AK use"); intro D9 t0 t1 t2 c9 h9 tk9 F9 N9 l9; (try simp only [PySem.W.AllLt, and_true] at l9); (try dsimp only); (try k_sweep)))
local macro_rules | `(tactic| walk_at "call ref") => `(tactic| (k_here; (with_reducible show wpAny _ _ (call (Value.ref 277) _ _) _ _ _); k_dflt (refine' AK.Claim.use (AK.c_fgA1 _ _ _ _ _ _ _ _ _ _ _ _ ?h ?hy ?h2 ?h0 ?e) ?k1 ?k2 ?k3 ?k4 ?k5 ?kK ?kd ?ku ?_; (case h2 => assumption); (case h => assumption); (case hy => omega); (case h0 => omega); (case e => omega); walk_at "AK use"); intro D9 t0 t1 t2 c9 h9 tk9 F9 N9 l9; (try simp only [PySem.W.AllLt, and_true] at l9); (try dsimp only); (try k_sweep)))
local macro_rules | `(tactic| walk_at "call ref") => `(tactic| (k_here; (with_reducible show wpAny _ _ (call (Value.ref 269) _ _) _ _ _); k_dflt (refine' AK.Claim.use (AK.c_tgA1 _ _ _ _ _ _ _ _ _ _ _ _ ?h ?hy ?h2 ?h0 ?e) ?k1 ?k2 ?k3 ?k4 ?k5 ?kK ?kd ?ku ?_; (case h2 => assumption); (case h => assumption); (case hy => omega); (case h0 => omega); (case e => omega); walk_at "AK use"); intro D9 t0 t1 t2 c9 h9 tk9 F9 N9 l9; (try simp only [PySem.W.AllLt, and_true] at l9); (try dsimp only); (try k_sweep)))
local macro_rules | `(tactic| walk_at "call ref") => `(tactic| (k_here; (with_reducible show wpAny _ _ (call (Value.ref 277) _ _) _ _ _); k_dflt (refine' AK.Claim.use (AK.c_fgA2 _ _ _ _ _ _ _ _ _ _ _ _ _ _ _ ?h ?hy ?h2 ?e) ?k1 ?k2 ?k3 ?k4 ?k5 ?kK ?kd ?ku ?_; (case h2 => assumption); (case h => assumption); (case hy => omega); (case e => omega); walk_at "AK use"); intro D9 t0 t1 t2 c9 h9 tk9 F9 N9 l9; (try simp only [PySem.W.AllLt, and_true] at l9); (try dsimp only); (try k_sweep)))
local macro_rules | `(tactic| walk_at "call ref") => `(tactic| (k_here; (with_reducible show wpAny _ _ (call (Value.ref 269) _ _) _ _ _); k_dflt (refine' AK.Claim.use (AK.c_tgA2 _ _ _ _ _ _ _ _ _ _ _ _ _ _ _ ?h ?hy ?h2 ?e) ?k1 ?k2 ?k3 ?k4 ?k5 ?kK ?kd ?ku ?_; (case h2 => assumption); (case h => assumption); (case hy => omega); (case e => omega); walk_at "AK use"); intro D9 t0 t1 t2 c9 h9 tk9 F9 N9 l9; (try simp only [PySem.W.AllLt, and_true] at l9); (try dsimp only); (try k_sweep)))
local macro_rules | `(tactic| walk_at "call ref") => `(tactic| (k_here; (with_reducible show wpAny _ _ (call (Value.ref 387) _ _) _ _ _); k_dflt (refine' AK.Claim.use (AK.c_lfixS _ _ _ _ _ _ _ _ _ _ _ _ _ ?h ?e) ?k1 ?k2 ?k3 ?k4 ?k5 ?kK ?kd ?ku ?_; (case h => assumption); (case e => omega); walk_at "AK use"); intro D9 t0 t1 t2 c9 h9 tk9 F9 N9 l9; (try simp only [PySem.W.AllLt, and_true] at l9); (try dsimp only); (try k_sweep)))
local macro_rules | `(tactic| walk_at "call ref") => `(tactic| (k_here; (with_reducible show wpAny _ _ (call (Value.ref 387) _ _) _ _ _); k_dflt (refine' AK.Claim.use (AK.c_lfixF _ _ _ _ _ _ _ _ _ _ _ _ _ _ ?h ?e) ?k1 ?k2 ?k3 ?k4 ?k5 ?kK ?kd ?ku ?_; (case h => assumption); (case e => omega); walk_at "AK use"); intro D9 t0 t1 t2 c9 h9 tk9 F9 N9 l9; (try simp only [PySem.W.AllLt, and_true] at l9); (try dsimp only); (try k_sweep)))
local macro_rules | `(tactic| walk_at "call ref") => `(tactic| (k_here; (with_reducible show wpAny _ _ (call (Value.ref 323) _ _) _ _ _); k_dflt (refine' AK.Claim.use (AK.c_fgF _ _ _ _ _ _ _ _ _ _ _ _ _ _ _ _ ?h ?hy ?h2 ?e) ?k1 ?k2 ?k3 ?k4 ?k5 ?kK ?kd ?ku ?_; (case h2 => assumption); (case h => assumption); (case hy => omega); (case e => omega); walk_at "AK use"); intro D9 t0 t1 t2 c9 h9 tk9 F9 N9 l9; (try simp only [PySem.W.AllLt, and_true] at l9); (try dsimp only); (try k_sweep)))
local macro_rules | `(tactic| walk_at "call ref") => `(tactic| (k_here; (with_reducible show wpAny _ _ (call (Value.ref 331) _ _) _ _ _); k_dflt (refine' AK.Claim.use (AK.c_tgF _ _ _ _ _ _ _ _ _ _ _ _ _ _ _ _ ?h ?hy ?h2 ?e) ?k1 ?k2 ?k3 ?k4 ?k5 ?kK ?kd ?ku ?_; (case h2 => assumption); (case h => assumption); (case hy => omega); (case e => omega); walk_at "AK use"); intro D9 t0 t1 t2 c9 h9 tk9 F9 N9 l9; (try simp only [PySem.W.AllLt, and_true] at l9); (try dsimp only); (try k_sweep)))
local macro_rules | `(tactic| walk_at "call ref") => `(tactic| (k_here; (with_reducible show wpAny _ _ (call (Value.ref 359) _ _) _ _ _); k_dflt (refine' AK.Claim.use (AK.c_lyear _ _ _ _ _ _ ?hy ?h ?hn ?hr) ?k1 ?k2 ?k3 ?k4 ?k5 ?kK ?kd ?ku ?_; (case hn => assumption); (case h => assumption); (case hy => omega); (case hr => omega); walk_at "AK use"); intro t9 h9 tk9 F9 N9; (try dsimp only); (try k_sweep)))
local macro_rules | `(tactic| walk_at "call ref") => `(tactic| (k_here; (with_reducible show wpAny _ _ (call (Value.ref 352) _ _) _ _ _); k_dflt (refine' AK.Claim.use (AK.c_jan _ _ _ ?p1) ?k1 ?k2 ?k3 ?k4 ?k5 ?kK ?kd ?ku ?_; (case p1 => omega); walk_at "AK use"); intro t9 h9 tk9 F9 N9; (try dsimp only); (try k_sweep)))
local macro_rules | `(tactic| walk_at "call ref") => `(tactic| (k_here; (with_reducible show wpAny _ _ (call (Value.ref 345) _ _) _ _ _); k_dflt (refine' AK.Claim.use (AK.c_tgI _ _ _ _ _ _ _ _ _ _ ?h ?hy ?hY ?hw ?hd ?e) ?k1 ?k2 ?k3 ?k4 ?k5 ?kK ?kd ?ku ?_; (case e => assumption); (case h => assumption); (case hy => omega); (case hY => omega); (case hw => omega); (case hd => omega); walk_at "AK use"); intro D9 t0 t1 t2 c9 h9 tk9 F9 N9 l9; (try simp only [PySem.W.AllLt, and_true] at l9); (try dsimp only); (try k_sweep)))
local macro_rules | `(tactic| walk_at "storeName") => `(tactic| ((with_reducible show wpAny _ _ (storeName _ (Str.ofString "number") _) _ _ _); (with_reducible rename AK.StopAt "number" => hstop9); clear hstop9; refine AK.stopW ?_))
local macro_rules | `(tactic| walk_at "storeName") => `(tactic| ((with_reducible show wpAny _ _ (storeName _ (Str.ofString "numbers") _) _ _ _); (with_reducible rename AK.StopAt "numbers" => hstop9); clear hstop9; refine AK.stopW ?_))
local macro_rules | `(tactic| walk_at "storeName") => `(tactic| ((with_reducible show wpAny _ _ (storeName _ (Str.ofString "last") _) _ _ _); (with_reducible rename AK.StopAt "last" => hstop9); clear hstop9; refine AK.stopW ?_))
local macro_rules | `(tactic| walk_at "exec If") => `(tactic| ((with_reducible rename AK.StopAt "if" => hstop9); clear hstop9; refine AK.stopW ?_))
local macro_rules | `(tactic| walk_at "storeName") => `(tactic| ((with_reducible show wpAny _ _ (storeName _ (Str.ofString "length") _) _ _ _); (with_reducible rename AK.StopAt "length" => hstop9); clear hstop9; refine AK.stopW ?_))
local macro_rules | `(tactic| walk_at "storeName") => `(tactic| ((with_reducible show wpAny _ _ (storeName _ (Str.ofString "thursday") _) _ _ _); (with_reducible rename AK.StopAt "thursday" => hstop9); clear hstop9; refine AK.stopW ?_))
local macro_rules | `(tactic| walk_at "setItem ref int") => `(tactic| (k_here; (with_reducible show wpAny _ _ (PySem.setItem (Value.ref _) (Value.int _ _) (Value.int _ _)) _ _ _); k_dflt (refine' AK.r_setC ?F ?N ?U ?a ?b ?c ?_; (case F => k_asm); (case N => k_asm); (case U => k_upd); (case a => omega); (case b => omega); (case c => omega); k_whole); intro h' F' N'; (try k_sweep)))
local macro_rules | `(tactic| walk_at "call builtin:list.append") => `(tactic| (k_here; (with_reducible show wpAny _ _ (call (Value.builtin _) [Value.ref _, _]) _ _ _); k_dflt (refine' AK.r_appC ?F ?N ?U ?a ?_; (case F => k_asm); (case N => k_asm); (case U => k_upd); (case a => omega); k_whole); intro h' F' N'; (try k_sweep)))
local macro_rules | `(tactic| k_all) => `(tactic| with_reducible assumption)
local macro_rules | `(tactic| k_ne) => `(tactic| with_reducible assumption)
local macro_rules | `(tactic| walk_at "pyIter ref") => `(tactic| ((with_reducible show wpAny _ _ (pyIter (Value.ref _)) (fun it s₂ => LoopAtV _ _ _ _ _ _ _ _ _ it s₂) _ _); (with_reducible rename AK.StopAt "loop" => hstop9); clear hstop9; refine AK.stopW ?_))
local macro_rules | `(tactic| walk_at "compareOp NotEq ref ref") => `(tactic| (k_here; (with_reducible show wpAny _ _ (compareOp CmpOp.NotEq (Value.ref _) (Value.ref _)) _ _ _); (with_reducible rename AK.RowsLed _ _ _ => hrl9); k_dflt (refine' AK.r_calNe ?l1 ?l2 ?ds ?hu ?h1 ?h2 ?_; (case l1 => assumption); (case h1 => assumption); (case l2 => is_list); (case ds => exact AK.calD_IN _ _); (case hu => ke_room); (case h2 => exact AK.rows_at (by k_asm) hrl9); k_whole); (try dsimp only)))
set_option pp.deepTerms false
theorem AK.law : PySem.Challenge.rw_ak5023_01.Holds :=
  (by intro h9x; exact h9x : have h9x : PySem.Challenge.rw_ak5023_01.Holds := (AK.hd (by
  refine AK.named (fun Q9x e9x => ?_)
  refine AK.mp (by exact AK.tag _ : AK.Tag (P := _ → Q9x) (by
    subst e9x
    intro r9x
    w_strict k_go0
    all_goals try k_fold
    rename_i a1 a2 a3 a4 a5 a6 a7 a8 a9 a10 a11 a12 a13 a14 a15 a16 a17 a18 a19 a20 a21 a22 a23 a24 a25 a26 a27 a28 a29 a30 a31 a32 a33 a34 a35 a36 a37 a38 a39 a40 a41 a42 a43 a44 a45 a46 a47 a48 a49 a50 a51 a52
    revert a1 a2 a3 a4 a5 a6 a7 a8 a9 a10 a11 a12 a13 a14 a15 a16 a17 a18 a19 a20 a21 a22 a23 a24 a25 a26 a27 a28 a29 a30 a31 a32 a33 a34 a35 a36 a37 a38 a39 a40 a41 a42 a43 a44 a45 a46 a47 a48 a49 a50 a51 a52
    exact r9x)) ?_
  intros
  have hst : AK.StopAt "numbers" := trivial
  k_steps
  rw [id]
  rename List Int => ns
  rename IntsAre _ (List.map _ (List.take 3 ns) ++ [0, 0, 0]) => hI
  change IntsAre _ (List.map AK.cutN (List.take 3 ns) ++ [0, 0, 0]) at hI
  have b0 := AK.nums_bd ns 0 (by decide)
  have b1 := AK.nums_bd ns 1 (by decide)
  have b2 := AK.nums_bd ns 2 (by decide)
  have hlen := AK.nums_len ns
  revert hI b0 b1 b2 hlen
  generalize List.map AK.cutN (List.take 3 ns) ++ [0, 0, 0] = ms
  intro hI b0 b1 b2 hlen
  rename News _ _ _ _ => N1
  replace N1 := AK.news_head N1
  have hst : AK.StopAt "last" := trivial
  k_steps
  rw [id]
  refine AK.gen_int ?_
  intro z ez vz
  have hz : 0 ≤ z ∧ z ≤ 4 := by omega
  have hst : AK.StopAt "number" := trivial
  k_steps
  rw [id]
  refine AK.gen_int ?_
  intro N eN vN
  obtain ⟨hN, hN1, hN2, hN3, hN4⟩ := AK.firsts hz b0 eN
  clear eN ez b0 b1
  rename News _ _ _ _ => N1
  replace N1 := AK.news_snd N1
  obtain ⟨y, m, d, hdate, eNum⟩ := AK.greg_ex N
  have hyb := AK.greg_bd hdate eNum (by omega)
  obtain ⟨hy, hm, hd, hyr, hH, eH⟩ := AK.heb_ex hN
  have eJ := AK.jd_num eNum eH
  have r1 := AK.monsH_range hy
  have r2 := hH.m1
  have r3 := hH.m2
  have r4 := hH.d1
  have r5 := hH.d2
  have r6 := AK.mlenH_range hy hm
  have v1 : AK.IsVar y := trivial
  have v2 : AK.IsVar m := trivial
  have v3 : AK.IsVar d := trivial
  have v4 : AK.IsVar hy := trivial
  have v5 : AK.IsVar hm := trivial
  have v6 : AK.IsVar hd := trivial
  have hst : AK.StopAt "if" := trivial
  k_steps
  rw [id]
  rename Fr _ _ _ _ => F1
  rename News _ _ _ _ => N1
  refine AK.cut_same F1 N1 ?i1 ?n1
  case i1 => as_aux_lemma =>
    refine AK.named (fun Q9x e9x => ?_)
    exact (by intro h9x; exact h9x : have h9x : Q9x := (by
      subst e9x
      cases hb : AK.leapH hy
      · have r9 : hm ≤ 12 := by unfold AK.monsH at r3; rw [hb] at r3; exact r3
        k_steps
        all_goals exact AK.end_same (by k_asm) (by k_asm) (by walk_at "AK sub")
      · have r9 : hm ≤ 13 := by unfold AK.monsH at r3; rw [hb] at r3; exact r3
        k_steps
        all_goals exact AK.end_same (by k_asm) (by k_asm) (by walk_at "AK sub")
     ); Q9x)
  case n1 =>
  intro h9 tk9 F9 N9
  clear F1 N1
  have hst : AK.StopAt "length" := trivial
  k_steps
  rw [id]
  refine AK.gen_int ?_
  intro len elen vlen
  have hlen2 : len = 29 ∨ len = 30 := by omega
  have hst : AK.StopAt "if" := trivial
  k_steps
  rw [id]
  rename Fr _ _ _ _ => F1
  rename News _ _ _ _ => N1
  refine AK.cut_same F1 N1 ?i2 ?n2
  case i2 => as_aux_lemma =>
    refine AK.named (fun Q9x e9x => ?_)
    exact (by intro h9x; exact h9x : have h9x : Q9x := (by
      subst e9x
      k_steps
      all_goals exact AK.end_same (by k_asm) (by k_asm) (by walk_at "AK sub")
     ); Q9x)
  case n2 =>
  intro h9 tk9 F9 N9
  clear F1 N1
  have hst : AK.StopAt "if" := trivial
  k_steps
  rw [id]
  rename Fr _ _ _ _ => F1
  rename News _ _ _ _ => N1
  refine AK.cut_same F1 N1 ?i3 ?n3
  case i3 => as_aux_lemma =>
    refine AK.named (fun Q9x e9x => ?_)
    exact (by intro h9x; exact h9x : have h9x : Q9x := (by
      subst e9x
      k_steps
  
      all_goals exact AK.end_same (by k_asm) (by k_asm) (by walk_at "AK sub")
     ); Q9x)
  case n3 =>
  intro h9 tk9 F9 N9
  clear F1 N1
  dsimp only
  have hst : AK.StopAt "loop" := trivial
  k_steps
  rw [id]
  rename Fr _ _ _ _ => F1
  rename News _ _ _ _ => N1
  rename IsRange _ _ _ _ _ _ _ _ => rgX
  k_dflt (refine' AK.rows_loop (x := Str.ofString "one") (xr := Str.ofString "row") (xs := Str.ofString "rows") (xc := Str.ofString "column") (len := len) (b := N - hd + 1) ?hh rgX ?hb0 ?hlen ?hsmall F1 N1 ?hc0 ?hc1 ?hc2 ?hmr ?hms ?turn ?done)
  case hh => exact rfl
  case hb0 => exact rfl
  case hlen => omega
  case hsmall => exact small_one (by omega) (by omega) (by omega) (by omega)
  case hc0 => omega
  case hc1 => (simp only [PySem.W.AllLt, and_true]; omega)
  case hc2 => (simp only [PySem.W.AllLt, and_true]; omega)
  case hmr => exact rfl
  case hms => exact rfl
  case turn => as_aux_lemma =>
    refine AK.named (fun Q9x e9x => ?_)
    exact (by intro h9x; exact h9x : have h9x : Q9x := (by
      subst e9x
      intro k t C R its ys cur n nw u h9 tk9 hk1 hk2 hcur hil hyl hCR hnC hnR F9 N9
      have hRC : R ≠ C := fun e => hCR e.symm
      clear F1 N1
      k_steps
      all_goals (rename _ = (N - hd + 1 + k) % 7 => hx9; rw [← hx9])
      all_goals first
        | exact AK.row_keep (by omega) (by k_asm) (by exact rfl) (by intro z h1 h2 h3 h4; simp only [if_neg h1, if_neg h2, if_neg h3, if_neg h4]) (by exact rfl) (by k_asm) rfl
        | exact AK.row_full (by omega) (by k_asm) (by exact rfl) (by intro z h1 h2 h3 h4; simp only [if_neg h1, if_neg h2, if_neg h3, if_neg h4]) (by exact rfl) (by k_asm) rfl rfl (by simp only [PySem.W.AllLt]; assumption)
     ); Q9x)
  case done =>
  intro R ys n rl u1 u2 u3 h9 tk9 hrl F9 N9
  clear F1 N1
  have hst : AK.StopAt "if" := trivial
  k_steps
  rw [id]
  rw [AK.cal_rows hlen2 elen eH] at hrl
  rename Fr _ _ _ _ => F1
  rename News _ _ _ _ => N1
  refine AK.cut_same F1 N1 ?i4 ?n4
  case i4 => as_aux_lemma =>
    refine AK.named (fun Q9x e9x => ?_)
    exact (by intro h9x; exact h9x : have h9x : Q9x := (by
      subst e9x
      k_steps
      all_goals exact AK.end_same (by k_asm) (by k_asm) (by walk_at "AK sub")
     ); Q9x)
  case n4 =>
  intro h9 tk9 F9 N9
  clear F1 N1
  replace N9 := AK.news_app N9
  clear hrl
  have hst : AK.StopAt "if" := trivial
  dsimp only
  k_steps
  rw [id]
  have eg : N = AK.gJ y m d + 1721425 := eNum
  rename Fr _ _ _ _ => F1
  rename News _ _ _ _ => N1
  refine AK.cut_but (Str.ofString "due") F1 N1 ?i5 ?n5
  case i5 => as_aux_lemma =>
    refine AK.named (fun Q9x e9x => ?_)
    exact (by intro h9x; exact h9x : have h9x : Q9x := (by
      subst e9x
      by_cases hzz : 0 < z
      · have hNz := hN1 hzz
        obtain ⟨a1, a2, a3, a4, a5, hLC⟩ : ∃ b k tn u ki, AK.IsLC (N - 584283) b k tn u ki := ⟨_, _, _, _, _, ⟨rfl, rfl, rfl, rfl, rfl⟩⟩
        k_steps
        all_goals exact AK.end_but (by k_asm) (by k_asm) (by walk_at "AK sub")
      · k_steps
        all_goals exact AK.end_but0 (by k_asm) (by k_asm) (by walk_at "AK sub")
     ); Q9x)
  case n5 =>
  intro o5 h9 tk9 F9 N9
  clear F1 N1
  have hst : AK.StopAt "if" := trivial
  dsimp only
  k_steps
  rw [id]
  rename Fr _ _ _ _ => F1
  rename News _ _ _ _ => N1
  refine AK.cut_but (Str.ofString "due") F1 N1 ?i6 ?n6
  case i6 => as_aux_lemma =>
    refine AK.named (fun Q9x e9x => ?_)
    exact (by intro h9x; exact h9x : have h9x : Q9x := (by
      subst e9x
      by_cases hzz : 1 < z
      · have hNz := hN2 hzz
        obtain ⟨a1, a2, a3, hAr⟩ : ∃ ay am ad, AK.IsAr (N - 1922502) ay am ad := ⟨_, _, _, ⟨rfl, rfl, rfl⟩⟩
        k_steps
        all_goals exact AK.end_but (by k_asm) (by k_asm) (by walk_at "AK sub")
      · k_steps
        all_goals exact AK.end_but0 (by k_asm) (by k_asm) (by walk_at "AK sub")
     ); Q9x)
  case n6 =>
  intro o6 h9 tk9 F9 N9
  clear F1 N1
  have hst : AK.StopAt "if" := trivial
  dsimp only
  k_steps
  rw [id]
  rename Fr _ _ _ _ => F1
  rename News _ _ _ _ => N1
  refine AK.cut_but (Str.ofString "due") F1 N1 ?i7 ?n7
  case i7 => as_aux_lemma =>
    refine AK.named (fun Q9x e9x => ?_)
    exact (by intro h9x; exact h9x : have h9x : Q9x := (by
      subst e9x
      by_cases hzz : 2 < z
      · have hNz := hN3 hzz
        obtain ⟨a1, a2, a3, a4, a5, a6, hSk⟩ := AK.sk_ex (E := N - 2117212) (by omega)
        k_steps
        all_goals exact AK.end_but (by k_asm) (by k_asm) (by walk_at "AK sub")
      · k_steps
        all_goals exact AK.end_but0 (by k_asm) (by k_asm) (by walk_at "AK sub")
     ); Q9x)
  case n7 =>
  intro o7 h9 tk9 F9 N9
  clear F1 N1
  have hst : AK.StopAt "if" := trivial
  dsimp only
  k_steps
  rw [id]
  rename Fr _ _ _ _ => F1
  rename News _ _ _ _ => N1
  refine AK.cut_but (Str.ofString "due") F1 N1 ?i8 ?n8
  case i8 => as_aux_lemma =>
    refine AK.named (fun Q9x e9x => ?_)
    exact (by intro h9x; exact h9x : have h9x : Q9x := (by
      subst e9x
      by_cases hzz : 3 < z
      · have hNz := hN4 hzz
        obtain ⟨a1, a2, a3, a4, a5, a6, a7, hFr⟩ := AK.fr_ex (E := N - 2375840) (by omega)
        k_steps
        all_goals exact AK.end_but (by k_asm) (by k_asm) (by walk_at "AK sub")
      · k_steps
        all_goals exact AK.end_but0 (by k_asm) (by k_asm) (by walk_at "AK sub")
     ); Q9x)
  case n8 =>
  intro o8 h9 tk9 F9 N9
  clear F1 N1
  have hst : AK.StopAt "number" := trivial
  dsimp only
  k_steps
  rw [id]
  refine AK.gen_int ?_
  intro n3 e3 v3n
  have hn3 : -10000000 < n3 ∧ n3 < 10000000 := by
    have e3' : n3 = ms.getD 2 0 := e3
    omega
  clear e3 b2
  obtain ⟨y3, m3, d3, hdate3, eNum3⟩ := AK.greg_ex n3
  have hyb3 := AK.greg_bd hdate3 eNum3 (by omega)
  have hst : AK.StopAt "thursday" := trivial
  k_steps
  rw [id]
  refine AK.gen_int ?_
  intro T eT vT
  obtain ⟨Y4, m4, d4, hdate4, eNum4⟩ := AK.greg_ex T
  have hyb4 := AK.greg_bd hdate4 eNum4 (by omega)
  have eI := AK.iso_ok hdate4 hdate3 eT eNum4 eNum3 rfl
  obtain ⟨eI1, eI2⟩ := eI
  have eg4 : T = AK.gJ Y4 m4 d4 + 1721425 := eNum4
  have j1 := AK.in_yearG hdate4
  have j2 := AK.janG_step Y4
  have v4Y : AK.IsVar Y4 := trivial
  k_steps)); PySem.Challenge.rw_ak5023_01.Holds)
end
end
theorem PySem.Challenge.cw_ak5023_01_holds : PySem.Challenge.rw_ak5023_01.Holds :=
  AK.law
