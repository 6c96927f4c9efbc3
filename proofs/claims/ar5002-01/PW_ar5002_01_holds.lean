import PyProof.Rows.All
import Wide.All
import OpenK.AllK
import Wide.FinOn
import Lean
import PySem.Challenge.RW_ar5002_01
set_option Elab.async false
set_option maxRecDepth 100000
set_option maxHeartbeats 8000000
/-! The law of the Hebrew year. First the plain law: what the year's start, its kind and its months are, in plain ints, no program in sight.
Then the walk: each def once, as a claim over any ledger; then the law's own body. -/
namespace Mine
@[irreducible] def leapB (y : Int) : Bool := decide ((y * 7 + 1) % 19 < 7)
@[irreducible] def yMonths (y : Int) : Int := if leapB y then 13 else 12
def mths (y : Int) : Int := (235 * y - 234) / 19
def dl0 (y : Int) : Int := (235 * y - 234) / 19 * 29 + (12084 + 13753 * ((235 * y - 234) / 19)) / 25920
@[irreducible] def dl1 (y : Int) : Int := if 3 * (dl0 y + 1) % 7 < 3 then dl0 y + 1 else dl0 y
@[irreducible] def dl2 (y : Int) : Int := if dl1 (y + 1) - dl1 y = 356 then 2 else if dl1 y - dl1 (y - 1) = 382 then 1 else 0
@[irreducible] def midn (j : Int) : Int := if j > 0 then j else j + 1
@[irreducible] def jdT (y d : Int) : Int := midn (347996 + dl1 y + dl2 y + d + 1)
@[irreducible] def yDays (y : Int) : Int := jdT (y + 1) 1 - jdT y 1
@[irreducible] def mLen (y m : Int) : Int := if m = 2 ∨ m = 4 ∨ m = 6 ∨ m = 10 ∨ m = 13 then 29 else if m = 12 ∧ leapB y = false then 29 else if m = 8 ∧ yDays y % 10 ≠ 5 then 29 else if m = 9 ∧ yDays y % 10 = 3 then 29 else 30
@[irreducible] def lDay (j : Int) : Int := (2 * j + 1) / 2
def moon (y : Int) : Int := 12084 + 765433 * ((235 * y - 234) / 19)
@[irreducible] def lStart (y : Int) : Int :=
  if moon y / 25920 % 7 = 2 ∨ moon y / 25920 % 7 = 4 ∨ moon y / 25920 % 7 = 6 then 347998 + moon y / 25920 + 1
  else if moon y / 25920 % 7 = 1 ∧ moon y % 25920 ≥ 16404 ∧ (7 * y + 1) % 19 ≥ 7 then 347998 + moon y / 25920 + 2
  else if moon y / 25920 % 7 = 0 ∧ moon y % 25920 ≥ 23269 ∧ (7 * y - 6) % 19 < 7 then 347998 + moon y / 25920 + 1
  else 347998 + moon y / 25920
@[irreducible] def wYear (n : Int) : Int := if -5000 < n ∧ n < 100000 then 5785 + n else n % 1000000000 + 1
theorem leap_iff (y : Int) : leapB y = true ↔ (y * 7 + 1) % 19 < 7 := by simp [leapB]
theorem leap_not (y : Int) : leapB y = false ↔ ¬ (y * 7 + 1) % 19 < 7 := by simp [leapB]
theorem dl0_eq (y : Int) : dl0 y = moon y / 25920 := by unfold dl0 moon; omega
theorem moon_pos (y : Int) (h : 1 ≤ y) : 12084 ≤ moon y := by unfold moon; omega
theorem mths_next (y : Int) : (235 * (y + 1) - 234) / 19 = 12 * y + (y * 7 + 1) / 19 := by omega
theorem mths_here (y : Int) : (235 * y - 234) / 19 = 12 * y + (y * 7 + 12 + 1) / 19 - 13 := by omega
theorem div_lo (x : Int) (h : x % 19 < 7) : (x + 12) / 19 = x / 19 := by omega
theorem div_hi (x : Int) (h : ¬ x % 19 < 7) : (x + 12) / 19 = x / 19 + 1 := by omega
theorem moon_leap (y : Int) (h : leapB y = true) : moon (y + 1) = moon y + 9950629 := by
  rw [leap_iff] at h; unfold moon
  have e := div_lo _ h
  have e2 : y * 7 + 12 + 1 = y * 7 + 1 + 12 := by omega
  rw [mths_next, mths_here, e2, e]; omega
theorem moon_common (y : Int) (h : leapB y = false) : moon (y + 1) = moon y + 9185196 := by
  rw [leap_not] at h; unfold moon
  have e := div_hi _ h
  have e2 : y * 7 + 12 + 1 = y * 7 + 1 + 12 := by omega
  rw [mths_next, mths_here, e2, e]; omega
theorem mod_up (x : Int) (h : x % 19 < 7) : ¬ (x + 7) % 19 < 7 := by omega
theorem mod_dn (x : Int) (h : x % 19 < 7) : ¬ (x - 7) % 19 < 7 := by omega
/-- no two leap years in a row -/
theorem leap_next (y : Int) (h : leapB y = true) : leapB (y + 1) = false := by
  rw [leap_iff] at h; rw [leap_not]
  have e : (y + 1) * 7 + 1 = y * 7 + 1 + 7 := by omega
  rw [e]; exact mod_up _ h
theorem leap_prev (y : Int) (h : leapB y = true) : leapB (y - 1) = false := by
  rw [leap_iff] at h; rw [leap_not]
  have e : (y - 1) * 7 + 1 = y * 7 + 1 - 7 := by omega
  rw [e]; exact mod_dn _ h
/-- the day pushed off a Sunday, Wednesday, Friday -/
theorem off_iff (a : Int) : 3 * (a + 1) % 7 < 3 ↔ (a % 7 = 2 ∨ a % 7 = 4 ∨ a % 7 = 6) := by
  have hw : a % 7 = 0 ∨ a % 7 = 1 ∨ a % 7 = 2 ∨ a % 7 = 3 ∨ a % 7 = 4 ∨ a % 7 = 5 ∨ a % 7 = 6 := by omega
  rcases hw with hw | hw | hw | hw | hw | hw | hw <;> omega
theorem dl1_eq (y : Int) : dl1 y = if moon y / 25920 % 7 = 2 ∨ moon y / 25920 % 7 = 4 ∨ moon y / 25920 % 7 = 6 then moon y / 25920 + 1 else moon y / 25920 := by
  unfold dl1; rw [dl0_eq]; simp only [off_iff]
def dD (y : Int) : Int := moon y / 25920
def dR (y : Int) : Int := moon y % 25920
theorem dR_in (y : Int) : 0 ≤ dR y ∧ dR y < 25920 := by unfold dR; omega
theorem next_common (y : Int) (h : leapB y = false) : (dR y < 16404 ∧ dD (y + 1) = dD y + 354 ∧ dR (y + 1) = dR y + 9516) ∨ (16404 ≤ dR y ∧ dD (y + 1) = dD y + 355 ∧ dR (y + 1) = dR y - 16404) := by
  unfold dD dR; rw [moon_common y h]; omega
theorem next_leap (y : Int) (h : leapB y = true) : (dR y < 2651 ∧ dD (y + 1) = dD y + 383 ∧ dR (y + 1) = dR y + 23269) ∨ (2651 ≤ dR y ∧ dD (y + 1) = dD y + 384 ∧ dR (y + 1) = dR y - 2651) := by
  unfold dD dR; rw [moon_leap y h]; omega
def off (a : Int) : Int := if a % 7 = 2 ∨ a % 7 = 4 ∨ a % 7 = 6 then a + 1 else a
theorem dl1_off (y : Int) : dl1 y = off (dD y) := by rw [dl1_eq]; rfl
theorem lStart_eq (y : Int) : lStart y = if dD y % 7 = 2 ∨ dD y % 7 = 4 ∨ dD y % 7 = 6 then 347998 + dD y + 1
  else if dD y % 7 = 1 ∧ dR y ≥ 16404 ∧ leapB y = false then 347998 + dD y + 2
  else if dD y % 7 = 0 ∧ dR y ≥ 23269 ∧ leapB (y - 1) = true then 347998 + dD y + 1
  else 347998 + dD y := by
  have e1 : (leapB y = false) ↔ (7 * y + 1) % 19 ≥ 7 := by
    rw [leap_not, show y * 7 + 1 = 7 * y + 1 from by omega]; omega
  have e2 : (leapB (y - 1) = true) ↔ (7 * y - 6) % 19 < 7 := by
    rw [leap_iff, show (y - 1) * 7 + 1 = 7 * y - 6 from by omega]
  simp only [e1, e2]; unfold lStart dD dR; rfl
/-- what day of the week an int's rest is -/
theorem week (a : Int) : a % 7 = 0 ∨ a % 7 = 1 ∨ a % 7 = 2 ∨ a % 7 = 3 ∨ a % 7 = 4 ∨ a % 7 = 5 ∨ a % 7 = 6 := by omega
theorem off_bad (a : Int) (h : a % 7 = 2 ∨ a % 7 = 4 ∨ a % 7 = 6) : off a = a + 1 := if_pos h
theorem off_good (a : Int) (h : a % 7 = 0 ∨ a % 7 = 1 ∨ a % 7 = 3 ∨ a % 7 = 5) : off a = a := by
  unfold off; split <;> omega
theorem off_354 (a : Int) : off (a + 354) - off a ≠ 356 ∧ off (a + 354) - off a ≠ 382 := by
  unfold off; constructor <;> (repeat' split) <;> omega
theorem off_355 (a : Int) : (off (a + 355) - off a = 356 ↔ a % 7 = 1) ∧ off (a + 355) - off a ≠ 382 := by
  rcases week a with h | h | h | h | h | h | h <;> unfold off <;> constructor <;> (repeat' split) <;> omega
theorem off_383 (a : Int) : (off (a + 383) - off a = 382 ↔ a % 7 = 2) ∧ off (a + 383) - off a ≠ 356 := by
  rcases week a with h | h | h | h | h | h | h <;> unfold off <;> constructor <;> (repeat' split) <;> omega
theorem off_384 (a : Int) : off (a + 384) - off a ≠ 382 ∧ off (a + 384) - off a ≠ 356 := by
  unfold off; constructor <;> (repeat' split) <;> omega
/-- the third delay: a common year's first day on a Tuesday, its moon late -/
theorem delay_third (y : Int) : (dl1 (y + 1) - dl1 y = 356) ↔ (dD y % 7 = 1 ∧ dR y ≥ 16404 ∧ leapB y = false) := by
  rw [dl1_off, dl1_off]
  cases h : leapB y with
  | true =>
    rcases next_leap y h with ⟨hr, hd, _⟩ | ⟨hr, hd, _⟩ <;> rw [hd]
    · have := (off_383 (dD y)).2; simp [this]
    · have := (off_384 (dD y)).2; simp [this]
  | false =>
    rcases next_common y h with ⟨hr, hd, _⟩ | ⟨hr, hd, _⟩ <;> rw [hd]
    · have := (off_354 (dD y)).1; simp [this]; omega
    · have := (off_355 (dD y)).1; simp [this, hr]
theorem delay_fourth (y : Int) : (dl1 y - dl1 (y - 1) = 382) ↔ (dD y % 7 = 0 ∧ dR y ≥ 23269 ∧ leapB (y - 1) = true) := by
  rw [dl1_off, dl1_off]
  have ey : y - 1 + 1 = y := by omega
  have hb := dR_in (y - 1)
  cases h : leapB (y - 1) with
  | true =>
    rcases next_leap (y - 1) h with ⟨hr, hd, he⟩ | ⟨hr, hd, he⟩ <;> rw [ey] at hd he
    · have := (off_383 (dD (y - 1))).1; rw [hd, this, he]; simp only [and_true]; omega
    · have := (off_384 (dD (y - 1))).1; rw [hd, he]
      exact ⟨fun x => absurd x this, fun x => absurd x.2.1 (by omega)⟩
  | false =>
    rcases next_common (y - 1) h with ⟨hr, hd, he⟩ | ⟨hr, hd, he⟩ <;> rw [ey] at hd he <;> rw [hd]
    · have := (off_354 (dD (y - 1))).2; simp [this]
    · have := (off_355 (dD (y - 1))).2; simp [this]
theorem start_eq (y : Int) : 347998 + dl1 y + dl2 y = lStart y := by
  rw [lStart_eq]; unfold dl2; simp only [delay_third, delay_fourth]; rw [dl1_off]; unfold off
  (repeat' split) <;> omega
/-- how far a year's start is put off: by its weekday, its rest, the elder year's kind, its own kind -/
def put (w r : Int) (p l : Bool) : Int :=
  if w = 2 ∨ w = 4 ∨ w = 6 then 1
  else if w = 1 ∧ r ≥ 16404 ∧ l = false then 2
  else if w = 0 ∧ r ≥ 23269 ∧ p = true then 1
  else 0
theorem lStart_put (y : Int) : lStart y = 347998 + dD y + put (dD y % 7) (dR y) (leapB (y - 1)) (leapB y) := by
  rw [lStart_eq]; unfold put; (repeat' split) <;> omega
def Kinds (s : Int) (l : Bool) (n : Int) : Prop :=
  (l = false ∧ ((s % 7 = 0 ∧ n = 353) ∨ (s % 7 = 0 ∧ n = 355) ∨ (s % 7 = 1 ∧ n = 354) ∨ (s % 7 = 3 ∧ n = 354) ∨ (s % 7 = 3 ∧ n = 355) ∨ (s % 7 = 5 ∧ n = 353) ∨ (s % 7 = 5 ∧ n = 355)))
  ∨ (l = true ∧ ((s % 7 = 0 ∧ n = 383) ∨ (s % 7 = 0 ∧ n = 385) ∨ (s % 7 = 1 ∧ n = 384) ∨ (s % 7 = 3 ∧ n = 383) ∨ (s % 7 = 3 ∧ n = 385) ∨ (s % 7 = 5 ∧ n = 383) ∨ (s % 7 = 5 ∧ n = 385)))
theorem put_early (w r : Int) (p l : Bool) (hw : 0 ≤ w ∧ w < 7) (h0 : 0 ≤ r) (h1 : r < 16404) :
    Kinds (w + put w r p false) false (354 + put ((w + 4) % 7) (r + 9516) false l - put w r p false) := by
  have h : w = 0 ∨ w = 1 ∨ w = 2 ∨ w = 3 ∨ w = 4 ∨ w = 5 ∨ w = 6 := by omega
  have e1 : ¬ r ≥ 16404 := by omega
  have e2 : ¬ r ≥ 23269 := by omega
  rcases h with h | h | h | h | h | h | h <;> subst h <;> cases p <;> cases l <;> simp only [put, Kinds, e1, e2] <;> simp <;> (repeat' split) <;> omega
theorem put_late (w r : Int) (p l : Bool) (hw : 0 ≤ w ∧ w < 7) (h0 : 16404 ≤ r) (h1 : r < 25920) :
    Kinds (w + put w r p false) false (355 + put ((w + 5) % 7) (r - 16404) false l - put w r p false) := by
  have h : w = 0 ∨ w = 1 ∨ w = 2 ∨ w = 3 ∨ w = 4 ∨ w = 5 ∨ w = 6 := by omega
  have e1 : r ≥ 16404 := by omega
  have e2 : ¬ r - 16404 ≥ 23269 := by omega
  have e3 : ¬ r - 16404 ≥ 16404 := by omega
  rcases h with h | h | h | h | h | h | h <;> subst h <;> cases p <;> cases l <;> simp only [put, Kinds, e1, e2, e3] <;> simp <;> (repeat' split) <;> omega
theorem put_leap_early (w r : Int) (hw : 0 ≤ w ∧ w < 7) (h0 : 0 ≤ r) (h1 : r < 2651) :
    Kinds (w + put w r false true) true (383 + put ((w + 5) % 7) (r + 23269) true false - put w r false true) := by
  have h : w = 0 ∨ w = 1 ∨ w = 2 ∨ w = 3 ∨ w = 4 ∨ w = 5 ∨ w = 6 := by omega
  have e1 : r + 23269 ≥ 23269 := by omega
  have e2 : r + 23269 ≥ 16404 := by omega
  rcases h with h | h | h | h | h | h | h <;> subst h <;> simp only [put, Kinds, e1, e2] <;> simp
theorem put_leap_late (w r : Int) (hw : 0 ≤ w ∧ w < 7) (h0 : 2651 ≤ r) (h1 : r < 25920) :
    Kinds (w + put w r false true) true (384 + put ((w + 6) % 7) (r - 2651) true false - put w r false true) := by
  have h : w = 0 ∨ w = 1 ∨ w = 2 ∨ w = 3 ∨ w = 4 ∨ w = 5 ∨ w = 6 := by omega
  have e1 : ¬ r - 2651 ≥ 23269 := by omega
  rcases h with h | h | h | h | h | h | h <;> subst h <;> simp only [put, Kinds, e1] <;> simp <;> (repeat' split) <;> omega
theorem kinds_shift (a b n n' : Int) (l : Bool) (h : Kinds a l n) (e : b % 7 = a % 7) (en : n' = n) : Kinds b l n' := by
  unfold Kinds at *; rw [e, en]; exact h
theorem kinds (y : Int) : Kinds (lStart y) (leapB y) (lStart (y + 1) - lStart y) := by
  have hb := dR_in y
  have hw : 0 ≤ dD y % 7 ∧ dD y % 7 < 7 := by omega
  have ey : y + 1 - 1 = y := by omega
  rw [lStart_put y, lStart_put (y + 1), ey]
  cases h : leapB y with
  | false =>
    rcases next_common y h with ⟨hr, hd, he⟩ | ⟨hr, hd, he⟩ <;> rw [hd, he]
    · have q := put_early (dD y % 7) (dR y) (leapB (y - 1)) (leapB (y + 1)) hw hb.1 hr
      refine kinds_shift _ _ _ _ _ q (by omega) ?_
      rw [show (dD y + 354) % 7 = (dD y % 7 + 4) % 7 from by omega]; omega
    · have q := put_late (dD y % 7) (dR y) (leapB (y - 1)) (leapB (y + 1)) hw hr hb.2
      refine kinds_shift _ _ _ _ _ q (by omega) ?_
      rw [show (dD y + 355) % 7 = (dD y % 7 + 5) % 7 from by omega]; omega
  | true =>
    rw [leap_prev y h, leap_next y h]
    rcases next_leap y h with ⟨hr, hd, he⟩ | ⟨hr, hd, he⟩ <;> rw [hd, he]
    · have q := put_leap_early (dD y % 7) (dR y) hw hb.1 hr
      refine kinds_shift _ _ _ _ _ q (by omega) ?_
      rw [show (dD y + 383) % 7 = (dD y % 7 + 5) % 7 from by omega]; omega
    · have q := put_leap_late (dD y % 7) (dR y) hw hr hb.2
      refine kinds_shift _ _ _ _ _ q (by omega) ?_
      rw [show (dD y + 384) % 7 = (dD y % 7 + 6) % 7 from by omega]; omega
theorem lStart_mod (y : Int) : lStart y % 7 = 0 ∨ lStart y % 7 = 1 ∨ lStart y % 7 = 3 ∨ lStart y % 7 = 5 := by
  have h := kinds y; unfold Kinds at h; omega
theorem lStart_pos (y : Int) (h : 1 ≤ y) : 347998 ≤ lStart y := by
  have := moon_pos y h
  rw [lStart_put]; unfold put dD
  have : 0 ≤ moon y / 25920 := by omega
  (repeat' split) <;> omega
theorem jdT_eq (y d : Int) (h : 1 ≤ y) (hd : 1 ≤ d) : jdT y d = lStart y + d - 1 := by
  have := lStart_pos y h
  have e := start_eq y
  unfold jdT midn; split <;> omega
theorem yDays_eq (y : Int) (h : 1 ≤ y) : yDays y = lStart (y + 1) - lStart y := by
  unfold yDays; rw [jdT_eq y 1 h (by omega), jdT_eq (y + 1) 1 (by omega) (by omega)]; omega
theorem lDay_eq (j : Int) : lDay j = j := by unfold lDay; omega
theorem fm19 (x : Int) : x.fmod 19 = x % 19 := Int.fmod_eq_emod_of_nonneg _ (by decide)
theorem fm7 (x : Int) : x.fmod 7 = x % 7 := Int.fmod_eq_emod_of_nonneg _ (by decide)
theorem fm10 (x : Int) : x.fmod 10 = x % 10 := Int.fmod_eq_emod_of_nonneg _ (by decide)
theorem fm25920 (x : Int) : x.fmod 25920 = x % 25920 := Int.fmod_eq_emod_of_nonneg _ (by decide)
theorem fd19 (x : Int) : x.fdiv 19 = x / 19 := Int.fdiv_eq_ediv_of_nonneg _ (by decide)
theorem fd2 (x : Int) : x.fdiv 2 = x / 2 := Int.fdiv_eq_ediv_of_nonneg _ (by decide)
theorem fd25920 (x : Int) : x.fdiv 25920 = x / 25920 := Int.fdiv_eq_ediv_of_nonneg _ (by decide)
theorem leap_fm (y : Int) : decide ((y * 7 + 1).fmod 19 < 7) = leapB y := by rw [fm19]; unfold leapB; rfl
theorem dl1_up (y : Int) (h : (3 * ((235 * y - 234).fdiv 19 * 29 + (12084 + 13753 * (235 * y - 234).fdiv 19).fdiv 25920 + 1)).fmod 7 < 3) : (235 * y - 234).fdiv 19 * 29 + (12084 + 13753 * (235 * y - 234).fdiv 19).fdiv 25920 + 1 = dl1 y := by
  rw [fm7, fd25920, fd19] at h; rw [fd25920, fd19]; unfold dl1 dl0; rw [if_pos h]
theorem dl1_on (y : Int) (h : ¬ (3 * ((235 * y - 234).fdiv 19 * 29 + (12084 + 13753 * (235 * y - 234).fdiv 19).fdiv 25920 + 1)).fmod 7 < 3) : (235 * y - 234).fdiv 19 * 29 + (12084 + 13753 * (235 * y - 234).fdiv 19).fdiv 25920 = dl1 y := by
  rw [fm7, fd25920, fd19] at h; rw [fd25920, fd19]; unfold dl1 dl0; rw [if_neg h]
theorem midn_pos (j : Int) (h : 0 < j) : j = midn j := by unfold midn; rw [if_pos h]
theorem midn_neg (j : Int) (h : ¬ 0 < j) : j + 1 = midn j := by unfold midn; rw [if_neg h]
theorem lDay_fd (j : Int) : (2 * j + 1).fdiv 2 = lDay j := by unfold lDay; rw [fd2]
theorem dl2_two (y : Int) (h : dl1 (y + 1) - dl1 y = 356) : 2 = dl2 y := by unfold dl2; rw [if_pos h]
theorem dl2_one (y : Int) (h : ¬ dl1 (y + 1) - dl1 y = 356) (g : dl1 y - dl1 (y - 1) = 382) : 1 = dl2 y := by unfold dl2; rw [if_neg h, if_pos g]
theorem dl2_none (y : Int) (h : ¬ dl1 (y + 1) - dl1 y = 356) (g : ¬ dl1 y - dl1 (y - 1) = 382) : 0 = dl2 y := by unfold dl2; rw [if_neg h, if_neg g]
theorem year_big (n : Int) (h : -5000 < n) (g : n < 100000) : 5785 + n = wYear n := by unfold wYear; rw [if_pos ⟨h, g⟩]
theorem year_rest (n : Int) (h : ¬ (-5000 < n ∧ n < 100000)) : n.fmod (10 ^ Int.toNat 9) + 1 = wYear n := by
  have e : (10 : Int) ^ Int.toNat 9 = 1000000000 := by decide
  rw [e, Int.fmod_eq_emod_of_nonneg _ (by decide)]; unfold wYear; rw [if_neg h]
theorem year_hi (n : Int) (h : ¬ n < 100000) : n.fmod (10 ^ Int.toNat 9) + 1 = wYear n := year_rest n fun x => h x.2
theorem year_lo (n : Int) (h : ¬ -5000 < n) : n.fmod (10 ^ Int.toNat 9) + 1 = wYear n := year_rest n fun x => h x.1
theorem wYear_pos (n : Int) : 1 ≤ wYear n := by unfold wYear; split <;> omega
theorem months_leap (y : Int) (h : leapB y = true) : 13 = yMonths y := by unfold yMonths; rw [if_pos h]
theorem months_plain (y : Int) (h : leapB y = false) : 12 = yMonths y := by unfold yMonths; rw [if_neg (by rw [h]; decide)]
theorem clash {X : Int} {P : Prop} (h1 : X = 1) (h0 : X = 0) : P := by omega
theorem any3 (x : Int) : ([2, 4, 6].any fun v : Int => v == x) = true ↔ (x = 2 ∨ x = 4 ∨ x = 6) := by
  simp only [List.any_cons, List.any_nil, Bool.or_false, Bool.or_eq_true, beq_iff_eq]; omega
theorem lStart_w (y : Int) : lStart y =
    if ([2, 4, 6].any fun v : Int => v == ((12084 + 765433 * (235 * y - 234).fdiv 19).fdiv 25920).fmod 7) = true then 347998 + (12084 + 765433 * (235 * y - 234).fdiv 19).fdiv 25920 + 1
    else if ((12084 + 765433 * (235 * y - 234).fdiv 19).fdiv 25920).fmod 7 = 1 ∧ 16404 ≤ (12084 + 765433 * (235 * y - 234).fdiv 19).fmod 25920 ∧ 7 ≤ (7 * y + 1).fmod 19 then 347998 + (12084 + 765433 * (235 * y - 234).fdiv 19).fdiv 25920 + 2
    else if ((12084 + 765433 * (235 * y - 234).fdiv 19).fdiv 25920).fmod 7 = 0 ∧ 23269 ≤ (12084 + 765433 * (235 * y - 234).fdiv 19).fmod 25920 ∧ (7 * y - 6).fmod 19 < 7 then 347998 + (12084 + 765433 * (235 * y - 234).fdiv 19).fdiv 25920 + 1
    else 347998 + (12084 + 765433 * (235 * y - 234).fdiv 19).fdiv 25920 := by
  simp only [any3, fm7, fm19, fd19, fd25920, fm25920]; unfold lStart moon; rfl
theorem lStart_bad (y : Int) (h : ([2, 4, 6].any fun v : Int => v == ((12084 + 765433 * (235 * y - 234).fdiv 19).fdiv 25920).fmod 7) = true) : 347998 + (12084 + 765433 * (235 * y - 234).fdiv 19).fdiv 25920 + 1 = lStart y := by
  rw [lStart_w, if_pos h]
theorem lStart_third (y : Int) (h : ([2, 4, 6].any fun v : Int => v == ((12084 + 765433 * (235 * y - 234).fdiv 19).fdiv 25920).fmod 7) = false)
    (h1 : ((12084 + 765433 * (235 * y - 234).fdiv 19).fdiv 25920).fmod 7 = 1) (h2 : 16404 ≤ (12084 + 765433 * (235 * y - 234).fdiv 19).fmod 25920) (h3 : 7 ≤ (7 * y + 1).fmod 19) : 347998 + (12084 + 765433 * (235 * y - 234).fdiv 19).fdiv 25920 + 2 = lStart y := by
  rw [lStart_w, if_neg (by rw [h]; decide), if_pos ⟨h1, h2, h3⟩]
theorem lStart_fourth (y : Int) (h : ([2, 4, 6].any fun v : Int => v == ((12084 + 765433 * (235 * y - 234).fdiv 19).fdiv 25920).fmod 7) = false)
    (h1 : ((12084 + 765433 * (235 * y - 234).fdiv 19).fdiv 25920).fmod 7 = 0) (h2 : 23269 ≤ (12084 + 765433 * (235 * y - 234).fdiv 19).fmod 25920) (h3 : (7 * y - 6).fmod 19 < 7) : 347998 + (12084 + 765433 * (235 * y - 234).fdiv 19).fdiv 25920 + 1 = lStart y := by
  rw [lStart_w, if_neg (by rw [h]; decide), if_neg (by rw [h1]; simp), if_pos ⟨h1, h2, h3⟩]
theorem lStart_none (y : Int) (h : ([2, 4, 6].any fun v : Int => v == ((12084 + 765433 * (235 * y - 234).fdiv 19).fdiv 25920).fmod 7) = false)
    (n1 : ¬ (((12084 + 765433 * (235 * y - 234).fdiv 19).fdiv 25920).fmod 7 = 1 ∧ 16404 ≤ (12084 + 765433 * (235 * y - 234).fdiv 19).fmod 25920 ∧ 7 ≤ (7 * y + 1).fmod 19))
    (n2 : ¬ (((12084 + 765433 * (235 * y - 234).fdiv 19).fdiv 25920).fmod 7 = 0 ∧ 23269 ≤ (12084 + 765433 * (235 * y - 234).fdiv 19).fmod 25920 ∧ (7 * y - 6).fmod 19 < 7)) : 347998 + (12084 + 765433 * (235 * y - 234).fdiv 19).fdiv 25920 = lStart y := by
  rw [lStart_w, if_neg (by rw [h]; decide), if_neg n1, if_neg n2]
theorem no_a {a b c : Prop} (h : ¬ a) : ¬ (a ∧ b ∧ c) := fun x => h x.1
theorem no_b {a b c : Prop} (h : ¬ b) : ¬ (a ∧ b ∧ c) := fun x => h x.2.1
theorem no_c {a b c : Prop} (h : ¬ c) : ¬ (a ∧ b ∧ c) := fun x => h x.2.2
theorem yDays_w (y : Int) : midn (347996 + dl1 (y + 1) + dl2 (y + 1) + 1 + 1) - midn (347996 + dl1 y + dl2 y + 1 + 1) = yDays y := by
  unfold yDays jdT; rfl
theorem prune13 {m : Int} {P Q : Prop} (h : m ≤ 13) (q : Q) : if decide (13 < m) = true then P else Q := by
  rw [if_neg (by rw [decide_eq_true_eq]; omega)]; exact q
theorem any5 (x : Int) : ([2, 4, 6, 10, 13].any fun v : Int => v == x) = true ↔ (x = 2 ∨ x = 4 ∨ x = 6 ∨ x = 10 ∨ x = 13) := by
  simp only [List.any_cons, List.any_nil, Bool.or_false, Bool.or_eq_true, beq_iff_eq]; omega
theorem any5_no (x : Int) (h : ([2, 4, 6, 10, 13].any fun v : Int => v == x) = false) : ¬ (x = 2 ∨ x = 4 ∨ x = 6 ∨ x = 10 ∨ x = 13) := fun g => by
  rw [(any5 x).mpr g] at h; cases h
theorem mLen_fixed (y m : Int) (h : ([2, 4, 6, 10, 13].any fun v : Int => v == m) = true) : 29 = mLen y m := by
  unfold mLen; rw [if_pos ((any5 m).mp h)]
theorem mLen_adar (y m : Int) (h : ([2, 4, 6, 10, 13].any fun v : Int => v == m) = false) (e : m = 12) (l : leapB y = false) : 29 = mLen y m := by
  unfold mLen; rw [if_neg (any5_no m h), if_pos ⟨e, l⟩]
theorem mLen_twelve (y m : Int) (h : ([2, 4, 6, 10, 13].any fun v : Int => v == m) = false) (e : m = 12) (l : leapB y = true) : 30 = mLen y m := by
  unfold mLen; rw [if_neg (any5_no m h), if_neg (by rw [l]; simp), if_neg (by omega), if_neg (by omega)]
theorem mLen_eight (y m : Int) (h : ([2, 4, 6, 10, 13].any fun v : Int => v == m) = false) (e : m = 8) (d : (yDays y).fmod 10 ≠ 5) : 29 = mLen y m := by
  rw [fm10] at d; unfold mLen; rw [if_neg (any5_no m h), if_neg (by omega), if_pos ⟨e, d⟩]
theorem mLen_eight5 (y m : Int) (h : ([2, 4, 6, 10, 13].any fun v : Int => v == m) = false) (e : m = 8) (d : (yDays y).fmod 10 = 5) : 30 = mLen y m := by
  rw [fm10] at d; unfold mLen; rw [if_neg (any5_no m h), if_neg (by omega), if_neg (by omega), if_neg (by omega)]
theorem mLen_nine3 (y m : Int) (h : ([2, 4, 6, 10, 13].any fun v : Int => v == m) = false) (e : m = 9) (d : (yDays y).fmod 10 = 3) : 29 = mLen y m := by
  rw [fm10] at d; unfold mLen; rw [if_neg (any5_no m h), if_neg (by omega), if_neg (by omega), if_pos ⟨e, d⟩]
theorem mLen_nine (y m : Int) (h : ([2, 4, 6, 10, 13].any fun v : Int => v == m) = false) (e : m = 9) (d : (yDays y).fmod 10 ≠ 3) : 30 = mLen y m := by
  rw [fm10] at d; unfold mLen; rw [if_neg (any5_no m h), if_neg (by omega), if_neg (by omega), if_neg (by omega)]
theorem mLen_else (y m : Int) (h : ([2, 4, 6, 10, 13].any fun v : Int => v == m) = false) (a : m ≠ 12) (b : m ≠ 8) (c : m ≠ 9) : 30 = mLen y m := by
  unfold mLen; rw [if_neg (any5_no m h), if_neg (by omega), if_neg (by omega), if_neg (by omega)]
/-- a day of Nisan: past the winter's months -/
@[irreducible] def jdN (y d : Int) : Int :=
  if leapB y = true then midn (347996 + dl1 y + dl2 y + d + 1 + mLen y 7 + mLen y 8 + mLen y 9 + mLen y 10 + mLen y 11 + mLen y 12 + mLen y 13)
  else midn (347996 + dl1 y + dl2 y + d + 1 + mLen y 7 + mLen y 8 + mLen y 9 + mLen y 10 + mLen y 11 + mLen y 12)
theorem jdT_w (y d : Int) : midn (347996 + dl1 y + dl2 y + d + 1) = jdT y d := by unfold jdT; rfl
end Mine
open PySem PySem.W PyProof.Rows
namespace Mine
open_top hd for PySem.Challenge.rw_ar5002_01
/-- what is said of one call of the def at f: its answer, over any ledger, where sz more frames have room -/
abbrev Cl (w : World) (mean : ExcName → Option Value) (mg mb : PySem.Str → Option Value) (f : Addr) (news : List (Addr × Obj)) (pre : Prop) (sz : Nat) (vs : List Value) (R : Tok → Value) : Prop :=
  CbRec PySem.Challenge.rw_ar5002_01.row.prog w (hd.heap_39 w.params) hd.view_39 (looseW hd.view_39 []) mean mg mb f news [] pre sz vs R
theorem Cl.use {w : World} {mean : ExcName → Option Value} {mg mb : PySem.Str → Option Value} {f : Addr} {news : List (Addr × Obj)} {pre : Prop} {sz : Nat} {vs : List Value} {R : Tok → Value}
    {dp un : Nat} {gd : Option (List Code)} {cn : PySem.Str} {cs : Scope} {a : Addr} {ccd : Value} {cl : List (PySem.Str × Addr)} {outer : List Env} {A₀ : Around} {base h₀ : Heap} {L : Addr} {m : PySem.Str → Option Value} {s : Shared} {Q E : Value → Shared → Prop}
    (C : Cl w mean mg mb f news pre sz vs R) (B : Below A₀ base outer h₀) (F : Fr h₀ L s.heap m) (X : (hd.heap_39 w.params).In h₀) (N : News h₀ L s.heap news) (T : Top hd.view_39 (looseW hd.view_39 []) mean mg mb h₀) (hk : cs.kind = .function)
    (hp : pre) (hdp : dp + sz + 1 < recursionLimit) (hun : un + 8 * (sz + 1) < cLine)
    (ret : ∀ (t : Tok) (h' : Heap) (tk' : Nat), Fr h₀ L h' m → News h₀ L h' news → Q (R t) { s with heap := h', toks := tk' }) :
    wpAny (model PySem.Challenge.rw_ar5002_01.row.prog w) (ktrTop dp un gd cn cs L a ccd cl outer) (call (.ref f) vs) Q E s :=
  C dp un gd cn cs a ccd cl outer A₀ base h₀ L m s Q E B F X N T hk hp hdp hun ret
section
local macro_rules | `(tactic| walk_at "eval Call Name") => `(tactic| refine Call_ ?_)
local macro_rules | `(tactic| walk_at "execs nil") => `(tactic| (with_reducible refine wpAny_execs_nil ?_))
local macro_rules | `(tactic| walk_at "execs cons") => `(tactic| ((with_reducible refine wpAny_execs_cons ?_); try dsimp only))
local macro_rules | `(tactic| walk_at "ite") => `(tactic| first | (k_closed; k_dflt (first | refine ite_pos (by decide) ?_ | refine ite_neg (by decide) ?_)) | ((with_reducible refine PyProof.Rows.split_dec ?_ ?_) <;> intro _))
theorem leapC (w : World) (mean : ExcName → Option Value) (mg mb : PySem.Str → Option Value) (news : List (Addr × Obj)) (y : Int) (t : Tok) :
    Cl w mean mg mb 28 news True 0 [Value.int y t] (fun _ => Value.bool (leapB y)) := by
  k_with_none; w_on
  k_with "tree" => exact leap_fm _
  dsimp only [Cl, CbRec, CbLists, CbRet]
  k_fill
  intros; rename_i hret
  refine wpAny_call ?_
  k_dflt cell_enter
  k_steps
  all_goals cb_end hret
theorem midnC (w : World) (mean : ExcName → Option Value) (mg mb : PySem.Str → Option Value) (news : List (Addr × Obj)) (y : Int) (t : Tok) :
    Cl w mean mg mb 21 news True 0 [Value.int y t] (fun t => Value.int (midn y) t) := by
  k_with_none; w_on
  k_with "tree" => first | exact midn_pos _ (by assumption) | exact midn_neg _ (by assumption)
  dsimp only [Cl, CbRec, CbLists, CbRet]
  k_fill
  intros; rename_i hret
  refine wpAny_call ?_
  k_dflt cell_enter
  k_steps
  all_goals cb_end hret
theorem delayC (w : World) (mean : ExcName → Option Value) (mg mb : PySem.Str → Option Value) (news : List (Addr × Obj)) (y : Int) (t : Tok) :
    Cl w mean mg mb 42 news True 0 [Value.int y t] (fun t => Value.int (dl1 y) t) := by
  k_with_none; w_on
  k_with "tree" => first | exact dl1_up _ (by assumption) | exact dl1_on _ (by assumption)
  dsimp only [Cl, CbRec, CbLists, CbRet]
  k_fill
  intros; rename_i hret
  refine wpAny_call ?_
  k_dflt cell_enter
  k_steps
  all_goals cb_end hret
theorem lDayC (w : World) (mean : ExcName → Option Value) (mg mb : PySem.Str → Option Value) (news : List (Addr × Obj)) (y : Int) (t : Tok) :
    Cl w mean mg mb 98 news True 0 [Value.int y t] (fun t => Value.int (lDay y) t) := by
  k_with_none; w_on
  k_with "tree" => exact lDay_fd _
  dsimp only [Cl, CbRec, CbLists, CbRet]
  k_fill
  intros; rename_i hret
  refine wpAny_call ?_
  k_dflt cell_enter
  k_steps
  all_goals cb_end hret
theorem wYearC (w : World) (mean : ExcName → Option Value) (mg mb : PySem.Str → Option Value) (news : List (Addr × Obj)) (y : Int) (t : Tok) :
    Cl w mean mg mb 91 news True 0 [Value.int y t] (fun t => Value.int (wYear y) t) := by
  k_with_none; w_on
  k_with "tree" => first | exact year_big _ (by assumption) (by assumption) | exact year_hi _ (by assumption) | exact year_lo _ (by assumption)
  dsimp only [Cl, CbRec, CbLists, CbRet]
  k_fill
  intros; rename_i hret
  refine wpAny_call ?_
  k_dflt cell_enter
  k_steps
  all_goals cb_end hret
theorem lStartC (w : World) (mean : ExcName → Option Value) (mg mb : PySem.Str → Option Value) (news : List (Addr × Obj)) (y : Int) (t : Tok) :
    Cl w mean mg mb 112 news True 0 [Value.int y t] (fun t => Value.int (lStart y) t) := by
  k_with_none; w_on
  k_with "tree" => first
    | exact lStart_bad _ (by assumption)
    | exact lStart_third _ (by assumption) (by assumption) (by assumption) (by assumption)
    | exact clash (by assumption) (by assumption)
    | exact lStart_fourth _ (by assumption) (by assumption) (by assumption) (by assumption)
    | exact lStart_none _ (by assumption) (by first | exact no_a (by assumption) | exact no_b (by assumption) | exact no_c (by assumption)) (by first | exact no_a (by assumption) | exact no_b (by assumption) | exact no_c (by assumption))
  dsimp only [Cl, CbRec, CbLists, CbRet]
  k_fill
  intros; rename_i hret
  refine wpAny_call ?_
  k_dflt cell_enter
  k_steps
  all_goals cb_end hret
end
section
local macro_rules | `(tactic| walk_at "eval Call Name") => `(tactic| refine Call_ ?_)
local macro_rules | `(tactic| walk_at "execs nil") => `(tactic| (with_reducible refine wpAny_execs_nil ?_))
local macro_rules | `(tactic| walk_at "execs cons") => `(tactic| ((with_reducible refine wpAny_execs_cons ?_); try dsimp only))
local macro_rules | `(tactic| walk_at "ite") => `(tactic| first | (k_closed; k_dflt (first | refine ite_pos (by decide) ?_ | refine ite_neg (by decide) ?_)) | ((with_reducible refine PyProof.Rows.split_dec ?_ ?_) <;> intro _))
local macro_rules | `(tactic| walk_at "call ref") => `(tactic| (k_here; (with_reducible show wpAny _ _ (call (Value.ref 28) _) _ _ _); k_dflt (refine' Cl.use (leapC _ _ _ _ _ _ _) ?k1 ?k2 ?k3 ?k4 ?k5 ?kK trivial ?kd ?ku ?_; (case k1 => k_asm); (case k2 => k_asm); (case k3 => k_asm); (case k4 => k_asm); (case k5 => k_asm); (case kK => first | exact rfl | assumption); (case kd => cb_room); (case ku => cb_units); intro t9 h9 tk9 F9 N9; (try dsimp only); (try k_fold))))
local macro_rules | `(tactic| walk_at "call ref") => `(tactic| (k_here; (with_reducible show wpAny _ _ (call (Value.ref 21) _) _ _ _); k_dflt (refine' Cl.use (midnC _ _ _ _ _ _ _) ?k1 ?k2 ?k3 ?k4 ?k5 ?kK trivial ?kd ?ku ?_; (case k1 => k_asm); (case k2 => k_asm); (case k3 => k_asm); (case k4 => k_asm); (case k5 => k_asm); (case kK => first | exact rfl | assumption); (case kd => cb_room); (case ku => cb_units); intro t9 h9 tk9 F9 N9; (try dsimp only); (try k_fold))))
local macro_rules | `(tactic| walk_at "call ref") => `(tactic| (k_here; (with_reducible show wpAny _ _ (call (Value.ref 42) _) _ _ _); k_dflt (refine' Cl.use (delayC _ _ _ _ _ _ _) ?k1 ?k2 ?k3 ?k4 ?k5 ?kK trivial ?kd ?ku ?_; (case k1 => k_asm); (case k2 => k_asm); (case k3 => k_asm); (case k4 => k_asm); (case k5 => k_asm); (case kK => first | exact rfl | assumption); (case kd => cb_room); (case ku => cb_units); intro t9 h9 tk9 F9 N9; (try dsimp only); (try k_fold))))
local macro_rules | `(tactic| walk_at "call ref") => `(tactic| (k_here; (with_reducible show wpAny _ _ (call (Value.ref 98) _) _ _ _); k_dflt (refine' Cl.use (lDayC _ _ _ _ _ _ _) ?k1 ?k2 ?k3 ?k4 ?k5 ?kK trivial ?kd ?ku ?_; (case k1 => k_asm); (case k2 => k_asm); (case k3 => k_asm); (case k4 => k_asm); (case k5 => k_asm); (case kK => first | exact rfl | assumption); (case kd => cb_room); (case ku => cb_units); intro t9 h9 tk9 F9 N9; (try dsimp only); (try k_fold))))
local macro_rules | `(tactic| walk_at "call ref") => `(tactic| (k_here; (with_reducible show wpAny _ _ (call (Value.ref 91) _) _ _ _); k_dflt (refine' Cl.use (wYearC _ _ _ _ _ _ _) ?k1 ?k2 ?k3 ?k4 ?k5 ?kK trivial ?kd ?ku ?_; (case k1 => k_asm); (case k2 => k_asm); (case k3 => k_asm); (case k4 => k_asm); (case k5 => k_asm); (case kK => first | exact rfl | assumption); (case kd => cb_room); (case ku => cb_units); intro t9 h9 tk9 F9 N9; (try dsimp only); (try k_fold))))
local macro_rules | `(tactic| walk_at "call ref") => `(tactic| (k_here; (with_reducible show wpAny _ _ (call (Value.ref 112) _) _ _ _); k_dflt (refine' Cl.use (lStartC _ _ _ _ _ _ _) ?k1 ?k2 ?k3 ?k4 ?k5 ?kK trivial ?kd ?ku ?_; (case k1 => k_asm); (case k2 => k_asm); (case k3 => k_asm); (case k4 => k_asm); (case k5 => k_asm); (case kK => first | exact rfl | assumption); (case kd => cb_room); (case ku => cb_units); intro t9 h9 tk9 F9 N9; (try dsimp only); (try k_fold))))
theorem yMonthsC (w : World) (mean : ExcName → Option Value) (mg mb : PySem.Str → Option Value) (news : List (Addr × Obj)) (y : Int) (ty : Tok) :
    Cl w mean mg mb 35 news (True) 1 [Value.int y ty] (fun t => Value.int (yMonths y) t) := by
  k_with_none; w_on
  k_with "tree" => first | exact months_leap _ (by assumption) | exact months_plain _ (by assumption)
  dsimp only [Cl, CbRec, CbLists, CbRet]
  k_fill
  intros; rename_i hret
  refine wpAny_call ?_
  k_dflt cell_enter
  k_steps
  all_goals cb_end hret
theorem delay2C (w : World) (mean : ExcName → Option Value) (mg mb : PySem.Str → Option Value) (news : List (Addr × Obj)) (y : Int) (ty : Tok) :
    Cl w mean mg mb 49 news (True) 1 [Value.int y ty] (fun t => Value.int (dl2 y) t) := by
  k_with_none; w_on
  k_with "tree" => first | exact dl2_two _ (by assumption) | exact dl2_one _ (by assumption) (by assumption) | exact dl2_none _ (by assumption) (by assumption)
  dsimp only [Cl, CbRec, CbLists, CbRet]
  k_fill
  intros; rename_i hret
  refine wpAny_call ?_
  k_dflt cell_enter
  k_steps
  all_goals cb_end hret
end
section
local macro_rules | `(tactic| walk_at "eval Call Name") => `(tactic| refine Call_ ?_)
local macro_rules | `(tactic| walk_at "execs nil") => `(tactic| (with_reducible refine wpAny_execs_nil ?_))
local macro_rules | `(tactic| walk_at "execs cons") => `(tactic| ((with_reducible refine wpAny_execs_cons ?_); try dsimp only))
local macro_rules | `(tactic| walk_at "ite") => `(tactic| first | (k_closed; k_dflt (first | refine ite_pos (by decide) ?_ | refine ite_neg (by decide) ?_)) | ((with_reducible refine PyProof.Rows.split_dec ?_ ?_) <;> intro _))
local macro_rules | `(tactic| walk_at "call ref") => `(tactic| (k_here; (with_reducible show wpAny _ _ (call (Value.ref 28) _) _ _ _); k_dflt (refine' Cl.use (leapC _ _ _ _ _ _ _) ?k1 ?k2 ?k3 ?k4 ?k5 ?kK trivial ?kd ?ku ?_; (case k1 => k_asm); (case k2 => k_asm); (case k3 => k_asm); (case k4 => k_asm); (case k5 => k_asm); (case kK => first | exact rfl | assumption); (case kd => cb_room); (case ku => cb_units); intro t9 h9 tk9 F9 N9; (try dsimp only); (try k_fold))))
local macro_rules | `(tactic| walk_at "call ref") => `(tactic| (k_here; (with_reducible show wpAny _ _ (call (Value.ref 21) _) _ _ _); k_dflt (refine' Cl.use (midnC _ _ _ _ _ _ _) ?k1 ?k2 ?k3 ?k4 ?k5 ?kK trivial ?kd ?ku ?_; (case k1 => k_asm); (case k2 => k_asm); (case k3 => k_asm); (case k4 => k_asm); (case k5 => k_asm); (case kK => first | exact rfl | assumption); (case kd => cb_room); (case ku => cb_units); intro t9 h9 tk9 F9 N9; (try dsimp only); (try k_fold))))
local macro_rules | `(tactic| walk_at "call ref") => `(tactic| (k_here; (with_reducible show wpAny _ _ (call (Value.ref 42) _) _ _ _); k_dflt (refine' Cl.use (delayC _ _ _ _ _ _ _) ?k1 ?k2 ?k3 ?k4 ?k5 ?kK trivial ?kd ?ku ?_; (case k1 => k_asm); (case k2 => k_asm); (case k3 => k_asm); (case k4 => k_asm); (case k5 => k_asm); (case kK => first | exact rfl | assumption); (case kd => cb_room); (case ku => cb_units); intro t9 h9 tk9 F9 N9; (try dsimp only); (try k_fold))))
local macro_rules | `(tactic| walk_at "call ref") => `(tactic| (k_here; (with_reducible show wpAny _ _ (call (Value.ref 98) _) _ _ _); k_dflt (refine' Cl.use (lDayC _ _ _ _ _ _ _) ?k1 ?k2 ?k3 ?k4 ?k5 ?kK trivial ?kd ?ku ?_; (case k1 => k_asm); (case k2 => k_asm); (case k3 => k_asm); (case k4 => k_asm); (case k5 => k_asm); (case kK => first | exact rfl | assumption); (case kd => cb_room); (case ku => cb_units); intro t9 h9 tk9 F9 N9; (try dsimp only); (try k_fold))))
local macro_rules | `(tactic| walk_at "call ref") => `(tactic| (k_here; (with_reducible show wpAny _ _ (call (Value.ref 91) _) _ _ _); k_dflt (refine' Cl.use (wYearC _ _ _ _ _ _ _) ?k1 ?k2 ?k3 ?k4 ?k5 ?kK trivial ?kd ?ku ?_; (case k1 => k_asm); (case k2 => k_asm); (case k3 => k_asm); (case k4 => k_asm); (case k5 => k_asm); (case kK => first | exact rfl | assumption); (case kd => cb_room); (case ku => cb_units); intro t9 h9 tk9 F9 N9; (try dsimp only); (try k_fold))))
local macro_rules | `(tactic| walk_at "call ref") => `(tactic| (k_here; (with_reducible show wpAny _ _ (call (Value.ref 112) _) _ _ _); k_dflt (refine' Cl.use (lStartC _ _ _ _ _ _ _) ?k1 ?k2 ?k3 ?k4 ?k5 ?kK trivial ?kd ?ku ?_; (case k1 => k_asm); (case k2 => k_asm); (case k3 => k_asm); (case k4 => k_asm); (case k5 => k_asm); (case kK => first | exact rfl | assumption); (case kd => cb_room); (case ku => cb_units); intro t9 h9 tk9 F9 N9; (try dsimp only); (try k_fold))))
local macro_rules | `(tactic| walk_at "call ref") => `(tactic| (k_here; (with_reducible show wpAny _ _ (call (Value.ref 35) _) _ _ _); k_dflt (refine' Cl.use (yMonthsC _ _ _ _ _ _ _) ?k1 ?k2 ?k3 ?k4 ?k5 ?kK trivial ?kd ?ku ?_; (case k1 => k_asm); (case k2 => k_asm); (case k3 => k_asm); (case k4 => k_asm); (case k5 => k_asm); (case kK => first | exact rfl | assumption); (case kd => cb_room); (case ku => cb_units); intro t9 h9 tk9 F9 N9; (try dsimp only); (try k_fold))))
local macro_rules | `(tactic| walk_at "call ref") => `(tactic| (k_here; (with_reducible show wpAny _ _ (call (Value.ref 49) _) _ _ _); k_dflt (refine' Cl.use (delay2C _ _ _ _ _ _ _) ?k1 ?k2 ?k3 ?k4 ?k5 ?kK trivial ?kd ?ku ?_; (case k1 => k_asm); (case k2 => k_asm); (case k3 => k_asm); (case k4 => k_asm); (case k5 => k_asm); (case kK => first | exact rfl | assumption); (case kd => cb_room); (case ku => cb_units); intro t9 h9 tk9 F9 N9; (try dsimp only); (try k_fold))))
local macro_rules | `(tactic| walk_at "call ref") => `(tactic| (k_here; (with_reducible show wpAny _ _ (call (Value.ref 77) _) _ _ _); refine wpAny_call ?_; k_dflt (refine' code_def ?k1 ?k2 ?k3 ?k4 ?k5 ?kA ?kF ?kK ?k6 ?k7 ?k8 ?k9 ?kB ?_ ?c2 ?c3 ?c4 ?c5; (case kA => exact rfl); (case kF => exact rfl); (case kK => first | exact rfl | assumption); (case k1 => k_asm); (case k2 => k_asm); (case k3 => k_asm); (case k4 => k_asm); (case k5 => k_asm); (case k6 => k_is); (case k7 => k_is); (case k8 => first | ktr_room | cb_room); (case k9 => exact BindsTo.of_eq rfl); (case c5 => decide); (case kB => exact locs rfl); (case c2 => exact rfl); (case c3 => exact rfl); (case c4 => exact rfl); k_whole; intro g' L' h' FG' F' N' B' X' T'; (try dsimp only); (try k_lift B'); (try k_fold))))
local macro_rules | `(tactic| walk_at "call ref") => `(tactic| (k_here; (with_reducible show wpAny _ _ (call (Value.ref 70) _) _ _ _); refine wpAny_call ?_; k_dflt (refine' code_def ?k1 ?k2 ?k3 ?k4 ?k5 ?kA ?kF ?kK ?k6 ?k7 ?k8 ?k9 ?kB ?_ ?c2 ?c3 ?c4 ?c5; (case kA => exact rfl); (case kF => exact rfl); (case kK => first | exact rfl | assumption); (case k1 => k_asm); (case k2 => k_asm); (case k3 => k_asm); (case k4 => k_asm); (case k5 => k_asm); (case k6 => k_is); (case k7 => k_is); (case k8 => first | ktr_room | cb_room); (case k9 => exact BindsTo.of_eq rfl); (case c5 => decide); (case kB => exact locs rfl); (case c2 => exact rfl); (case c3 => exact rfl); (case c4 => exact rfl); k_whole; intro g' L' h' FG' F' N' B' X' T'; (try dsimp only); (try k_lift B'); (try k_fold))))
theorem yDaysC (w : World) (mean : ExcName → Option Value) (mg mb : PySem.Str → Option Value) (news : List (Addr × Obj)) (y : Int) (ty : Tok) :
    Cl w mean mg mb 56 news (True) 5 [Value.int y ty] (fun t => Value.int (yDays y) t) := by
  k_with_none; w_on
  k_with "tree" => exact yDays_w _
  dsimp only [Cl, CbRec, CbLists, CbRet]
  k_fill
  intros; rename_i hret
  refine wpAny_call ?_
  k_dflt cell_enter
  k_steps
  all_goals cb_end hret
end
section
local macro_rules | `(tactic| walk_at "eval Call Name") => `(tactic| refine Call_ ?_)
local macro_rules | `(tactic| walk_at "execs nil") => `(tactic| (with_reducible refine wpAny_execs_nil ?_))
local macro_rules | `(tactic| walk_at "execs cons") => `(tactic| ((with_reducible refine wpAny_execs_cons ?_); try dsimp only))
local macro_rules | `(tactic| walk_at "ite") => `(tactic| first | (k_closed; k_dflt (first | refine ite_pos (by decide) ?_ | refine ite_neg (by decide) ?_)) | ((with_reducible refine PyProof.Rows.split_dec ?_ ?_) <;> intro _))
local macro_rules | `(tactic| walk_at "call ref") => `(tactic| (k_here; (with_reducible show wpAny _ _ (call (Value.ref 28) _) _ _ _); k_dflt (refine' Cl.use (leapC _ _ _ _ _ _ _) ?k1 ?k2 ?k3 ?k4 ?k5 ?kK trivial ?kd ?ku ?_; (case k1 => k_asm); (case k2 => k_asm); (case k3 => k_asm); (case k4 => k_asm); (case k5 => k_asm); (case kK => first | exact rfl | assumption); (case kd => cb_room); (case ku => cb_units); intro t9 h9 tk9 F9 N9; (try dsimp only); (try k_fold))))
local macro_rules | `(tactic| walk_at "call ref") => `(tactic| (k_here; (with_reducible show wpAny _ _ (call (Value.ref 21) _) _ _ _); k_dflt (refine' Cl.use (midnC _ _ _ _ _ _ _) ?k1 ?k2 ?k3 ?k4 ?k5 ?kK trivial ?kd ?ku ?_; (case k1 => k_asm); (case k2 => k_asm); (case k3 => k_asm); (case k4 => k_asm); (case k5 => k_asm); (case kK => first | exact rfl | assumption); (case kd => cb_room); (case ku => cb_units); intro t9 h9 tk9 F9 N9; (try dsimp only); (try k_fold))))
local macro_rules | `(tactic| walk_at "call ref") => `(tactic| (k_here; (with_reducible show wpAny _ _ (call (Value.ref 42) _) _ _ _); k_dflt (refine' Cl.use (delayC _ _ _ _ _ _ _) ?k1 ?k2 ?k3 ?k4 ?k5 ?kK trivial ?kd ?ku ?_; (case k1 => k_asm); (case k2 => k_asm); (case k3 => k_asm); (case k4 => k_asm); (case k5 => k_asm); (case kK => first | exact rfl | assumption); (case kd => cb_room); (case ku => cb_units); intro t9 h9 tk9 F9 N9; (try dsimp only); (try k_fold))))
local macro_rules | `(tactic| walk_at "call ref") => `(tactic| (k_here; (with_reducible show wpAny _ _ (call (Value.ref 98) _) _ _ _); k_dflt (refine' Cl.use (lDayC _ _ _ _ _ _ _) ?k1 ?k2 ?k3 ?k4 ?k5 ?kK trivial ?kd ?ku ?_; (case k1 => k_asm); (case k2 => k_asm); (case k3 => k_asm); (case k4 => k_asm); (case k5 => k_asm); (case kK => first | exact rfl | assumption); (case kd => cb_room); (case ku => cb_units); intro t9 h9 tk9 F9 N9; (try dsimp only); (try k_fold))))
local macro_rules | `(tactic| walk_at "call ref") => `(tactic| (k_here; (with_reducible show wpAny _ _ (call (Value.ref 91) _) _ _ _); k_dflt (refine' Cl.use (wYearC _ _ _ _ _ _ _) ?k1 ?k2 ?k3 ?k4 ?k5 ?kK trivial ?kd ?ku ?_; (case k1 => k_asm); (case k2 => k_asm); (case k3 => k_asm); (case k4 => k_asm); (case k5 => k_asm); (case kK => first | exact rfl | assumption); (case kd => cb_room); (case ku => cb_units); intro t9 h9 tk9 F9 N9; (try dsimp only); (try k_fold))))
local macro_rules | `(tactic| walk_at "call ref") => `(tactic| (k_here; (with_reducible show wpAny _ _ (call (Value.ref 112) _) _ _ _); k_dflt (refine' Cl.use (lStartC _ _ _ _ _ _ _) ?k1 ?k2 ?k3 ?k4 ?k5 ?kK trivial ?kd ?ku ?_; (case k1 => k_asm); (case k2 => k_asm); (case k3 => k_asm); (case k4 => k_asm); (case k5 => k_asm); (case kK => first | exact rfl | assumption); (case kd => cb_room); (case ku => cb_units); intro t9 h9 tk9 F9 N9; (try dsimp only); (try k_fold))))
local macro_rules | `(tactic| walk_at "call ref") => `(tactic| (k_here; (with_reducible show wpAny _ _ (call (Value.ref 35) _) _ _ _); k_dflt (refine' Cl.use (yMonthsC _ _ _ _ _ _ _) ?k1 ?k2 ?k3 ?k4 ?k5 ?kK trivial ?kd ?ku ?_; (case k1 => k_asm); (case k2 => k_asm); (case k3 => k_asm); (case k4 => k_asm); (case k5 => k_asm); (case kK => first | exact rfl | assumption); (case kd => cb_room); (case ku => cb_units); intro t9 h9 tk9 F9 N9; (try dsimp only); (try k_fold))))
local macro_rules | `(tactic| walk_at "call ref") => `(tactic| (k_here; (with_reducible show wpAny _ _ (call (Value.ref 49) _) _ _ _); k_dflt (refine' Cl.use (delay2C _ _ _ _ _ _ _) ?k1 ?k2 ?k3 ?k4 ?k5 ?kK trivial ?kd ?ku ?_; (case k1 => k_asm); (case k2 => k_asm); (case k3 => k_asm); (case k4 => k_asm); (case k5 => k_asm); (case kK => first | exact rfl | assumption); (case kd => cb_room); (case ku => cb_units); intro t9 h9 tk9 F9 N9; (try dsimp only); (try k_fold))))
local macro_rules | `(tactic| walk_at "call ref") => `(tactic| (k_here; (with_reducible show wpAny _ _ (call (Value.ref 56) _) _ _ _); k_dflt (refine' Cl.use (yDaysC _ _ _ _ _ _ _) ?k1 ?k2 ?k3 ?k4 ?k5 ?kK trivial ?kd ?ku ?_; (case k1 => k_asm); (case k2 => k_asm); (case k3 => k_asm); (case k4 => k_asm); (case k5 => k_asm); (case kK => first | exact rfl | assumption); (case kd => cb_room); (case ku => cb_units); intro t9 h9 tk9 F9 N9; (try dsimp only); (try k_fold))))
local macro_rules | `(tactic| walk_at "call ref") => `(tactic| (k_here; (with_reducible show wpAny _ _ (call (Value.ref 77) _) _ _ _); refine wpAny_call ?_; k_dflt (refine' code_def ?k1 ?k2 ?k3 ?k4 ?k5 ?kA ?kF ?kK ?k6 ?k7 ?k8 ?k9 ?kB ?_ ?c2 ?c3 ?c4 ?c5; (case kA => exact rfl); (case kF => exact rfl); (case kK => first | exact rfl | assumption); (case k1 => k_asm); (case k2 => k_asm); (case k3 => k_asm); (case k4 => k_asm); (case k5 => k_asm); (case k6 => k_is); (case k7 => k_is); (case k8 => first | ktr_room | cb_room); (case k9 => exact BindsTo.of_eq rfl); (case c5 => decide); (case kB => exact locs rfl); (case c2 => exact rfl); (case c3 => exact rfl); (case c4 => exact rfl); k_whole; intro g' L' h' FG' F' N' B' X' T'; (try dsimp only); (try k_lift B'); (try k_fold))))
local macro_rules | `(tactic| walk_at "call ref") => `(tactic| (k_here; (with_reducible show wpAny _ _ (call (Value.ref 70) _) _ _ _); refine wpAny_call ?_; k_dflt (refine' code_def ?k1 ?k2 ?k3 ?k4 ?k5 ?kA ?kF ?kK ?k6 ?k7 ?k8 ?k9 ?kB ?_ ?c2 ?c3 ?c4 ?c5; (case kA => exact rfl); (case kF => exact rfl); (case kK => first | exact rfl | assumption); (case k1 => k_asm); (case k2 => k_asm); (case k3 => k_asm); (case k4 => k_asm); (case k5 => k_asm); (case k6 => k_is); (case k7 => k_is); (case k8 => first | ktr_room | cb_room); (case k9 => exact BindsTo.of_eq rfl); (case c5 => decide); (case kB => exact locs rfl); (case c2 => exact rfl); (case c3 => exact rfl); (case c4 => exact rfl); k_whole; intro g' L' h' FG' F' N' B' X' T'; (try dsimp only); (try k_lift B'); (try k_fold))))
local macro_rules | `(tactic| walk_at "ite") => `(tactic| (with_reducible refine prune13 (by assumption) ?_))
theorem mLenC (w : World) (mean : ExcName → Option Value) (mg mb : PySem.Str → Option Value) (news : List (Addr × Obj)) (y : Int) (ty : Tok) (m : Int) (tm : Tok) :
    Cl w mean mg mb 63 news (m ≤ 13) 10 [Value.int y ty, Value.int m tm] (fun t => Value.int (mLen y m) t) := by
  k_with_none; w_on
  k_with "tree" => first
    | exact mLen_fixed _ _ (by assumption)
    | exact mLen_adar _ _ (by assumption) (by assumption) (by assumption)
    | (exfalso; omega)
    | exact mLen_twelve _ _ (by assumption) (by assumption) (by assumption)
    | exact mLen_eight _ _ (by assumption) (by assumption) (by assumption)
    | exact mLen_eight5 _ _ (by assumption) (by assumption) (by assumption)
    | exact mLen_nine3 _ _ (by assumption) (by assumption) (by assumption)
    | exact mLen_nine _ _ (by assumption) (by assumption) (by assumption)
    | exact mLen_else _ _ (by assumption) (by assumption) (by assumption) (by assumption)
  dsimp only [Cl, CbRec, CbLists, CbRet]
  k_fill
  intros; rename_i hret
  refine wpAny_call ?_
  k_dflt cell_enter
  k_steps
  all_goals cb_end hret
end
section
local macro_rules | `(tactic| walk_at "eval Call Name") => `(tactic| refine Call_ ?_)
local macro_rules | `(tactic| walk_at "execs nil") => `(tactic| (with_reducible refine wpAny_execs_nil ?_))
local macro_rules | `(tactic| walk_at "execs cons") => `(tactic| ((with_reducible refine wpAny_execs_cons ?_); try dsimp only))
local macro_rules | `(tactic| walk_at "ite") => `(tactic| first | (k_closed; k_dflt (first | refine ite_pos (by decide) ?_ | refine ite_neg (by decide) ?_)) | ((with_reducible refine PyProof.Rows.split_dec ?_ ?_) <;> intro _))
local macro_rules | `(tactic| walk_at "call ref") => `(tactic| (k_here; (with_reducible show wpAny _ _ (call (Value.ref 28) _) _ _ _); k_dflt (refine' Cl.use (leapC _ _ _ _ _ _ _) ?k1 ?k2 ?k3 ?k4 ?k5 ?kK trivial ?kd ?ku ?_; (case k1 => k_asm); (case k2 => k_asm); (case k3 => k_asm); (case k4 => k_asm); (case k5 => k_asm); (case kK => first | exact rfl | assumption); (case kd => cb_room); (case ku => cb_units); intro t9 h9 tk9 F9 N9; (try dsimp only); (try k_fold))))
local macro_rules | `(tactic| walk_at "call ref") => `(tactic| (k_here; (with_reducible show wpAny _ _ (call (Value.ref 21) _) _ _ _); k_dflt (refine' Cl.use (midnC _ _ _ _ _ _ _) ?k1 ?k2 ?k3 ?k4 ?k5 ?kK trivial ?kd ?ku ?_; (case k1 => k_asm); (case k2 => k_asm); (case k3 => k_asm); (case k4 => k_asm); (case k5 => k_asm); (case kK => first | exact rfl | assumption); (case kd => cb_room); (case ku => cb_units); intro t9 h9 tk9 F9 N9; (try dsimp only); (try k_fold))))
local macro_rules | `(tactic| walk_at "call ref") => `(tactic| (k_here; (with_reducible show wpAny _ _ (call (Value.ref 42) _) _ _ _); k_dflt (refine' Cl.use (delayC _ _ _ _ _ _ _) ?k1 ?k2 ?k3 ?k4 ?k5 ?kK trivial ?kd ?ku ?_; (case k1 => k_asm); (case k2 => k_asm); (case k3 => k_asm); (case k4 => k_asm); (case k5 => k_asm); (case kK => first | exact rfl | assumption); (case kd => cb_room); (case ku => cb_units); intro t9 h9 tk9 F9 N9; (try dsimp only); (try k_fold))))
local macro_rules | `(tactic| walk_at "call ref") => `(tactic| (k_here; (with_reducible show wpAny _ _ (call (Value.ref 98) _) _ _ _); k_dflt (refine' Cl.use (lDayC _ _ _ _ _ _ _) ?k1 ?k2 ?k3 ?k4 ?k5 ?kK trivial ?kd ?ku ?_; (case k1 => k_asm); (case k2 => k_asm); (case k3 => k_asm); (case k4 => k_asm); (case k5 => k_asm); (case kK => first | exact rfl | assumption); (case kd => cb_room); (case ku => cb_units); intro t9 h9 tk9 F9 N9; (try dsimp only); (try k_fold))))
local macro_rules | `(tactic| walk_at "call ref") => `(tactic| (k_here; (with_reducible show wpAny _ _ (call (Value.ref 91) _) _ _ _); k_dflt (refine' Cl.use (wYearC _ _ _ _ _ _ _) ?k1 ?k2 ?k3 ?k4 ?k5 ?kK trivial ?kd ?ku ?_; (case k1 => k_asm); (case k2 => k_asm); (case k3 => k_asm); (case k4 => k_asm); (case k5 => k_asm); (case kK => first | exact rfl | assumption); (case kd => cb_room); (case ku => cb_units); intro t9 h9 tk9 F9 N9; (try dsimp only); (try k_fold))))
local macro_rules | `(tactic| walk_at "call ref") => `(tactic| (k_here; (with_reducible show wpAny _ _ (call (Value.ref 112) _) _ _ _); k_dflt (refine' Cl.use (lStartC _ _ _ _ _ _ _) ?k1 ?k2 ?k3 ?k4 ?k5 ?kK trivial ?kd ?ku ?_; (case k1 => k_asm); (case k2 => k_asm); (case k3 => k_asm); (case k4 => k_asm); (case k5 => k_asm); (case kK => first | exact rfl | assumption); (case kd => cb_room); (case ku => cb_units); intro t9 h9 tk9 F9 N9; (try dsimp only); (try k_fold))))
local macro_rules | `(tactic| walk_at "call ref") => `(tactic| (k_here; (with_reducible show wpAny _ _ (call (Value.ref 35) _) _ _ _); k_dflt (refine' Cl.use (yMonthsC _ _ _ _ _ _ _) ?k1 ?k2 ?k3 ?k4 ?k5 ?kK trivial ?kd ?ku ?_; (case k1 => k_asm); (case k2 => k_asm); (case k3 => k_asm); (case k4 => k_asm); (case k5 => k_asm); (case kK => first | exact rfl | assumption); (case kd => cb_room); (case ku => cb_units); intro t9 h9 tk9 F9 N9; (try dsimp only); (try k_fold))))
local macro_rules | `(tactic| walk_at "call ref") => `(tactic| (k_here; (with_reducible show wpAny _ _ (call (Value.ref 49) _) _ _ _); k_dflt (refine' Cl.use (delay2C _ _ _ _ _ _ _) ?k1 ?k2 ?k3 ?k4 ?k5 ?kK trivial ?kd ?ku ?_; (case k1 => k_asm); (case k2 => k_asm); (case k3 => k_asm); (case k4 => k_asm); (case k5 => k_asm); (case kK => first | exact rfl | assumption); (case kd => cb_room); (case ku => cb_units); intro t9 h9 tk9 F9 N9; (try dsimp only); (try k_fold))))
local macro_rules | `(tactic| walk_at "call ref") => `(tactic| (k_here; (with_reducible show wpAny _ _ (call (Value.ref 56) _) _ _ _); k_dflt (refine' Cl.use (yDaysC _ _ _ _ _ _ _) ?k1 ?k2 ?k3 ?k4 ?k5 ?kK trivial ?kd ?ku ?_; (case k1 => k_asm); (case k2 => k_asm); (case k3 => k_asm); (case k4 => k_asm); (case k5 => k_asm); (case kK => first | exact rfl | assumption); (case kd => cb_room); (case ku => cb_units); intro t9 h9 tk9 F9 N9; (try dsimp only); (try k_fold))))
local macro_rules | `(tactic| walk_at "call ref") => `(tactic| (k_here; (with_reducible show wpAny _ _ (call (Value.ref 77) _) _ _ _); refine wpAny_call ?_; k_dflt (refine' code_def ?k1 ?k2 ?k3 ?k4 ?k5 ?kA ?kF ?kK ?k6 ?k7 ?k8 ?k9 ?kB ?_ ?c2 ?c3 ?c4 ?c5; (case kA => exact rfl); (case kF => exact rfl); (case kK => first | exact rfl | assumption); (case k1 => k_asm); (case k2 => k_asm); (case k3 => k_asm); (case k4 => k_asm); (case k5 => k_asm); (case k6 => k_is); (case k7 => k_is); (case k8 => first | ktr_room | cb_room); (case k9 => exact BindsTo.of_eq rfl); (case c5 => decide); (case kB => exact locs rfl); (case c2 => exact rfl); (case c3 => exact rfl); (case c4 => exact rfl); k_whole; intro g' L' h' FG' F' N' B' X' T'; (try dsimp only); (try k_lift B'); (try k_fold))))
local macro_rules | `(tactic| walk_at "call ref") => `(tactic| (k_here; (with_reducible show wpAny _ _ (call (Value.ref 70) _) _ _ _); refine wpAny_call ?_; k_dflt (refine' code_def ?k1 ?k2 ?k3 ?k4 ?k5 ?kA ?kF ?kK ?k6 ?k7 ?k8 ?k9 ?kB ?_ ?c2 ?c3 ?c4 ?c5; (case kA => exact rfl); (case kF => exact rfl); (case kK => first | exact rfl | assumption); (case k1 => k_asm); (case k2 => k_asm); (case k3 => k_asm); (case k4 => k_asm); (case k5 => k_asm); (case k6 => k_is); (case k7 => k_is); (case k8 => first | ktr_room | cb_room); (case k9 => exact BindsTo.of_eq rfl); (case c5 => decide); (case kB => exact locs rfl); (case c2 => exact rfl); (case c3 => exact rfl); (case c4 => exact rfl); k_whole; intro g' L' h' FG' F' N' B' X' T'; (try dsimp only); (try k_lift B'); (try k_fold))))
theorem toJdTC (w : World) (mean : ExcName → Option Value) (mg mb : PySem.Str → Option Value) (news : List (Addr × Obj)) (y : Int) (d : Int) (ty : Tok) (tm : Tok) (td : Tok) :
    Cl w mean mg mb 77 news (True) 5 [Value.int y ty, Value.int 7 tm, Value.int d td] (fun t => Value.int (jdT y d) t) := by
  k_with_none; w_on
  k_with "tree" => exact jdT_w _ _
  dsimp only [Cl, CbRec, CbLists, CbRet]
  k_fill
  intros; rename_i hret
  refine wpAny_call ?_
  k_dflt cell_enter
  k_steps
  all_goals cb_end hret
end
section
local macro_rules | `(tactic| walk_at "eval Call Name") => `(tactic| refine Call_ ?_)
local macro_rules | `(tactic| walk_at "execs nil") => `(tactic| (with_reducible refine wpAny_execs_nil ?_))
local macro_rules | `(tactic| walk_at "execs cons") => `(tactic| ((with_reducible refine wpAny_execs_cons ?_); try dsimp only))
local macro_rules | `(tactic| walk_at "ite") => `(tactic| first | (k_closed; k_dflt (first | refine ite_pos (by decide) ?_ | refine ite_neg (by decide) ?_)) | ((with_reducible refine PyProof.Rows.split_dec ?_ ?_) <;> intro _))
local macro_rules | `(tactic| walk_at "call ref") => `(tactic| (k_here; (with_reducible show wpAny _ _ (call (Value.ref 28) _) _ _ _); k_dflt (refine' Cl.use (leapC _ _ _ _ _ _ _) ?k1 ?k2 ?k3 ?k4 ?k5 ?kK trivial ?kd ?ku ?_; (case k1 => k_asm); (case k2 => k_asm); (case k3 => k_asm); (case k4 => k_asm); (case k5 => k_asm); (case kK => first | exact rfl | assumption); (case kd => cb_room); (case ku => cb_units); intro t9 h9 tk9 F9 N9; (try dsimp only); (try k_fold))))
local macro_rules | `(tactic| walk_at "call ref") => `(tactic| (k_here; (with_reducible show wpAny _ _ (call (Value.ref 21) _) _ _ _); k_dflt (refine' Cl.use (midnC _ _ _ _ _ _ _) ?k1 ?k2 ?k3 ?k4 ?k5 ?kK trivial ?kd ?ku ?_; (case k1 => k_asm); (case k2 => k_asm); (case k3 => k_asm); (case k4 => k_asm); (case k5 => k_asm); (case kK => first | exact rfl | assumption); (case kd => cb_room); (case ku => cb_units); intro t9 h9 tk9 F9 N9; (try dsimp only); (try k_fold))))
local macro_rules | `(tactic| walk_at "call ref") => `(tactic| (k_here; (with_reducible show wpAny _ _ (call (Value.ref 42) _) _ _ _); k_dflt (refine' Cl.use (delayC _ _ _ _ _ _ _) ?k1 ?k2 ?k3 ?k4 ?k5 ?kK trivial ?kd ?ku ?_; (case k1 => k_asm); (case k2 => k_asm); (case k3 => k_asm); (case k4 => k_asm); (case k5 => k_asm); (case kK => first | exact rfl | assumption); (case kd => cb_room); (case ku => cb_units); intro t9 h9 tk9 F9 N9; (try dsimp only); (try k_fold))))
local macro_rules | `(tactic| walk_at "call ref") => `(tactic| (k_here; (with_reducible show wpAny _ _ (call (Value.ref 98) _) _ _ _); k_dflt (refine' Cl.use (lDayC _ _ _ _ _ _ _) ?k1 ?k2 ?k3 ?k4 ?k5 ?kK trivial ?kd ?ku ?_; (case k1 => k_asm); (case k2 => k_asm); (case k3 => k_asm); (case k4 => k_asm); (case k5 => k_asm); (case kK => first | exact rfl | assumption); (case kd => cb_room); (case ku => cb_units); intro t9 h9 tk9 F9 N9; (try dsimp only); (try k_fold))))
local macro_rules | `(tactic| walk_at "call ref") => `(tactic| (k_here; (with_reducible show wpAny _ _ (call (Value.ref 91) _) _ _ _); k_dflt (refine' Cl.use (wYearC _ _ _ _ _ _ _) ?k1 ?k2 ?k3 ?k4 ?k5 ?kK trivial ?kd ?ku ?_; (case k1 => k_asm); (case k2 => k_asm); (case k3 => k_asm); (case k4 => k_asm); (case k5 => k_asm); (case kK => first | exact rfl | assumption); (case kd => cb_room); (case ku => cb_units); intro t9 h9 tk9 F9 N9; (try dsimp only); (try k_fold))))
local macro_rules | `(tactic| walk_at "call ref") => `(tactic| (k_here; (with_reducible show wpAny _ _ (call (Value.ref 112) _) _ _ _); k_dflt (refine' Cl.use (lStartC _ _ _ _ _ _ _) ?k1 ?k2 ?k3 ?k4 ?k5 ?kK trivial ?kd ?ku ?_; (case k1 => k_asm); (case k2 => k_asm); (case k3 => k_asm); (case k4 => k_asm); (case k5 => k_asm); (case kK => first | exact rfl | assumption); (case kd => cb_room); (case ku => cb_units); intro t9 h9 tk9 F9 N9; (try dsimp only); (try k_fold))))
local macro_rules | `(tactic| walk_at "call ref") => `(tactic| (k_here; (with_reducible show wpAny _ _ (call (Value.ref 49) _) _ _ _); k_dflt (refine' Cl.use (delay2C _ _ _ _ _ _ _) ?k1 ?k2 ?k3 ?k4 ?k5 ?kK trivial ?kd ?ku ?_; (case k1 => k_asm); (case k2 => k_asm); (case k3 => k_asm); (case k4 => k_asm); (case k5 => k_asm); (case kK => first | exact rfl | assumption); (case kd => cb_room); (case ku => cb_units); intro t9 h9 tk9 F9 N9; (try dsimp only); (try k_fold))))
local macro_rules | `(tactic| walk_at "call ref") => `(tactic| (k_here; (with_reducible show wpAny _ _ (call (Value.ref 56) _) _ _ _); k_dflt (refine' Cl.use (yDaysC _ _ _ _ _ _ _) ?k1 ?k2 ?k3 ?k4 ?k5 ?kK trivial ?kd ?ku ?_; (case k1 => k_asm); (case k2 => k_asm); (case k3 => k_asm); (case k4 => k_asm); (case k5 => k_asm); (case kK => first | exact rfl | assumption); (case kd => cb_room); (case ku => cb_units); intro t9 h9 tk9 F9 N9; (try dsimp only); (try k_fold))))
local macro_rules | `(tactic| walk_at "call ref") => `(tactic| (k_here; (with_reducible show wpAny _ _ (call (Value.ref 63) _) _ _ _); k_dflt (refine' Cl.use (mLenC _ _ _ _ _ _ _ _ _) ?k1 ?k2 ?k3 ?k4 ?k5 ?kK ?kp ?kd ?ku ?_; (case k1 => k_asm); (case k2 => k_asm); (case k3 => k_asm); (case k4 => k_asm); (case k5 => k_asm); (case kK => first | exact rfl | assumption); (case kp => first | omega | decide | ((try simp only [] at *); omega)); (case kd => cb_room); (case ku => cb_units); intro t9 h9 tk9 F9 N9; (try dsimp only); (try k_fold))))
local macro_rules | `(tactic| walk_at "call ref") => `(tactic| (k_here; (with_reducible show wpAny _ _ (call (Value.ref 35) _) _ _ _); refine wpAny_call ?_; k_dflt (refine' code_def ?k1 ?k2 ?k3 ?k4 ?k5 ?kA ?kF ?kK ?k6 ?k7 ?k8 ?k9 ?kB ?_ ?c2 ?c3 ?c4 ?c5; (case kA => exact rfl); (case kF => exact rfl); (case kK => first | exact rfl | assumption); (case k1 => k_asm); (case k2 => k_asm); (case k3 => k_asm); (case k4 => k_asm); (case k5 => k_asm); (case k6 => k_is); (case k7 => k_is); (case k8 => first | ktr_room | cb_room); (case k9 => exact BindsTo.of_eq rfl); (case c5 => decide); (case kB => exact locs rfl); (case c2 => exact rfl); (case c3 => exact rfl); (case c4 => exact rfl); k_whole; intro g' L' h' FG' F' N' B' X' T'; (try dsimp only); (try k_lift B'); (try k_fold))))
local macro_rules | `(tactic| walk_at "call ref") => `(tactic| (k_here; (with_reducible show wpAny _ _ (call (Value.ref 77) _) _ _ _); refine wpAny_call ?_; k_dflt (refine' code_def ?k1 ?k2 ?k3 ?k4 ?k5 ?kA ?kF ?kK ?k6 ?k7 ?k8 ?k9 ?kB ?_ ?c2 ?c3 ?c4 ?c5; (case kA => exact rfl); (case kF => exact rfl); (case kK => first | exact rfl | assumption); (case k1 => k_asm); (case k2 => k_asm); (case k3 => k_asm); (case k4 => k_asm); (case k5 => k_asm); (case k6 => k_is); (case k7 => k_is); (case k8 => first | ktr_room | cb_room); (case k9 => exact BindsTo.of_eq rfl); (case c5 => decide); (case kB => exact locs rfl); (case c2 => exact rfl); (case c3 => exact rfl); (case c4 => exact rfl); k_whole; intro g' L' h' FG' F' N' B' X' T'; (try dsimp only); (try k_lift B'); (try k_fold))))
local macro_rules | `(tactic| walk_at "call ref") => `(tactic| (k_here; (with_reducible show wpAny _ _ (call (Value.ref 70) _) _ _ _); refine wpAny_call ?_; k_dflt (refine' code_def ?k1 ?k2 ?k3 ?k4 ?k5 ?kA ?kF ?kK ?k6 ?k7 ?k8 ?k9 ?kB ?_ ?c2 ?c3 ?c4 ?c5; (case kA => exact rfl); (case kF => exact rfl); (case kK => first | exact rfl | assumption); (case k1 => k_asm); (case k2 => k_asm); (case k3 => k_asm); (case k4 => k_asm); (case k5 => k_asm); (case k6 => k_is); (case k7 => k_is); (case k8 => first | ktr_room | cb_room); (case k9 => exact BindsTo.of_eq rfl); (case c5 => decide); (case kB => exact locs rfl); (case c2 => exact rfl); (case c3 => exact rfl); (case c4 => exact rfl); k_whole; intro g' L' h' FG' F' N' B' X' T'; (try dsimp only); (try k_lift B'); (try k_fold))))
theorem winter13 : rangeKs 7 (13 + 1 - 7 : Int).toNat = [7, 8, 9, 10, 11, 12, 13] := by decide
theorem winter12 : rangeKs 7 (12 + 1 - 7 : Int).toNat = [7, 8, 9, 10, 11, 12] := by decide
theorem jdN_leap (y d : Int) (h : leapB y = true) : midn (List.foldl (fun a k => a + mLen y k) (347996 + dl1 y + dl2 y + d + 1) (rangeKs 7 (13 + 1 - 7 : Int).toNat)) = jdN y d := by
  rw [winter13]; unfold jdN; rw [if_pos h]; rfl
theorem jdN_plain (y d : Int) (h : leapB y = false) : midn (List.foldl (fun a k => a + mLen y k) (347996 + dl1 y + dl2 y + d + 1) (rangeKs 7 (12 + 1 - 7 : Int).toNat)) = jdN y d := by
  rw [winter12]; unfold jdN; rw [if_neg (by rw [h]; decide)]; rfl
theorem toJdNC (w : World) (mean : ExcName → Option Value) (mg mb : PySem.Str → Option Value) (news : List (Addr × Obj)) (y : Int) (d : Int) (ty : Tok) (tm : Tok) (td : Tok) :
    Cl w mean mg mb 77 news (True) 15 [Value.int y ty, Value.int 1 tm, Value.int d td] (fun t => Value.int (jdN y d) t) := by
  k_with_none; w_on
  k_with "tree" => first | ((with_reducible rename leapB _ = true => hL9); exact jdN_leap _ _ hL9) | ((with_reducible rename leapB _ = false => hL9); exact jdN_plain _ _ hL9)
  dsimp only [Cl, CbRec, CbLists, CbRet]
  k_fill
  intros; rename_i hret
  refine wpAny_call ?_
  k_dflt cell_enter
  k_steps
  all_goals cb_end hret
end
@[irreducible] def hesh (d : Int) : Int := if (d.fmod 10 == 5) = true then 30 else 29
@[irreducible] def kis (d : Int) : Int := if (d.fmod 10 == 3) = true then 29 else 30
theorem hesh_if (d : Int) : hesh d = if (d.fmod 10 == 5) = true then 30 else 29 := by unfold hesh; rfl
theorem kis_if (d : Int) : kis d = if (d.fmod 10 == 3) = true then 29 else 30 := by unfold kis; rfl
theorem months_if (y : Int) : yMonths y = if decide ((7 * y + 1).fmod 19 < 7) = true then 13 else 12 := by
  rw [fm19, show 7 * y + 1 = y * 7 + 1 from by omega]; unfold yMonths leapB; rfl
theorem split_months {y : Int} {P Q : Prop} (h1 : yMonths y = 12 → P) (h2 : yMonths y = 13 → Q) : if (yMonths y == 12) = true then P else Q := by
  have h : yMonths y = 12 ∨ yMonths y = 13 := by
    unfold yMonths; split
    · exact .inr rfl
    · exact .inl rfl
  rcases h with h | h
  · rw [if_pos (by rw [h]; rfl)]; exact h1 h
  · rw [if_neg (by rw [h]; decide)]; exact h2 h
theorem p_no {b : Bool} {P Q : Prop} (e : b = false) (q : Q) : if b = true then P else Q := by
  rw [e]; exact q
theorem c_start (n : Int) : (lDay (jdT (wYear n) 1) != lStart (wYear n)) = false := by
  rw [lDay_eq, jdT_eq _ 1 (wYear_pos n) (by omega), show lStart (wYear n) + 1 - 1 = lStart (wYear n) from by omega]; simp
theorem days_is (n : Int) : lDay (jdT (wYear n + 1) 1) - lDay (jdT (wYear n) 1) = yDays (wYear n) := by
  rw [lDay_eq, lDay_eq]; unfold yDays; rfl
theorem c_days (n : Int) : (yDays (wYear n) != lDay (jdT (wYear n + 1) 1) - lDay (jdT (wYear n) 1)) = false := by
  rw [days_is]; simp
theorem c_months (y : Int) : (yMonths y != yMonths y) = false := by simp
theorem c_leap (y : Int) : (leapB y != (yMonths y == 13)) = false := by
  unfold yMonths; cases leapB y <;> rfl
theorem c_kinds (n : Int) {inst : Decidable (Dat.tuple [Dat.int ((lDay (jdT (wYear n) 1)).fmod 7), Dat.int (yMonths (wYear n)), Dat.int (lDay (jdT (wYear n + 1) 1) - lDay (jdT (wYear n) 1))] ∈
      [Dat.tuple [Dat.int 0, Dat.int 12, Dat.int 353], Dat.tuple [Dat.int 0, Dat.int 12, Dat.int 355],
        Dat.tuple [Dat.int 1, Dat.int 12, Dat.int 354], Dat.tuple [Dat.int 3, Dat.int 12, Dat.int 354],
        Dat.tuple [Dat.int 3, Dat.int 12, Dat.int 355], Dat.tuple [Dat.int 5, Dat.int 12, Dat.int 353],
        Dat.tuple [Dat.int 5, Dat.int 12, Dat.int 355], Dat.tuple [Dat.int 0, Dat.int 13, Dat.int 383],
        Dat.tuple [Dat.int 0, Dat.int 13, Dat.int 385], Dat.tuple [Dat.int 1, Dat.int 13, Dat.int 384],
        Dat.tuple [Dat.int 3, Dat.int 13, Dat.int 383], Dat.tuple [Dat.int 3, Dat.int 13, Dat.int 385],
        Dat.tuple [Dat.int 5, Dat.int 13, Dat.int 383], Dat.tuple [Dat.int 5, Dat.int 13, Dat.int 385]])} : (!@decide _ inst) = false := by
  have hp := wYear_pos n
  rw [Bool.not_eq_false']
  apply decide_eq_true
  rw [days_is, yDays_eq _ hp, lDay_eq, jdT_eq _ 1 hp (by omega), show lStart (wYear n) + 1 - 1 = lStart (wYear n) from by omega, fm7]
  have k := kinds (wYear n)
  unfold Kinds at k
  unfold yMonths
  rcases k with ⟨l, k⟩ | ⟨l, k⟩ <;> rw [l] <;> rcases k with ⟨a, b⟩ | ⟨a, b⟩ | ⟨a, b⟩ | ⟨a, b⟩ | ⟨a, b⟩ | ⟨a, b⟩ | ⟨a, b⟩ <;> rw [a, b] <;> simp
section
variable {M : Model} {A : Around} {E Q : Value → Shared → Prop} {s : Shared} {env : Env}
theorem join_const {b : Bool} {x y z : Int} {k1 k2 : Nat} {p1 p2 : Pos} (e : z = if b = true then x else y) (h : Q (.int z s.toks) { s with toks := s.toks + 1 }) :
    if b = true then wpAny M A (eval (.Constant (.int x) k1 p1) env) Q E s else wpAny M A (eval (.Constant (.int y) k2 p2) env) Q E s := by
  cases b
  · rw [if_neg (by decide)]; rw [if_neg (by decide)] at e; subst e; exact wpAny_Constant_int h
  · rw [if_pos rfl]; rw [if_pos rfl] at e; subst e; exact wpAny_Constant_int h
theorem call_months {f : Value} {y K : Int} {t : Tok} (e : yMonths y = K) (h : wpAny M A (call f [.int K t]) Q E s) : wpAny M A (call f [.int (yMonths y) t]) Q E s := by
  rw [e]; exact h
end
theorem mLen_1 (y : Int) : mLen y 1 = 30 := by unfold mLen; simp
theorem mLen_2 (y : Int) : mLen y 2 = 29 := by unfold mLen; simp
theorem mLen_3 (y : Int) : mLen y 3 = 30 := by unfold mLen; simp
theorem mLen_4 (y : Int) : mLen y 4 = 29 := by unfold mLen; simp
theorem mLen_5 (y : Int) : mLen y 5 = 30 := by unfold mLen; simp
theorem mLen_6 (y : Int) : mLen y 6 = 29 := by unfold mLen; simp
theorem mLen_7 (y : Int) : mLen y 7 = 30 := by unfold mLen; simp
theorem mLen_8 (y : Int) : mLen y 8 = hesh (yDays y) := by
  unfold mLen hesh; rw [fm10]; simp
theorem mLen_9 (y : Int) : mLen y 9 = kis (yDays y) := by
  unfold mLen kis; rw [fm10]; simp
theorem mLen_10 (y : Int) : mLen y 10 = 29 := by unfold mLen; simp
theorem mLen_11 (y : Int) : mLen y 11 = 30 := by unfold mLen; simp
theorem mLen_12 (y : Int) : mLen y 12 = if leapB y = true then 30 else 29 := by
  unfold mLen; cases leapB y <;> simp
theorem mLen_13 (y : Int) : mLen y 13 = 29 := by unfold mLen; simp
theorem hesh_353 : hesh 353 = 29 := by unfold hesh; decide
theorem hesh_354 : hesh 354 = 29 := by unfold hesh; decide
theorem hesh_355 : hesh 355 = 30 := by unfold hesh; decide
theorem hesh_383 : hesh 383 = 29 := by unfold hesh; decide
theorem hesh_384 : hesh 384 = 29 := by unfold hesh; decide
theorem hesh_385 : hesh 385 = 30 := by unfold hesh; decide
theorem kis_353 : kis 353 = 29 := by unfold kis; decide
theorem kis_354 : kis 354 = 30 := by unfold kis; decide
theorem kis_355 : kis 355 = 30 := by unfold kis; decide
theorem kis_383 : kis 383 = 29 := by unfold kis; decide
theorem kis_384 : kis 384 = 30 := by unfold kis; decide
theorem kis_385 : kis 385 = 30 := by unfold kis; decide
/-- the two odd months make up the year's length -/
theorem odd_plain (y : Int) (h : 1 ≤ y) (l : leapB y = false) : hesh (yDays y) + kis (yDays y) = yDays y - 295 := by
  have k := kinds y
  rw [← yDays_eq y h] at k
  unfold Kinds at k
  rcases k with ⟨_, k⟩ | ⟨l2, _⟩
  · rcases k with ⟨_, b⟩ | ⟨_, b⟩ | ⟨_, b⟩ | ⟨_, b⟩ | ⟨_, b⟩ | ⟨_, b⟩ | ⟨_, b⟩ <;> rw [b] <;> first | rw [hesh_353, kis_353]; rfl | rw [hesh_354, kis_354]; rfl | rw [hesh_355, kis_355]; rfl
  · rw [l] at l2; cases l2
theorem odd_leap (y : Int) (h : 1 ≤ y) (l : leapB y = true) : hesh (yDays y) + kis (yDays y) = yDays y - 325 := by
  have k := kinds y
  rw [← yDays_eq y h] at k
  unfold Kinds at k
  rcases k with ⟨l2, _⟩ | ⟨_, k⟩
  · rw [l] at l2; cases l2
  · rcases k with ⟨_, b⟩ | ⟨_, b⟩ | ⟨_, b⟩ | ⟨_, b⟩ | ⟨_, b⟩ | ⟨_, b⟩ | ⟨_, b⟩ <;> rw [b] <;> first | rw [hesh_383, kis_383]; rfl | rw [hesh_384, kis_384]; rfl | rw [hesh_385, kis_385]; rfl
theorem leap_12 (y : Int) (h : yMonths y = 12) : leapB y = false := by
  cases l : leapB y with
  | false => rfl
  | true => unfold yMonths at h; rw [l] at h; simp at h
theorem leap_13 (y : Int) (h : yMonths y = 13) : leapB y = true := by
  cases l : leapB y with
  | true => rfl
  | false => unfold yMonths at h; rw [l] at h; simp at h
theorem midn_of (j : Int) (h : 0 < j) : midn j = j := (midn_pos j h).symm
theorem jdN_eq (y : Int) (h : 1 ≤ y) : jdN y 15 = lStart (y + 1) - 163 := by
  have e := start_eq y
  have d := yDays_eq y h
  have p := lStart_pos y h
  unfold jdN
  rw [mLen_7, mLen_8, mLen_9, mLen_10, mLen_11, mLen_12, mLen_13]
  cases l : leapB y with
  | true =>
    have o := odd_leap y h l
    have k : 383 ≤ yDays y := by
      have k := kinds y
      rw [← d] at k; unfold Kinds at k; rw [l] at k; simp at k; omega
    rw [if_pos rfl, if_pos rfl, midn_of _ (by omega)]; omega
  | false =>
    have o := odd_plain y h l
    have k : 353 ≤ yDays y := by
      have k := kinds y
      rw [← d] at k; unfold Kinds at k; rw [l] at k; simp at k; omega
    rw [if_neg (by decide), if_neg (by decide)]
    rw [midn_of _ (by omega)]; omega
theorem c_sum12 (n : Int) (h : yMonths (wYear n) = 12) : (30 + (29 + (30 + (29 + (30 + (29 + (30 + (hesh (lDay (jdT (wYear n + 1) 1) - lDay (jdT (wYear n) 1)) + (kis (lDay (jdT (wYear n + 1) 1) - lDay (jdT (wYear n) 1)) + (29 + (30 + (29 + 0))))))))))) != lDay (jdT (wYear n + 1) 1) - lDay (jdT (wYear n) 1)) = false := by
  rw [days_is]
  have o := odd_plain (wYear n) (wYear_pos n) (leap_12 _ h)
  rw [bne_eq_false_iff_eq]; omega
theorem c_sum13 (n : Int) (h : yMonths (wYear n) = 13) : (30 + (29 + (30 + (29 + (30 + (29 + (30 + (hesh (lDay (jdT (wYear n + 1) 1) - lDay (jdT (wYear n) 1)) + (kis (lDay (jdT (wYear n + 1) 1) - lDay (jdT (wYear n) 1)) + (29 + (30 + (30 + (29 + 0)))))))))))) != lDay (jdT (wYear n + 1) 1) - lDay (jdT (wYear n) 1)) = false := by
  rw [days_is]
  have o := odd_leap (wYear n) (wYear_pos n) (leap_13 _ h)
  rw [bne_eq_false_iff_eq]; omega
theorem c_len12 (n k : Int) (h : yMonths (wYear n) = 12) (h0 : 0 ≤ k) (h1 : k < 12) : (mLen (wYear n) (k + 1) != [30, 29, 30, 29, 30, 29, 30, hesh (lDay (jdT (wYear n + 1) 1) - lDay (jdT (wYear n) 1)), kis (lDay (jdT (wYear n + 1) 1) - lDay (jdT (wYear n) 1)), 29, 30, 29].getD k.toNat 0) = false := by
  rw [days_is]
  have hk : k = 0 ∨ k = 1 ∨ k = 2 ∨ k = 3 ∨ k = 4 ∨ k = 5 ∨ k = 6 ∨ k = 7 ∨ k = 8 ∨ k = 9 ∨ k = 10 ∨ k = 11 := by omega
  have l := leap_12 _ h
  rw [bne_eq_false_iff_eq]
  rcases hk with h | h | h | h | h | h | h | h | h | h | h | h <;> subst h
  · exact mLen_1 _
  · exact mLen_2 _
  · exact mLen_3 _
  · exact mLen_4 _
  · exact mLen_5 _
  · exact mLen_6 _
  · exact mLen_7 _
  · exact mLen_8 _
  · exact mLen_9 _
  · exact mLen_10 _
  · exact mLen_11 _
  · exact (mLen_12 _).trans (by rw [l]; rfl)
theorem c_len13 (n k : Int) (h : yMonths (wYear n) = 13) (h0 : 0 ≤ k) (h1 : k < 13) : (mLen (wYear n) (k + 1) != [30, 29, 30, 29, 30, 29, 30, hesh (lDay (jdT (wYear n + 1) 1) - lDay (jdT (wYear n) 1)), kis (lDay (jdT (wYear n + 1) 1) - lDay (jdT (wYear n) 1)), 29, 30, 30, 29].getD k.toNat 0) = false := by
  rw [days_is]
  have hk : k = 0 ∨ k = 1 ∨ k = 2 ∨ k = 3 ∨ k = 4 ∨ k = 5 ∨ k = 6 ∨ k = 7 ∨ k = 8 ∨ k = 9 ∨ k = 10 ∨ k = 11 ∨ k = 12 := by omega
  have l := leap_13 _ h
  rw [bne_eq_false_iff_eq]
  rcases hk with h | h | h | h | h | h | h | h | h | h | h | h | h <;> subst h
  · exact mLen_1 _
  · exact mLen_2 _
  · exact mLen_3 _
  · exact mLen_4 _
  · exact mLen_5 _
  · exact mLen_6 _
  · exact mLen_7 _
  · exact mLen_8 _
  · exact mLen_9 _
  · exact mLen_10 _
  · exact mLen_11 _
  · exact (mLen_12 _).trans (by rw [l]; rfl)
  · exact mLen_13 _
theorem c_pass (n : Int) : ([0, 2, 4].any fun x : Int => x == (lDay (jdN (wYear n) 15)).fmod 7) = false := by
  rw [lDay_eq, jdN_eq _ (wYear_pos n), fm7]
  have m := lStart_mod (wYear n + 1)
  simp only [List.any_cons, List.any_nil, Bool.or_false, Bool.or_eq_false_iff, beq_eq_false_iff_ne]
  refine ⟨?_, ?_, ?_⟩ <;> omega
theorem c_163 (n : Int) : (lDay (jdT (wYear n) 1) + (lDay (jdT (wYear n + 1) 1) - lDay (jdT (wYear n) 1)) - lDay (jdN (wYear n) 15) != 163) = false := by
  have hp := wYear_pos n
  rw [lDay_eq, lDay_eq, lDay_eq, jdN_eq _ hp, jdT_eq (wYear n + 1) 1 (by omega) (by omega), bne_eq_false_iff_eq]; omega
theorem c_last (n : Int) : ((lDay (jdT (wYear n) 21)).fmod 7 != 5) = true := by
  have hp := wYear_pos n
  have m := lStart_mod (wYear n)
  rw [lDay_eq, jdT_eq _ 21 hp (by omega), fm7, bne_iff_ne]; omega
section
variable {prog : Program} {w : World} {A : Around} {E Q : Value → Shared → Prop} {s : Shared}
theorem ne_yes {a b : Int} {t u : Tok} (e : (a != b) = true) (h : Q (.bool true) s) : wpAny (model prog w) A (compareOp .NotEq (.int a t) (.int b u)) Q E s :=
  ne_int (by rw [e]; exact h)
end
theorem drop_all {h₀ h : Heap} {L : Addr} {news : List (Addr × Obj)} (N : News h₀ L h news) : News h₀ L h [] := fun _ hp => nomatch hp
section
local macro_rules | `(tactic| walk_at "eval Call Name") => `(tactic| refine Call_ ?_)
local macro_rules | `(tactic| walk_at "execs nil") => `(tactic| (with_reducible refine wpAny_execs_nil ?_))
local macro_rules | `(tactic| walk_at "execs cons") => `(tactic| ((with_reducible refine wpAny_execs_cons ?_); try dsimp only))
local macro_rules | `(tactic| walk_at "ite") => `(tactic| first | (k_closed; k_dflt (first | refine ite_pos (by decide) ?_ | refine ite_neg (by decide) ?_)) | ((with_reducible refine PyProof.Rows.split_dec ?_ ?_) <;> intro _))
local macro_rules | `(tactic| walk_at "call ref") => `(tactic| (k_here; (with_reducible show wpAny _ _ (call (Value.ref 28) _) _ _ _); k_dflt (refine' Cl.use (leapC _ _ _ _ _ _ _) ?k1 ?k2 ?k3 ?k4 ?k5 ?kK trivial ?kd ?ku ?_; (case k1 => k_asm); (case k2 => k_asm); (case k3 => k_asm); (case k4 => k_asm); (case k5 => k_asm); (case kK => first | exact rfl | assumption); (case kd => cb_room); (case ku => cb_units); intro t9 h9 tk9 F9 N9; (try dsimp only); (try k_fold))))
local macro_rules | `(tactic| walk_at "call ref") => `(tactic| (k_here; (with_reducible show wpAny _ _ (call (Value.ref 21) _) _ _ _); k_dflt (refine' Cl.use (midnC _ _ _ _ _ _ _) ?k1 ?k2 ?k3 ?k4 ?k5 ?kK trivial ?kd ?ku ?_; (case k1 => k_asm); (case k2 => k_asm); (case k3 => k_asm); (case k4 => k_asm); (case k5 => k_asm); (case kK => first | exact rfl | assumption); (case kd => cb_room); (case ku => cb_units); intro t9 h9 tk9 F9 N9; (try dsimp only); (try k_fold))))
local macro_rules | `(tactic| walk_at "call ref") => `(tactic| (k_here; (with_reducible show wpAny _ _ (call (Value.ref 42) _) _ _ _); k_dflt (refine' Cl.use (delayC _ _ _ _ _ _ _) ?k1 ?k2 ?k3 ?k4 ?k5 ?kK trivial ?kd ?ku ?_; (case k1 => k_asm); (case k2 => k_asm); (case k3 => k_asm); (case k4 => k_asm); (case k5 => k_asm); (case kK => first | exact rfl | assumption); (case kd => cb_room); (case ku => cb_units); intro t9 h9 tk9 F9 N9; (try dsimp only); (try k_fold))))
local macro_rules | `(tactic| walk_at "call ref") => `(tactic| (k_here; (with_reducible show wpAny _ _ (call (Value.ref 98) _) _ _ _); k_dflt (refine' Cl.use (lDayC _ _ _ _ _ _ _) ?k1 ?k2 ?k3 ?k4 ?k5 ?kK trivial ?kd ?ku ?_; (case k1 => k_asm); (case k2 => k_asm); (case k3 => k_asm); (case k4 => k_asm); (case k5 => k_asm); (case kK => first | exact rfl | assumption); (case kd => cb_room); (case ku => cb_units); intro t9 h9 tk9 F9 N9; (try dsimp only); (try k_fold))))
local macro_rules | `(tactic| walk_at "call ref") => `(tactic| (k_here; (with_reducible show wpAny _ _ (call (Value.ref 91) _) _ _ _); k_dflt (refine' Cl.use (wYearC _ _ _ _ _ _ _) ?k1 ?k2 ?k3 ?k4 ?k5 ?kK trivial ?kd ?ku ?_; (case k1 => k_asm); (case k2 => k_asm); (case k3 => k_asm); (case k4 => k_asm); (case k5 => k_asm); (case kK => first | exact rfl | assumption); (case kd => cb_room); (case ku => cb_units); intro t9 h9 tk9 F9 N9; (try dsimp only); (try k_fold))))
local macro_rules | `(tactic| walk_at "call ref") => `(tactic| (k_here; (with_reducible show wpAny _ _ (call (Value.ref 112) _) _ _ _); k_dflt (refine' Cl.use (lStartC _ _ _ _ _ _ _) ?k1 ?k2 ?k3 ?k4 ?k5 ?kK trivial ?kd ?ku ?_; (case k1 => k_asm); (case k2 => k_asm); (case k3 => k_asm); (case k4 => k_asm); (case k5 => k_asm); (case kK => first | exact rfl | assumption); (case kd => cb_room); (case ku => cb_units); intro t9 h9 tk9 F9 N9; (try dsimp only); (try k_fold))))
local macro_rules | `(tactic| walk_at "call ref") => `(tactic| (k_here; (with_reducible show wpAny _ _ (call (Value.ref 35) _) _ _ _); k_dflt (refine' Cl.use (yMonthsC _ _ _ _ _ _ _) ?k1 ?k2 ?k3 ?k4 ?k5 ?kK trivial ?kd ?ku ?_; (case k1 => k_asm); (case k2 => k_asm); (case k3 => k_asm); (case k4 => k_asm); (case k5 => k_asm); (case kK => first | exact rfl | assumption); (case kd => cb_room); (case ku => cb_units); intro t9 h9 tk9 F9 N9; (try dsimp only); (try k_fold))))
local macro_rules | `(tactic| walk_at "call ref") => `(tactic| (k_here; (with_reducible show wpAny _ _ (call (Value.ref 49) _) _ _ _); k_dflt (refine' Cl.use (delay2C _ _ _ _ _ _ _) ?k1 ?k2 ?k3 ?k4 ?k5 ?kK trivial ?kd ?ku ?_; (case k1 => k_asm); (case k2 => k_asm); (case k3 => k_asm); (case k4 => k_asm); (case k5 => k_asm); (case kK => first | exact rfl | assumption); (case kd => cb_room); (case ku => cb_units); intro t9 h9 tk9 F9 N9; (try dsimp only); (try k_fold))))
local macro_rules | `(tactic| walk_at "call ref") => `(tactic| (k_here; (with_reducible show wpAny _ _ (call (Value.ref 56) _) _ _ _); k_dflt (refine' Cl.use (yDaysC _ _ _ _ _ _ _) ?k1 ?k2 ?k3 ?k4 ?k5 ?kK trivial ?kd ?ku ?_; (case k1 => k_asm); (case k2 => k_asm); (case k3 => k_asm); (case k4 => k_asm); (case k5 => k_asm); (case kK => first | exact rfl | assumption); (case kd => cb_room); (case ku => cb_units); intro t9 h9 tk9 F9 N9; (try dsimp only); (try k_fold))))
local macro_rules | `(tactic| walk_at "call ref") => `(tactic| (k_here; (with_reducible show wpAny _ _ (call (Value.ref 63) _) _ _ _); k_dflt (refine' Cl.use (mLenC _ _ _ _ _ _ _ _ _) ?k1 ?k2 ?k3 ?k4 ?k5 ?kK ?kp ?kd ?ku ?_; (case k1 => k_asm); (case k2 => k_asm); (case k3 => k_asm); (case k4 => k_asm); (case k5 => k_asm); (case kK => first | exact rfl | assumption); (case kp => first | omega | decide | ((try simp only [] at *); omega)); (case kd => cb_room); (case ku => cb_units); intro t9 h9 tk9 F9 N9; (try dsimp only); (try k_fold))))
local macro_rules | `(tactic| walk_at "callWith ref nil nil") => `(tactic| (k_here; k_dflt (refine' callWith_K0 ?k1 ?k2 ?_; (case k1 => k_in); (case k2 => k_is); k_whole)))
local macro_rules | `(tactic| walk_at "call ref") => `(tactic| (k_here; (with_reducible show wpAny _ _ (call (Value.ref 77) [_, Value.int 7 _, _]) _ _ _); k_dflt (refine' Cl.use (toJdTC _ _ _ _ _ _ _ _ _ _) ?k1 ?k2 ?k3 ?k4 ?k5 ?kK trivial ?kd ?ku ?_; (case k1 => k_asm); (case k2 => k_asm); (case k3 => k_asm); (case k4 => k_asm); (case k5 => k_asm); (case kK => first | exact rfl | assumption); (case kd => cb_room); (case ku => cb_units); intro t9 h9 tk9 F9 N9; (try dsimp only); (try k_fold))))
local macro_rules | `(tactic| walk_at "call ref") => `(tactic| (k_here; (with_reducible show wpAny _ _ (call (Value.ref 77) [_, Value.int 1 _, _]) _ _ _); k_dflt (refine' Cl.use (toJdNC _ _ _ _ _ _ _ _ _ _) ?k1 ?k2 ?k3 ?k4 ?k5 ?kK trivial ?kd ?ku ?_; (case k1 => k_asm); (case k2 => k_asm); (case k3 => k_asm); (case k4 => k_asm); (case k5 => k_asm); (case kK => first | exact rfl | assumption); (case kd => cb_room); (case ku => cb_units); intro t9 h9 tk9 F9 N9; (try dsimp only); (try k_fold))))
local macro_rules | `(tactic| walk_at "compareOp NotIn") => `(tactic| (k_here; (with_reducible show wpAny _ _ (compareOp CmpOp.NotIn (Value.ref _) (Value.ref _)) _ _ _); k_dflt (refine' kqd_notIn ?N ?a ?b ?c ?d (fun _ h => h) ?x (fun _ h => h) ?l ?m ?n ?_; (case N => k_asm); (case a => k_mem); (case b => rfl); (case c => rfl); (case d => kqd_all); (case x => kqd_in); (case l => exact List.all_eq_true.mp rfl); (case m => first | rfl | kernel_rfl!); (case n => ke_room); k_whole)))
local macro_rules | `(tactic| walk_at "ite") => `(tactic| first
  | (with_reducible refine join_const (months_if _) ?_)
  | (with_reducible refine join_const (hesh_if _) ?_)
  | (with_reducible refine join_const (kis_if _) ?_)
  | ((with_reducible refine split_months ?_ ?_) <;> intro _)
  | (with_reducible refine p_no (c_start _) ?_)
  | ((with_reducible refine p_no (c_kinds _) ?_); (with_reducible rename News _ _ _ _ => N9); (have N8 := drop_all N9); clear N9; (repeat ((with_reducible rename (@LT.lt Nat _ _ _) ∧ _ => l9); clear l9)))
  | (with_reducible refine p_no (c_days _) ?_)
  | (with_reducible refine p_no (c_months _) ?_)
  | (with_reducible refine p_no (c_leap _) ?_)
  | ((with_reducible rename yMonths _ = 12 => h9); (with_reducible refine p_no (c_sum12 _ h9) ?_))
  | ((with_reducible rename yMonths _ = 13 => h9); (with_reducible refine p_no (c_sum13 _ h9) ?_))
  | ((with_reducible rename yMonths _ = 12 => h9); (with_reducible refine' p_no (c_len12 _ _ h9 ?ka ?kb) ?_); (case ka => assumption); (case kb => exact Int.lt_of_lt_of_le (by assumption) (by decide)))
  | ((with_reducible rename yMonths _ = 13 => h9); (with_reducible refine' p_no (c_len13 _ _ h9 ?ka ?kb) ?_); (case ka => assumption); (case kb => exact Int.lt_of_lt_of_le (by assumption) (by decide)))
  | (with_reducible refine p_no (c_pass _) ?_)
  | (with_reducible refine p_no (c_163 _) ?_))
local macro_rules | `(tactic| walk_at "call type:range") => `(tactic| (with_reducible refine call_months (by assumption) ?_))
local macro_rules | `(tactic| walk_at "compareOp NotEq int int") => `(tactic| (with_reducible refine ne_yes (c_last _) ?_))
theorem lawH : PySem.Challenge.rw_ar5002_01.Holds := by
  k_with_none
  exact hd (by k_go)
end
end Mine
theorem PySem.Challenge.cw_ar5002_01_holds : PySem.Challenge.rw_ar5002_01.Holds :=
  Mine.lawH
