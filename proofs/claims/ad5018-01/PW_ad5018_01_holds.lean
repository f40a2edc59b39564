import PyProof.Rows.All
import Wide.All
import OpenK.AllK
import Wide.FinOn
import PySem.Challenge.RW_ad5018_01
open PySem PySem.W PyProof.Rows PySem.Calls
set_option Elab.async false
set_option maxHeartbeats 8000000
set_option maxRecDepth 100000
set_option exponentiation.threshold 3000
set_option rowWalk.seconds 0
set_option linter.unusedVariables false
set_option linter.unusedSimpArgs false

section
namespace Mine
def jB (n : Int) : Int := n + 1524
def jC (n : Int) : Int := (20 * jB n - 2442) / 7305
def jD (n : Int) : Int := 1461 * jC n / 4
def jE (n : Int) : Int := 10000 * (jB n - jD n) / 306001
def jMon (n : Int) : Int := if jE n < 14 then jE n - 1 else jE n - 13
def jYear (n : Int) : Int := if jMon n > 2 then jC n - 4716 else jC n - 4715
def jDay (n : Int) : Int := jB n - jD n - 306001 * jE n / 10000

/-- a date of the Julian calendar -/
def jLegal (y m d : Int) : Prop := -300000000 ≤ y ∧ y ≤ 300000000 ∧ 1 ≤ m ∧ m ≤ 12 ∧ 1 ≤ d ∧ d ≤ 31 ∧ (m = 4 → d ≤ 30) ∧ (m = 6 → d ≤ 30) ∧ (m = 9 → d ≤ 30) ∧ (m = 11 → d ≤ 30) ∧ (m = 2 → d ≤ 29) ∧ (m = 2 → d = 29 → y % 4 = 0)
/-- a date of the Gregorian calendar -/
def gLegal (y m d : Int) : Prop := -300000000 ≤ y ∧ y ≤ 300000000 ∧ 1 ≤ m ∧ m ≤ 12 ∧ 1 ≤ d ∧ d ≤ 31 ∧ (m = 4 → d ≤ 30) ∧ (m = 6 → d ≤ 30) ∧ (m = 9 → d ≤ 30) ∧ (m = 11 → d ≤ 30) ∧ (m = 2 → d ≤ 29) ∧ (m = 2 → d = 29 → y % 4 = 0 ∧ (y % 100 ≠ 0 ∨ y % 400 = 0))

def jN (y m d : Int) : Int := if m ≤ 2 then 1461 * (y - 1 + 4716) / 4 + 306001 * (m + 12 + 1) / 10000 + d - 1524 else 1461 * (y + 4716) / 4 + 306001 * (m + 1) / 10000 + d - 1524
def gN (y m d : Int) : Int := 365 * (y - 1) + (y - 1) / 4 - (y - 1) / 100 + (y - 1) / 400 + ((367 * m - 362) / 12 + (if m ≤ 2 then 0 else if y % 4 = 0 ∧ (y % 100 ≠ 0 ∨ y % 400 = 0) then -1 else -2) + d) + 1721425

theorem gl_jl {y m d : Int} (h : gLegal y m d) : jLegal y m d := by
  unfold gLegal at h
  unfold jLegal
  omega

theorem jl_gl {y m d : Int} (h : jLegal y m d) (hn : ¬ (m = 2 ∧ d = 29 ∧ y % 100 = 0 ∧ y % 400 ≠ 0)) : gLegal y m d := by
  unfold jLegal at h
  unfold gLegal
  omega

theorem months {m : Int} (h1 : 1 ≤ m) (h2 : m ≤ 12) : m = 1 ∨ m = 2 ∨ m = 3 ∨ m = 4 ∨ m = 5 ∨ m = 6 ∨ m = 7 ∨ m = 8 ∨ m = 9 ∨ m = 10 ∨ m = 11 ∨ m = 12 := by omega

theorem q1 (z : Int) : 1461 * (z + 4716) / 4 = 365 * z + z / 4 + 1722519 := by omega
theorem q2 (z : Int) : z / 100 / 4 = z / 400 := by omega
theorem q4 (y : Int) : y / 4 = (y - 1) / 4 + (if y % 4 = 0 then 1 else 0) := by split <;> omega
theorem q100 (y : Int) : y / 100 = (y - 1) / 100 + (if y % 100 = 0 then 1 else 0) := by split <;> omega
theorem q400 (y : Int) : y / 400 = (y - 1) / 400 + (if y % 400 = 0 then 1 else 0) := by split <;> omega
theorem leapNum (y : Int) : (if y % 4 = 0 then (1 : Int) else 0) - (if y % 100 = 0 then 1 else 0) + (if y % 400 = 0 then 1 else 0) = if y % 4 = 0 ∧ (y % 100 ≠ 0 ∨ y % 400 = 0) then 1 else 0 := by
  by_cases h1 : y % 4 = 0
  · by_cases h2 : y % 100 = 0
    · by_cases h3 : y % 400 = 0
      · simp [h1, h2, h3]
      · simp [h1, h2, h3]
    · have h3 : ¬ y % 400 = 0 := by omega
      simp [h1, h2, h3]
  · have h2 : ¬ y % 100 = 0 := by omega
    have h3 : ¬ y % 400 = 0 := by omega
    simp [h1, h2, h3]

/-- the second road (Meeus), by the year counted from March -/
theorem meeus {y m : Int} (d : Int) (h1 : 1 ≤ m) (h2 : m ≤ 12) :
    gN y m d = if m ≤ 2 then 2 - (y - 1) / 100 + (y - 1) / 100 / 4 + d + 1461 * (y - 1 + 4716) / 4 + 306001 * (m + 12 + 1) / 10000 - 1524
      else 2 - y / 100 + y / 100 / 4 + d + 1461 * (y + 4716) / 4 + 306001 * (m + 1) / 10000 - 1524 := by
  unfold gN
  rw [q1, q1, q2, q2]
  by_cases h : m ≤ 2
  · rw [if_pos h, if_pos h]
    rcases (show m = 1 ∨ m = 2 by omega) with rfl | rfl
    all_goals (simp only [Int.reduceMul, Int.reduceAdd, Int.reduceSub, Int.reduceDiv])
    all_goals (generalize (y - 1) / 4 = a; generalize (y - 1) / 100 = b; generalize (y - 1) / 400 = c; omega)
  · rw [if_neg h, if_neg h]
    have e := leapNum y
    have e2 : (if y % 4 = 0 ∧ (y % 100 ≠ 0 ∨ y % 400 = 0) then (-1 : Int) else -2) = (if y % 4 = 0 ∧ (y % 100 ≠ 0 ∨ y % 400 = 0) then (1 : Int) else 0) - 2 := by split <;> rfl
    rw [e2, ← e, q4 y, q100 y, q400 y]
    generalize (y - 1) / 4 = a
    generalize (y - 1) / 100 = b
    generalize (y - 1) / 400 = c
    generalize (if y % 4 = 0 then (1 : Int) else 0) = i
    generalize (if y % 100 = 0 then (1 : Int) else 0) = j
    generalize (if y % 400 = 0 then (1 : Int) else 0) = k
    rcases months h1 h2 with rfl | rfl | rfl | rfl | rfl | rfl | rfl | rfl | rfl | rfl | rfl | rfl <;> omega

theorem apart {y m : Int} (d : Int) (h1 : 1 ≤ m) (h2 : m ≤ 12) :
    jN y m d = gN y m d + ((if m < 3 then y - 1 else y) / 100 - (if m < 3 then y - 1 else y) / 100 / 4 - 2) := by
  rw [meeus d h1 h2]
  unfold jN
  by_cases h : m ≤ 2
  · rw [if_pos h, if_pos h, if_pos (show m < 3 by omega)]; omega
  · rw [if_neg h, if_neg h, if_neg (show ¬ m < 3 by omega)]; omega

/-- a Julian date is what its day number tells -/
theorem jul_inv {y m d : Int} (h : jLegal y m d) : jYear (jN y m d) = y ∧ jMon (jN y m d) = m ∧ jDay (jN y m d) = d := by
  obtain ⟨p1, p2, p3, p4, p5, p6, p7, p8, p9, p10, p11, p12⟩ := h
  have hC : jC (jN y m d) = (if m ≤ 2 then y - 1 else y) + 4716 := by
    unfold jC jB jN
    rcases months p3 p4 with rfl | rfl | rfl | rfl | rfl | rfl | rfl | rfl | rfl | rfl | rfl | rfl
    all_goals (simp only [reduceIte, Int.reduceLE, Int.reduceMul, Int.reduceAdd, Int.reduceSub, Int.reduceDiv])
    all_goals omega
  have hE : jE (jN y m d) = (if m ≤ 2 then m + 12 else m) + 1 := by
    unfold jE jD
    rw [hC]
    unfold jB jN
    rcases months p3 p4 with rfl | rfl | rfl | rfl | rfl | rfl | rfl | rfl | rfl | rfl | rfl | rfl
    all_goals (simp only [reduceIte, Int.reduceLE, Int.reduceMul, Int.reduceAdd, Int.reduceSub, Int.reduceDiv])
    all_goals omega
  have hM : jMon (jN y m d) = m := by
    unfold jMon
    rw [hE]
    by_cases h : m ≤ 2
    · rw [if_pos h, if_neg (by omega)]; omega
    · rw [if_neg h, if_pos (by omega)]; omega
  refine ⟨?_, hM, ?_⟩
  · unfold jYear
    rw [hM, hC]
    by_cases h : m ≤ 2
    · rw [if_pos h, if_neg (by omega)]; omega
    · rw [if_neg h, if_pos (by omega)]; omega
  · unfold jDay jD
    rw [hE, hC]
    unfold jB jN
    by_cases h : m ≤ 2
    · rw [if_pos h, if_pos h, if_pos h]; omega
    · rw [if_neg h, if_neg h, if_neg h]; omega

theorem jul_spec {n : Int} (h1 : -100000000000 ≤ n) (h2 : n ≤ 100002451545) : jLegal (jYear n) (jMon n) (jDay n) ∧ jN (jYear n) (jMon n) (jDay n) = n := by
  have hr1 : 123 ≤ jB n - jD n := by unfold jD jC jB; omega
  have hr2 : jB n - jD n ≤ 488 := by unfold jD jC jB; omega
  have hr3 : jB n - jD n = 488 → jC n % 4 = 3 := by
    have hc : jC n = (20 * jB n - 2442) / 7305 := rfl
    have hd : jD n = 1461 * jC n / 4 := rfl
    generalize jC n = c at *
    generalize jD n = d at *
    generalize jB n = b at *
    omega
  have hc1 : -290000000 ≤ jC n := by unfold jC jB; omega
  have hc2 : jC n ≤ 290000000 := by unfold jC jB; omega
  have hE : jE n = 10000 * (jB n - jD n) / 306001 := rfl
  have hD : jD n = 1461 * jC n / 4 := rfl
  have hB : jB n = n + 1524 := rfl
  have hDay : jDay n = (jB n - jD n) - 306001 * jE n / 10000 := rfl
  have hMon : jMon n = if jE n < 14 then jE n - 1 else jE n - 13 := rfl
  have hY : jYear n = if jMon n > 2 then jC n - 4716 else jC n - 4715 := rfl
  generalize jYear n = y at *
  generalize jMon n = m at *
  generalize jDay n = dy at *
  generalize jE n = e at *
  generalize hr : jB n - jD n = r at *
  generalize jB n = b at *
  generalize jD n = d at *
  generalize jC n = c at *
  have he : e = 4 ∨ e = 5 ∨ e = 6 ∨ e = 7 ∨ e = 8 ∨ e = 9 ∨ e = 10 ∨ e = 11 ∨ e = 12 ∨ e = 13 ∨ e = 14 ∨ e = 15 := by omega
  unfold jLegal jN
  rcases he with rfl | rfl | rfl | rfl | rfl | rfl | rfl | rfl | rfl | rfl | rfl | rfl
  all_goals (simp only [reduceIte, Int.reduceLT, Int.reduceMul, Int.reduceAdd, Int.reduceSub, Int.reduceDiv] at hMon; subst hMon)
  all_goals (simp only [reduceIte, Int.reduceLT, Int.reduceLE, Int.reduceMul, Int.reduceAdd, Int.reduceSub, Int.reduceDiv, GT.gt] at hY hDay ⊢)
  all_goals (refine ⟨⟨?_, ?_, ?_, ?_, ?_, ?_, ?_, ?_, ?_, ?_, ?_, ?_⟩, ?_⟩ <;> first | trivial | (intros; omega))

/-- the Gregorian reading of a day number, as the program reckons it -/
def gD (n : Int) : Int := n - 1721426
def gQ (n : Int) : Int := gD n / 146097
def gR1 (n : Int) : Int := gD n % 146097
def gC (n : Int) : Int := gR1 n / 36524
def gR2 (n : Int) : Int := gR1 n % 36524
def gU (n : Int) : Int := gR2 n / 1461
def gR3 (n : Int) : Int := gR2 n % 1461
def gI (n : Int) : Int := gR3 n / 365
def gYear (n : Int) : Int := if gC n = 4 ∨ gI n = 4 then gQ n * 400 + gC n * 100 + gU n * 4 + gI n else gQ n * 400 + gC n * 100 + gU n * 4 + gI n + 1
def gYd (n : Int) : Int := n - gN (gYear n) 1 1
def gAdj (n : Int) : Int := if gYd n < 58 + (if gYear n % 4 = 0 ∧ (gYear n % 100 ≠ 0 ∨ gYear n % 400 = 0) then 1 else 0) then 0 else if gYear n % 4 = 0 ∧ (gYear n % 100 ≠ 0 ∨ gYear n % 400 = 0) then 1 else 2
def gMon (n : Int) : Int := ((gYd n + gAdj n) * 12 + 373) / 367
def gDay (n : Int) : Int := n - gN (gYear n) (gMon n) 1 + 1

theorem first_day (y : Int) : gN y 1 1 = 365 * (y - 1) + (y - 1) / 4 - (y - 1) / 100 + (y - 1) / 400 + 1721426 := by
  unfold gN
  simp only [Int.reduceLE, reduceIte, Int.reduceMul, Int.reduceSub, Int.reduceDiv]
  omega

theorem greg_year {n : Int} (h1 : -100000000000 ≤ n) (h2 : n ≤ 100002451545) :
    -290000000 ≤ gYear n ∧ gYear n ≤ 290000000 ∧ 0 ≤ gYd n ∧ gYd n ≤ 365 ∧ (gYd n = 365 → gYear n % 4 = 0 ∧ (gYear n % 100 ≠ 0 ∨ gYear n % 400 = 0)) := by
  have e0 : gYd n = n - gN (gYear n) 1 1 := rfl
  rw [first_day] at e0
  have a0 : gD n = n - 1721426 := rfl
  have a1 : gQ n = gD n / 146097 := rfl
  have a2 : gR1 n = gD n % 146097 := rfl
  have a3 : gC n = gR1 n / 36524 := rfl
  have a4 : gR2 n = gR1 n % 36524 := rfl
  have a5 : gU n = gR2 n / 1461 := rfl
  have a6 : gR3 n = gR2 n % 1461 := rfl
  have a7 : gI n = gR3 n / 365 := rfl
  have a8 : gYear n = if gC n = 4 ∨ gI n = 4 then gQ n * 400 + gC n * 100 + gU n * 4 + gI n else gQ n * 400 + gC n * 100 + gU n * 4 + gI n + 1 := rfl
  generalize gYear n = y at *
  generalize gYd n = yd at *
  generalize gD n = D at *
  generalize gQ n = Q at *
  generalize gR1 n = r1 at *
  generalize gC n = C at *
  generalize gR2 n = r2 at *
  generalize gU n = U at *
  generalize gR3 n = r3 at *
  generalize gI n = I at *
  have b1 : D = 146097 * Q + r1 := by omega
  have b2 : r1 = 36524 * C + r2 := by omega
  have b3 : r2 = 1461 * U + r3 := by omega
  have b4 : 0 ≤ r1 ∧ r1 < 146097 := by omega
  have b5 : 0 ≤ r2 ∧ r2 < 36524 := by omega
  have b6 : 0 ≤ r3 ∧ r3 < 1461 := by omega
  have b7 : 0 ≤ C ∧ C ≤ 4 := by omega
  have b8 : 0 ≤ U ∧ U ≤ 24 := by omega
  have b9 : 0 ≤ I ∧ I ≤ 4 := by omega
  have c1 : C = 4 → r2 = 0 := by omega
  have c2 : I = 4 → r3 = 1460 := by omega
  have c3 : I = 4 → U ≤ 23 := by omega
  have c4 : r3 - 365 * I ≤ 364 := by omega
  have c5 : 0 ≤ r3 - 365 * I := by omega
  have hq : -686000 ≤ Q ∧ Q ≤ 686000 := by omega
  clear a1 a2 a3 a4 a5 a6 a7
  by_cases hC : C = 4
  · rw [if_pos (.inl hC)] at a8
    have : r2 = 0 := c1 hC
    have hU : U = 0 := by omega
    have hI : I = 0 := by omega
    subst hC hU hI
    have d1 : (y - 1) / 4 = 100 * Q + 99 := by omega
    have d2 : (y - 1) / 100 = 4 * Q + 3 := by omega
    have d3 : (y - 1) / 400 = Q := by omega
    rw [d1, d2, d3] at e0
    have d4 : y % 4 = 0 := by omega
    have d5 : y % 400 = 0 := by omega
    omega
  · by_cases hI : I = 4
    · rw [if_pos (.inr hI)] at a8
      have := c2 hI
      have := c3 hI
      subst hI
      have d1 : (y - 1) / 4 = 100 * Q + 25 * C + U := by omega
      have d2 : (y - 1) / 100 = 4 * Q + C := by omega
      have d3 : (y - 1) / 400 = Q := by omega
      rw [d1, d2, d3] at e0
      have d4 : y % 4 = 0 := by omega
      have d5 : y % 100 ≠ 0 := by omega
      omega
    · rw [if_neg (by omega)] at a8
      have d1 : (y - 1) / 4 = 100 * Q + 25 * C + U := by omega
      have d2 : (y - 1) / 100 = 4 * Q + C := by omega
      have d3 : (y - 1) / 400 = Q := by omega
      rw [d1, d2, d3] at e0
      omega

theorem greg_spec {n : Int} (h1 : -100000000000 ≤ n) (h2 : n ≤ 100002451545) :
    gLegal (gYear n) (gMon n) 1 ∧ gLegal (gYear n) (gMon n) (gDay n) ∧ gN (gYear n) (gMon n) (gDay n) = n := by
  obtain ⟨y1, y2, y3, y4, y5⟩ := greg_year h1 h2
  have hA : gAdj n = if gYd n < 58 + (if gYear n % 4 = 0 ∧ (gYear n % 100 ≠ 0 ∨ gYear n % 400 = 0) then 1 else 0) then 0 else if gYear n % 4 = 0 ∧ (gYear n % 100 ≠ 0 ∨ gYear n % 400 = 0) then 1 else 2 := rfl
  have hM : gMon n = ((gYd n + gAdj n) * 12 + 373) / 367 := rfl
  have hD : gDay n = n - gN (gYear n) (gMon n) 1 + 1 := rfl
  have hY : gYd n = n - gN (gYear n) 1 1 := rfl
  have hN : gN (gYear n) (gMon n) (gDay n) = gN (gYear n) (gMon n) 1 + gDay n - 1 := by unfold gN; omega
  have hO : gN (gYear n) (gMon n) 1 = gN (gYear n) 1 1 + (367 * gMon n - 362) / 12 + (if gMon n ≤ 2 then 0 else if gYear n % 4 = 0 ∧ (gYear n % 100 ≠ 0 ∨ gYear n % 400 = 0) then -1 else -2) := by
    rw [first_day]; unfold gN; omega
  rw [hN]
  rw [hO] at hD ⊢
  generalize gN (gYear n) 1 1 = N1 at *
  generalize gYear n = y at *
  generalize gAdj n = a at *
  generalize gYd n = yd at *
  generalize gMon n = m at *
  generalize gDay n = d at *
  unfold gLegal
  by_cases hl : y % 4 = 0 ∧ (y % 100 ≠ 0 ∨ y % 400 = 0)
  · simp only [if_pos hl] at hA hD ⊢
    have hm : m = 1 ∨ m = 2 ∨ m = 3 ∨ m = 4 ∨ m = 5 ∨ m = 6 ∨ m = 7 ∨ m = 8 ∨ m = 9 ∨ m = 10 ∨ m = 11 ∨ m = 12 := by
      by_cases h58 : yd < 58 + 1
      · rw [if_pos h58] at hA; omega
      · rw [if_neg h58] at hA; omega
    by_cases h58 : yd < 58 + 1
    · rw [if_pos h58] at hA
      rcases hm with rfl | rfl | rfl | rfl | rfl | rfl | rfl | rfl | rfl | rfl | rfl | rfl
      all_goals (simp only [reduceIte, Int.reduceLE, Int.reduceMul, Int.reduceAdd, Int.reduceSub, Int.reduceDiv] at hD ⊢)
      all_goals (refine ⟨⟨?_, ?_, ?_, ?_, ?_, ?_, ?_, ?_, ?_, ?_, ?_, ?_⟩, ⟨?_, ?_, ?_, ?_, ?_, ?_, ?_, ?_, ?_, ?_, ?_, ?_⟩, ?_⟩ <;> first | trivial | (intros; omega) | (intros; exact hl))
    · rw [if_neg h58] at hA
      rcases hm with rfl | rfl | rfl | rfl | rfl | rfl | rfl | rfl | rfl | rfl | rfl | rfl
      all_goals (simp only [reduceIte, Int.reduceLE, Int.reduceMul, Int.reduceAdd, Int.reduceSub, Int.reduceDiv] at hD ⊢)
      all_goals (refine ⟨⟨?_, ?_, ?_, ?_, ?_, ?_, ?_, ?_, ?_, ?_, ?_, ?_⟩, ⟨?_, ?_, ?_, ?_, ?_, ?_, ?_, ?_, ?_, ?_, ?_, ?_⟩, ?_⟩ <;> first | trivial | (intros; omega) | (intros; exact hl))
  · simp only [if_neg hl] at hA hD ⊢
    have hyd : yd ≤ 364 := by
      rcases Int.lt_or_le 364 yd with c | c
      · exact absurd (y5 (by omega)) hl
      · exact c
    have hm : m = 1 ∨ m = 2 ∨ m = 3 ∨ m = 4 ∨ m = 5 ∨ m = 6 ∨ m = 7 ∨ m = 8 ∨ m = 9 ∨ m = 10 ∨ m = 11 ∨ m = 12 := by
      by_cases h58 : yd < 58 + 0
      · rw [if_pos h58] at hA; omega
      · rw [if_neg h58] at hA; omega
    clear y5
    by_cases h58 : yd < 58 + 0
    · rw [if_pos h58] at hA
      rcases hm with rfl | rfl | rfl | rfl | rfl | rfl | rfl | rfl | rfl | rfl | rfl | rfl
      all_goals (simp only [reduceIte, Int.reduceLE, Int.reduceMul, Int.reduceAdd, Int.reduceSub, Int.reduceDiv] at hD ⊢)
      all_goals (refine ⟨⟨?_, ?_, ?_, ?_, ?_, ?_, ?_, ?_, ?_, ?_, ?_, ?_⟩, ⟨?_, ?_, ?_, ?_, ?_, ?_, ?_, ?_, ?_, ?_, ?_, ?_⟩, ?_⟩ <;> first | trivial | (intros; omega))
    · rw [if_neg h58] at hA
      rcases hm with rfl | rfl | rfl | rfl | rfl | rfl | rfl | rfl | rfl | rfl | rfl | rfl
      all_goals (simp only [reduceIte, Int.reduceLE, Int.reduceMul, Int.reduceAdd, Int.reduceSub, Int.reduceDiv] at hD ⊢)
      all_goals (refine ⟨⟨?_, ?_, ?_, ?_, ?_, ?_, ?_, ?_, ?_, ?_, ?_, ?_⟩, ⟨?_, ?_, ?_, ?_, ?_, ?_, ?_, ?_, ?_, ?_, ?_, ?_⟩, ?_⟩ <;> first | trivial | (intros; omega))

end Mine

end
section
namespace Mine

/-- the hundreds of the year, counted from March -/
def hund (y m : Int) : Int := (if m < 3 then y - 1 else y) / 100
theorem apart' {y m : Int} (d : Int) (h1 : 1 ≤ m) (h2 : m ≤ 12) : jN y m d = gN y m d + (hund y m - hund y m / 4 - 2) := apart d h1 h2

theorem two_hundreds {h : Int} (e : h - h / 4 - 2 = 0) : h = 2 := by omega

theorem within_years {y m d : Int} (hl : gLegal y m d) : hund y m = 2 ↔ (1794168 ≤ gN y m d ∧ gN y m d ≤ 1830691) := by
  obtain ⟨p1, p2, p3, p4, p5, p6, p7, p8, p9, p10, p11, p12⟩ := hl
  rw [meeus d p3 p4]
  unfold hund
  simp only [q1, q2]
  by_cases hm : m ≤ 2
  · rw [if_pos hm, if_pos (show m < 3 by omega)]
    have hf : y % 4 = 0 ∧ (y % 100 ≠ 0 ∨ y % 400 = 0) ∨ (m = 2 → d ≤ 28) := by omega
    clear p12
    have e4 : (y - 1) / 100 / 4 = (y - 1) / 400 := q2 _
    constructor
    · intro h
      have : y = 300 → (m = 2 → d ≤ 28) := by intro h3; rcases hf with h4 | h4 <;> omega
      rcases (show m = 1 ∨ m = 2 by omega) with rfl | rfl <;> omega
    · intro h
      rcases (show y ≤ 199 ∨ y = 200 ∨ (201 ≤ y ∧ y ≤ 300) ∨ 301 ≤ y by omega) with c | c | c | c
      · clear hf; rcases (show m = 1 ∨ m = 2 by omega) with rfl | rfl <;> omega
      · subst c; rcases (show m = 1 ∨ m = 2 by omega) with rfl | rfl <;> omega
      · omega
      · clear hf; rcases (show m = 1 ∨ m = 2 by omega) with rfl | rfl <;> omega
  · rw [if_neg hm, if_neg (show ¬ m < 3 by omega)]
    clear p12 p11
    rcases months p3 p4 with rfl | rfl | rfl | rfl | rfl | rfl | rfl | rfl | rfl | rfl | rfl | rfl
    all_goals first | (exact absurd hm (by decide)) | skip
    all_goals (constructor <;> intro h <;> omega)

theorem same_iff {n : Int} (h1 : -100000000000 ≤ n) (h2 : n ≤ 100002451545) :
    (jYear n = gYear n ∧ jMon n = gMon n ∧ jDay n = gDay n) ↔ (1794168 ≤ n ∧ n ≤ 1830691) := by
  obtain ⟨jl, je⟩ := jul_spec h1 h2
  obtain ⟨_, gl, ge⟩ := greg_spec h1 h2
  have w := within_years gl
  rw [ge] at w
  rw [← w]
  have hg := gl
  unfold gLegal at hg
  have ha := apart' (y := gYear n) (m := gMon n) (gDay n) (by omega) (by omega)
  rw [ge] at ha
  constructor
  · rintro ⟨e1, e2, e3⟩
    rw [e1, e2, e3, ha] at je
    exact two_hundreds (by omega)
  · intro h
    rw [h] at ha
    have hj : jN (gYear n) (gMon n) (gDay n) = n := by rw [ha]; omega
    have := jul_inv (gl_jl gl)
    rw [hj] at this
    exact this
end Mine

end
section
namespace Mine
open PySem.Float64

/-- finite, and lo / 2^s <= value <= hi / 2^s -/
structure Vs (x : UInt64) (s : Nat) (lo hi : Int) : Prop where
  fin : ∃ a m e, decode x = .fin a m e
  ge : lo * 2 ^ (1074 - s) ≤ val x
  le : val x ≤ hi * 2 ^ (1074 - s)

theorem two_pos (n : Nat) : (0 : Int) < 2 ^ n := Int.pow_pos (by decide)

theorem rep_aux : ∀ (j m : Nat), m ≤ 2 ^ 53 → ∃ t, V t = m * 2 ^ j ∧ t ≤ j * 2 ^ 52 + 2 ^ 53
  | 0, m, h => ⟨m, by have := V_at (k := 0) (q := m) h (.inr rfl); rw [Nat.zero_mul, Nat.zero_add] at this; exact this, by omega⟩
  | j + 1, m, h => by
    by_cases hm : 2 ^ 52 ≤ m
    · exact ⟨(j + 1) * 2 ^ 52 + m, V_at h (.inl hm), by omega⟩
    · obtain ⟨t, h1, h2⟩ := rep_aux j (2 * m) (by omega)
      refine ⟨t, ?_, Nat.le_trans h2 (by clear h1 h2; omega)⟩
      rw [h1, Nat.pow_succ]
      ac_rfl

theorem mag_le {W D v H t : Nat} (hD : 0 < D) (hn : ∀ t', dist W (D * v) ≤ dist W (D * V t')) (hV : V t = H) (h : W ≤ D * H) : v ≤ H := by
  have h1 := hn t
  rw [hV] at h1
  rcases Nat.lt_or_ge H v with c | c
  · exfalso
    have : D * (H + 1) ≤ D * v := Nat.mul_le_mul_left _ c
    rw [Nat.mul_add, Nat.mul_one] at this
    unfold dist at h1
    generalize D * H = a at *
    generalize D * v = b at *
    omega
  · exact c
theorem mag_ge {W D v H t : Nat} (hD : 0 < D) (hn : ∀ t', dist W (D * v) ≤ dist W (D * V t')) (hV : V t = H) (h : D * H ≤ W) : H ≤ v := by
  have h1 := hn t
  rw [hV] at h1
  rcases Nat.lt_or_ge v H with c | c
  · exfalso
    have : D * (v + 1) ≤ D * H := Nat.mul_le_mul_left _ c
    rw [Nat.mul_add, Nat.mul_one] at this
    unfold dist at h1
    generalize D * H = a at *
    generalize D * v = b at *
    omega
  · exact c

theorem big_num : 2 * (2 ^ 53 * 2 ^ 1074) < (2 ^ 54 - 1) * 2 ^ 2045 := by decide +kernel

theorem toNat_le {h : Int} (h1 : h ≤ 2 ^ 53) : h.toNat ≤ 2 ^ 53 := by omega

/-- the heart: a rounded result lies between any two representable bounds of the exact one -/
theorem right_vs {r : UInt64} {neg : Bool} {W D s : Nat} {lo hi E : Int} (R : Right r neg W D) (hD : 0 < D)
    (hE : E = if neg then -(W : Int) else (W : Int)) (hl1 : -(2 ^ 53) ≤ lo) (hl2 : lo ≤ 2 ^ 53) (hh1 : -(2 ^ 53) ≤ hi) (hh2 : hi ≤ 2 ^ 53)
    (h1 : lo * 2 ^ (1074 - s) * D ≤ E) (h2 : E ≤ hi * 2 ^ (1074 - s) * D) : Vs r s lo hi := by
  obtain ⟨t, rfl, hle, hov, hnear⟩ := R
  have hJ : (2 : Nat) ^ (1074 - s) ≤ 2 ^ 1074 := Nat.pow_le_pow_right (by decide) (by omega)
  have hJI : ((2 ^ (1074 - s) : Nat) : Int) = (2 : Int) ^ (1074 - s) := by simp
  have hj : 1074 - s ≤ 1074 := by omega
  have repj := rep_aux (1074 - s)
  have hJ0 : 0 < (2 : Nat) ^ (1074 - s) := Nat.two_pow_pos _
  rw [← hJI] at h1 h2
  have hWle : W ≤ D * (2 ^ 53 * 2 ^ (1074 - s)) := by
    have a1 : lo.natAbs ≤ 2 ^ 53 := by omega
    have a2 : hi.natAbs ≤ 2 ^ 53 := by omega
    have hK0 : (0 : Int) ≤ ((2 ^ (1074 - s) : Nat) : Int) * (D : Int) := by exact_mod_cast Nat.zero_le _
    have b1 : (W : Int) ≤ (2 ^ 53 : Int) * (((2 ^ (1074 - s) : Nat) : Int) * (D : Int)) := by
      rw [Int.mul_assoc] at h1 h2
      have c1 : -(2 ^ 53 : Int) * (((2 ^ (1074 - s) : Nat) : Int) * (D : Int)) ≤ lo * (((2 ^ (1074 - s) : Nat) : Int) * (D : Int)) := Int.mul_le_mul_of_nonneg_right hl1 hK0
      have c2 : hi * (((2 ^ (1074 - s) : Nat) : Int) * (D : Int)) ≤ (2 ^ 53 : Int) * (((2 ^ (1074 - s) : Nat) : Int) * (D : Int)) := Int.mul_le_mul_of_nonneg_right hh2 hK0
      rw [Int.neg_mul] at c1
      cases neg
      · simp only [Bool.false_eq_true, if_false] at hE; omega
      · simp only [if_true] at hE; omega
    have : ((W : Nat) : Int) ≤ ((D * (2 ^ 53 * 2 ^ (1074 - s)) : Nat) : Int) := by
      rw [Int.natCast_mul, Int.natCast_mul]
      refine Int.le_trans b1 (Int.le_of_eq ?_)
      rw [show ((2 ^ 53 : Nat) : Int) = (2 ^ 53 : Int) by decide]
      ac_rfl
    exact Int.ofNat_le.mp this
  have hlt : t < infMag := by
    refine Nat.lt_of_le_of_ne hle fun e => ?_
    have h3 := hov.mp e
    have h4 : 2 * W ≤ D * (2 * (2 ^ 53 * 2 ^ 1074)) := by
      have : D * (2 ^ 53 * 2 ^ (1074 - s)) ≤ D * (2 ^ 53 * 2 ^ 1074) := Nat.mul_le_mul_left _ (Nat.mul_le_mul_left _ hJ)
      rw [Nat.mul_left_comm]
      exact Nat.mul_le_mul_left _ (Nat.le_trans hWle this)
    have h5 := Nat.mul_lt_mul_of_pos_left big_num hD
    omega
  have hn := fun t' => (hnear hlt t').1
  obtain ⟨m, e, hd, hv⟩ := decode_pack neg hlt
  have hval := val_pack neg hlt
  refine ⟨⟨_, _, _, hd⟩, ?_, ?_⟩ <;> rw [hval, ← hJI]
  · cases neg
    · simp only [Bool.false_eq_true, if_false] at hE
      show lo * _ ≤ sgn false (V t)
      unfold sgn
      simp only [Bool.false_eq_true, if_false]
      by_cases c : lo ≤ 0
      · have : lo * ((2 ^ (1074 - s) : Nat) : Int) ≤ 0 := Int.mul_nonpos_of_nonpos_of_nonneg c (by omega)
        omega
      · obtain ⟨n, rfl⟩ := Int.eq_ofNat_of_zero_le (show 0 ≤ lo by omega)
        obtain ⟨t', ht', _⟩ := repj n (by omega)
        have := mag_ge hD hn ht' (by
          have : ((n * 2 ^ (1074 - s) * D : Nat) : Int) ≤ (W : Int) := by rw [Int.natCast_mul, Int.natCast_mul]; omega
          rw [Nat.mul_comm]; exact Int.ofNat_le.mp this)
        have := Int.ofNat_le.mpr this
        rwa [Int.natCast_mul] at this
    · simp only [if_true] at hE
      show lo * _ ≤ sgn true (V t)
      unfold sgn
      simp only [if_true]
      have hlo : lo ≤ 0 := by
        rcases Int.lt_or_le 0 lo with c | c
        · have : 0 ≤ lo * ((2 ^ (1074 - s) : Nat) : Int) := Int.mul_nonneg (by omega) (by omega)
          have h6 : 0 < lo * ((2 ^ (1074 - s) : Nat) : Int) * (D : Int) := Int.mul_pos (Int.mul_pos c (by omega)) (by omega)
          omega
        · exact c
      obtain ⟨n, hn'⟩ := Int.eq_ofNat_of_zero_le (show 0 ≤ -lo by omega)
      have hlo' : lo = -(n : Int) := by omega
      subst hlo'
      obtain ⟨t', ht', _⟩ := repj n (by omega)
      have := mag_le hD hn ht' (by
        have : (W : Int) ≤ ((n * 2 ^ (1074 - s) * D : Nat) : Int) := by
          rw [Int.natCast_mul, Int.natCast_mul]
          rw [Int.neg_mul, Int.neg_mul] at h1
          omega
        rw [Nat.mul_comm D]; exact Int.ofNat_le.mp this)
      have := Int.ofNat_le.mpr this
      rw [Int.natCast_mul] at this
      rw [Int.neg_mul]; omega
  · cases neg
    · simp only [Bool.false_eq_true, if_false] at hE
      show sgn false (V t) ≤ hi * _
      unfold sgn
      simp only [Bool.false_eq_true, if_false]
      have hhi : 0 ≤ hi := by
        rcases Int.lt_or_le hi 0 with c | c
        · have h6 : hi * ((2 ^ (1074 - s) : Nat) : Int) * (D : Int) < 0 := Int.mul_neg_of_neg_of_pos (Int.mul_neg_of_neg_of_pos c (by omega)) (by omega)
          omega
        · exact c
      obtain ⟨n, rfl⟩ := Int.eq_ofNat_of_zero_le hhi
      obtain ⟨t', ht', _⟩ := repj n (by omega)
      have := mag_le hD hn ht' (by
        have : (W : Int) ≤ ((n * 2 ^ (1074 - s) * D : Nat) : Int) := by
          rw [Int.natCast_mul, Int.natCast_mul]; omega
        rw [Nat.mul_comm D]; exact Int.ofNat_le.mp this)
      have := Int.ofNat_le.mpr this
      rwa [Int.natCast_mul] at this
    · simp only [if_true] at hE
      show sgn true (V t) ≤ hi * _
      unfold sgn
      simp only [if_true]
      by_cases c : 0 ≤ hi
      · have : 0 ≤ hi * ((2 ^ (1074 - s) : Nat) : Int) := Int.mul_nonneg c (by omega)
        omega
      · obtain ⟨n, hn'⟩ := Int.eq_ofNat_of_zero_le (show 0 ≤ -hi by omega)
        have hhi' : hi = -(n : Int) := by omega
        subst hhi'
        obtain ⟨t', ht', _⟩ := repj n (by omega)
        have := mag_ge hD hn ht' (by
          have : ((n * 2 ^ (1074 - s) * D : Nat) : Int) ≤ (W : Int) := by
            rw [Int.natCast_mul, Int.natCast_mul]
            rw [Int.neg_mul, Int.neg_mul] at h2
            omega
          rw [Nat.mul_comm]; exact Int.ofNat_le.mp this)
        have := Int.ofNat_le.mpr this
        rw [Int.natCast_mul] at this
        rw [Int.neg_mul]; omega


theorem val_zero (a : Bool) : (∃ b m e, decode (zero a) = .fin b m e) ∧ val (zero a) = 0 := by
  have h : 0 < infMag := by decide
  obtain ⟨m, e, hd, _⟩ := decode_pack a h
  have hv := val_pack a h
  rw [V_zero] at hv
  exact ⟨⟨_, _, _, hd⟩, by show val (pack a 0) = 0; rw [hv]; cases a <;> rfl⟩

theorem Vs.weaken {x : UInt64} {s : Nat} {lo hi lo' hi' : Int} (h : Vs x s lo hi) (h1 : lo' ≤ lo) (h2 : hi ≤ hi') : Vs x s lo' hi' :=
  ⟨h.fin, Int.le_trans (Int.mul_le_mul_of_nonneg_right h1 (Int.le_of_lt (two_pos _))) h.ge, Int.le_trans h.le (Int.mul_le_mul_of_nonneg_right h2 (Int.le_of_lt (two_pos _)))⟩

theorem pow_split {s : Nat} (h : s ≤ 1074) : (2 : Int) ^ s * 2 ^ (1074 - s) = 2 ^ 1074 := by rw [← Int.pow_add]; congr 1; omega

theorem Vs.rescale {x : UInt64} {s : Nat} {lo hi : Int} (h : Vs x s lo hi) (r : Nat) (hs : s + r ≤ 1074) : Vs x (s + r) (lo * 2 ^ r) (hi * 2 ^ r) := by
  have e : (2 : Int) ^ (1074 - s) = 2 ^ r * 2 ^ (1074 - (s + r)) := by rw [← Int.pow_add]; congr 1; omega
  refine ⟨h.fin, ?_, ?_⟩
  · rw [Int.mul_assoc, ← e]; exact h.ge
  · rw [Int.mul_assoc, ← e]; exact h.le

theorem sign_natAbs (z : Int) : z = if decide (z < 0) = true then -(z.natAbs : Int) else (z.natAbs : Int) := by
  by_cases h : z < 0
  · simp only [h, decide_true, if_true]; omega
  · simp only [h, decide_false, Bool.false_eq_true, if_false]; omega

theorem add_vs {x y : UInt64} {s : Nat} {l1 h1 l2 h2 : Int} (X : Vs x s l1 h1) (Y : Vs y s l2 h2) (b1 : -(2 ^ 53) ≤ l1 + l2) (b2 : h1 + h2 ≤ 2 ^ 53)
    (b3 : l1 + l2 ≤ 2 ^ 53) (b4 : -(2 ^ 53) ≤ h1 + h2) : Vs (add x y) s (l1 + l2) (h1 + h2) := by
  obtain ⟨a, m, e, hx⟩ := X.fin
  obtain ⟨b, k, f, hy⟩ := Y.fin
  have hr := add_right hx hy
  have g1 : (l1 + l2) * 2 ^ (1074 - s) ≤ val x + val y := by rw [Int.add_mul]; exact Int.add_le_add X.ge Y.ge
  have g2 : val x + val y ≤ (h1 + h2) * 2 ^ (1074 - s) := by rw [Int.add_mul]; exact Int.add_le_add X.le Y.le
  by_cases h0 : val x + val y = 0
  · rw [hr.1 h0]
    obtain ⟨z1, z2⟩ := val_zero (a && b)
    exact ⟨z1, by rw [z2]; omega, by rw [z2]; omega⟩
  · exact right_vs (hr.2 h0) Nat.one_pos (sign_natAbs _) b1 b3 b4 b2 (by simpa using g1) (by simpa using g2)

theorem sub_vs {x y : UInt64} {s : Nat} {l1 h1 l2 h2 : Int} (X : Vs x s l1 h1) (Y : Vs y s l2 h2) (b1 : -(2 ^ 53) ≤ l1 - h2) (b2 : h1 - l2 ≤ 2 ^ 53)
    (b3 : l1 - h2 ≤ 2 ^ 53) (b4 : -(2 ^ 53) ≤ h1 - l2) : Vs (sub x y) s (l1 - h2) (h1 - l2) := by
  obtain ⟨a, m, e, hx⟩ := X.fin
  obtain ⟨b, k, f, hy⟩ := Y.fin
  have hr := sub_right hx hy
  have g1 : (l1 - h2) * 2 ^ (1074 - s) ≤ val x - val y := by rw [Int.sub_mul]; exact Int.sub_le_sub X.ge Y.le
  have g2 : val x - val y ≤ (h1 - l2) * 2 ^ (1074 - s) := by rw [Int.sub_mul]; exact Int.sub_le_sub X.le Y.ge
  by_cases h0 : val x - val y = 0
  · rw [hr.1 h0]
    obtain ⟨z1, z2⟩ := val_zero (a && !b)
    exact ⟨z1, by rw [z2]; omega, by rw [z2]; omega⟩
  · exact right_vs (hr.2 h0) Nat.one_pos (sign_natAbs _) b1 b3 b4 b2 (by simpa using g1) (by simpa using g2)

theorem ofInt_vs {n : Int} (s : Nat) (hs : s ≤ 1074) (b1 : -(2 ^ 53) ≤ n * 2 ^ s) (b2 : n * 2 ^ s ≤ 2 ^ 53) : Vs (ofInt n) s (n * 2 ^ s) (n * 2 ^ s) := by
  have e : n * 2 ^ s * 2 ^ (1074 - s) * ((1 : Nat) : Int) = n * 2 ^ 1074 := by rw [Int.mul_assoc n, pow_split hs]; simp
  refine right_vs (ofInt_right n) Nat.one_pos rfl b1 b2 b1 b2 ?_ ?_ <;> rw [e]
  · have := sign_natAbs n
    rw [Int.natCast_mul, show ((2 ^ 1074 : Nat) : Int) = (2 : Int) ^ 1074 by simp, ← Int.neg_mul]
    conv => lhs; rw [this]
    split <;> exact Int.le_refl _
  · have := sign_natAbs n
    rw [Int.natCast_mul, show ((2 ^ 1074 : Nat) : Int) = (2 : Int) ^ 1074 by simp, ← Int.neg_mul]
    conv => rhs; rw [this]
    split <;> exact Int.le_refl _

theorem val_sign {x : UInt64} {a : Bool} {m : Nat} {e : Int} (h : decode x = .fin a m e) : val x = if a = true then -((val x).natAbs : Int) else ((val x).natAbs : Int) := by
  rw [val_natAbs h, val_eq h]; rfl

theorem mul_vs {x y : UInt64} {s r : Nat} {k l : Int} (X : Vs x s k k) (Y : Vs y r l l) (hs : s + r ≤ 1074) (b1 : -(2 ^ 53) ≤ k * l) (b2 : k * l ≤ 2 ^ 53) :
    Vs (mul x y) (s + r) (k * l) (k * l) := by
  obtain ⟨a, m, e, hx⟩ := X.fin
  obtain ⟨b, n, f, hy⟩ := Y.fin
  have hX : val x = k * 2 ^ (1074 - s) := Int.le_antisymm X.le X.ge
  have hY : val y = l * 2 ^ (1074 - r) := Int.le_antisymm Y.le Y.ge
  have hE : val x * val y = if (a != b) = true then -(((val x).natAbs * (val y).natAbs : Nat) : Int) else (((val x).natAbs * (val y).natAbs : Nat) : Int) := by
    conv => lhs; rw [val_sign hx, val_sign hy]
    rw [Int.natCast_mul]
    generalize ((val x).natAbs : Int) = p
    generalize ((val y).natAbs : Int) = q
    cases a <;> cases b <;> simp [Int.neg_mul, Int.mul_neg]
  have e1 : k * l * 2 ^ (1074 - (s + r)) * ((2 ^ 1074 : Nat) : Int) = val x * val y := by
    rw [hX, hY, show ((2 ^ 1074 : Nat) : Int) = (2 : Int) ^ 1074 by simp]
    have : (2 : Int) ^ (1074 - (s + r)) * 2 ^ 1074 = 2 ^ (1074 - s) * 2 ^ (1074 - r) := by rw [← Int.pow_add, ← Int.pow_add]; congr 1; omega
    rw [Int.mul_assoc (k * l), this]
    ac_rfl
  exact right_vs (mul_right hx hy) (Nat.two_pow_pos _) hE b1 b2 b1 b2 (Int.le_of_eq e1) (Int.le_of_eq e1.symm)

/-- int / int -/
theorem divII_vs {n d : Int} {s : Nat} {lo hi : Int} (hd : 0 < d) (hs : s ≤ 1074) (b1 : -(2 ^ 53) ≤ lo) (b2 : lo ≤ 2 ^ 53) (b3 : -(2 ^ 53) ≤ hi) (b4 : hi ≤ 2 ^ 53)
    (g1 : lo * d ≤ n * 2 ^ s) (g2 : n * 2 ^ s ≤ hi * d) : Vs (ofFrac (decide (n < 0) != decide (d < 0)) n.natAbs d.natAbs) s lo hi := by
  have hdd : decide (d < 0) = false := by simp; omega
  rw [hdd, Bool.bne_false]
  have hdn : ((d.natAbs : Nat) : Int) = d := by omega
  have R : Right (ofFrac (decide (n < 0)) n.natAbs d.natAbs) (decide (n < 0)) (n.natAbs * 2 ^ 1074) d.natAbs := ofFrac_right (by omega) rfl (by omega)
  have hE : n * 2 ^ 1074 = if decide (n < 0) = true then -((n.natAbs * 2 ^ 1074 : Nat) : Int) else ((n.natAbs * 2 ^ 1074 : Nat) : Int) := by
    have := sign_natAbs n
    rw [Int.natCast_mul, show ((2 ^ 1074 : Nat) : Int) = (2 : Int) ^ 1074 by simp, ← Int.neg_mul]
    conv => lhs; rw [this]
    split <;> rfl
  have hp := Int.le_of_lt (two_pos (1074 - s))
  refine right_vs R (by omega) hE b1 b2 b3 b4 ?_ ?_ <;> rw [hdn, ← pow_split hs]
  · have := Int.mul_le_mul_of_nonneg_right g1 hp
    calc lo * 2 ^ (1074 - s) * d = lo * d * 2 ^ (1074 - s) := by ac_rfl
      _ ≤ n * 2 ^ s * 2 ^ (1074 - s) := this
      _ = n * (2 ^ s * 2 ^ (1074 - s)) := by ac_rfl
  · have := Int.mul_le_mul_of_nonneg_right g2 hp
    calc n * (2 ^ s * 2 ^ (1074 - s)) = n * 2 ^ s * 2 ^ (1074 - s) := by ac_rfl
      _ ≤ hi * d * 2 ^ (1074 - s) := this
      _ = hi * 2 ^ (1074 - s) * d := by ac_rfl

theorem lin_le {lo vy l2 h2 A B : Int} (h1 : l2 ≤ vy) (h3 : vy ≤ h2) (c1 : lo * l2 * A ≤ B) (c2 : lo * h2 * A ≤ B) (hA : 0 ≤ A) : lo * vy * A ≤ B := by
  rcases Int.le_total 0 lo with h | h
  · have : lo * vy ≤ lo * h2 := Int.mul_le_mul_of_nonneg_left h3 h
    exact Int.le_trans (Int.mul_le_mul_of_nonneg_right this hA) c2
  · have : lo * vy ≤ lo * l2 := Int.mul_le_mul_of_nonpos_left h h1
    exact Int.le_trans (Int.mul_le_mul_of_nonneg_right this hA) c1
theorem lin_ge {hi vy l2 h2 A B : Int} (h1 : l2 ≤ vy) (h3 : vy ≤ h2) (c1 : B ≤ hi * l2 * A) (c2 : B ≤ hi * h2 * A) (hA : 0 ≤ A) : B ≤ hi * vy * A := by
  rcases Int.le_total 0 hi with h | h
  · have : hi * l2 ≤ hi * vy := Int.mul_le_mul_of_nonneg_left h1 h
    exact Int.le_trans c1 (Int.mul_le_mul_of_nonneg_right this hA)
  · have : hi * h2 ≤ hi * vy := Int.mul_le_mul_of_nonpos_left h h3
    exact Int.le_trans c2 (Int.mul_le_mul_of_nonneg_right this hA)

/-- float / float, the divisor above nought, between bounds -/
theorem div_vs {x y : UInt64} {s s1 s2 : Nat} {lo hi l1 h1 l2 h2 : Int} (X : Vs x s1 l1 h1) (Y : Vs y s2 l2 h2) (hp : 0 < l2) (hs : s ≤ 1074) (hs1 : s1 ≤ 1074) (hs2 : s2 ≤ 1074)
    (b1 : -(2 ^ 53) ≤ lo) (b2 : lo ≤ 2 ^ 53) (b3 : -(2 ^ 53) ≤ hi) (b4 : hi ≤ 2 ^ 53)
    (c1 : lo * l2 * 2 ^ s1 ≤ l1 * 2 ^ (s + s2)) (c2 : lo * h2 * 2 ^ s1 ≤ l1 * 2 ^ (s + s2)) (c3 : h1 * 2 ^ (s + s2) ≤ hi * l2 * 2 ^ s1) (c4 : h1 * 2 ^ (s + s2) ≤ hi * h2 * 2 ^ s1) :
    Vs (div x y) s lo hi := by
  obtain ⟨a, m, e, hx⟩ := X.fin
  obtain ⟨b, n, f, hy⟩ := Y.fin
  have hvy : 0 < val y := by
    have := Int.mul_pos hp (two_pos (1074 - s2))
    have := Y.ge
    omega
  have hn : n ≠ 0 := by
    rintro rfl
    have := val_natAbs hy
    rw [Nat.zero_mul] at this
    omega
  have hb : b = false := by
    cases b
    · rfl
    · have := val_sign hy
      simp only [if_true] at this
      omega
  have hR := div_right hx hy hn
  have hE : val x * 2 ^ 1074 = if (a != b) = true then -(((val x).natAbs * 2 ^ 1074 : Nat) : Int) else (((val x).natAbs * 2 ^ 1074 : Nat) : Int) := by
    rw [hb, Bool.bne_false, Int.natCast_mul, show ((2 ^ 1074 : Nat) : Int) = (2 : Int) ^ 1074 by simp, ← Int.neg_mul]
    conv => lhs; rw [val_sign hx]
    split <;> rfl
  have hvn : (((val y).natAbs : Nat) : Int) = val y := by omega
  have e1 := pow_split hs1
  have e2 := pow_split hs2
  have e0 := pow_split hs
  have q1 := two_pos s1
  have q2 := two_pos s2
  have q0 := two_pos s
  have p1 := two_pos (1074 - s1)
  have p2 := two_pos (1074 - s2)
  have p0 := two_pos (1074 - s)
  have xg := X.ge
  have xl := X.le
  have yg := Y.ge
  have yl := Y.le
  rw [Int.pow_add] at c1 c2 c3 c4
  refine right_vs hR (by omega) hE b1 b2 b3 b4 ?_ ?_ <;> rw [hvn]
  · clear hR hE hx hy X Y c3 c4 xl
    generalize (2 : Int) ^ 1074 = P at *
    generalize (2 : Int) ^ (1074 - s1) = A1 at *
    generalize (2 : Int) ^ (1074 - s2) = A2 at *
    generalize (2 : Int) ^ (1074 - s) = A at *
    generalize (2 : Int) ^ s1 = S1 at *
    generalize (2 : Int) ^ s2 = S2 at *
    generalize (2 : Int) ^ s = S at *
    generalize val x = vx at *
    generalize val y = vy at *
    have key : ∀ l : Int, lo * l * S1 ≤ l1 * (S * S2) → lo * (l * A2) * A ≤ l1 * A1 * P := by
      intro l c
      have hPP : 0 ≤ A1 * A2 * A := Int.le_of_lt (Int.mul_pos (Int.mul_pos p1 p2) p0)
      have := Int.mul_le_mul_of_nonneg_right c hPP
      have r1 : lo * l * S1 * (A1 * A2 * A) = lo * (l * A2) * A * P := by rw [← e1]; ac_rfl
      have r2 : l1 * (S * S2) * (A1 * A2 * A) = l1 * A1 * P * P := by
        calc l1 * (S * S2) * (A1 * A2 * A) = l1 * A1 * (S * A) * (S2 * A2) := by ac_rfl
          _ = l1 * A1 * P * P := by rw [e0, e2]
      rw [r1, r2] at this
      have hP : 0 < P := by rw [← e1]; exact Int.mul_pos q1 p1
      exact Int.le_of_mul_le_mul_right this hP
    have hP : 0 < P := by rw [← e1]; exact Int.mul_pos q1 p1
    have := lin_le yg yl (key _ c1) (key _ c2) (Int.le_of_lt p0)
    calc lo * A * vy = lo * vy * A := by ac_rfl
      _ ≤ l1 * A1 * P := this
      _ ≤ vx * P := Int.mul_le_mul_of_nonneg_right xg (Int.le_of_lt hP)
  · clear hR hE hx hy X Y c1 c2 xg
    generalize (2 : Int) ^ 1074 = P at *
    generalize (2 : Int) ^ (1074 - s1) = A1 at *
    generalize (2 : Int) ^ (1074 - s2) = A2 at *
    generalize (2 : Int) ^ (1074 - s) = A at *
    generalize (2 : Int) ^ s1 = S1 at *
    generalize (2 : Int) ^ s2 = S2 at *
    generalize (2 : Int) ^ s = S at *
    generalize val x = vx at *
    generalize val y = vy at *
    have key : ∀ l : Int, h1 * (S * S2) ≤ hi * l * S1 → h1 * A1 * P ≤ hi * (l * A2) * A := by
      intro l c
      have hPP : 0 ≤ A1 * A2 * A := Int.le_of_lt (Int.mul_pos (Int.mul_pos p1 p2) p0)
      have := Int.mul_le_mul_of_nonneg_right c hPP
      have r1 : hi * l * S1 * (A1 * A2 * A) = hi * (l * A2) * A * P := by rw [← e1]; ac_rfl
      have r2 : h1 * (S * S2) * (A1 * A2 * A) = h1 * A1 * P * P := by
        calc h1 * (S * S2) * (A1 * A2 * A) = h1 * A1 * (S * A) * (S2 * A2) := by ac_rfl
          _ = h1 * A1 * P * P := by rw [e0, e2]
      rw [r1, r2] at this
      have hP : 0 < P := by rw [← e1]; exact Int.mul_pos q1 p1
      exact Int.le_of_mul_le_mul_right this hP
    have hP : 0 < P := by rw [← e1]; exact Int.mul_pos q1 p1
    have := lin_ge yg yl (key _ c3) (key _ c4) (Int.le_of_lt p0)
    calc vx * P ≤ h1 * A1 * P := Int.mul_le_mul_of_nonneg_right xl (Int.le_of_lt hP)
      _ ≤ hi * vy * A := this
      _ = hi * A * vy := by ac_rfl

/-- the remainder: ints, the divisor above nought -/
theorem mod_vs {x y : UInt64} {n d : Int} (X : Vs x 0 n n) (Y : Vs y 0 d d) (hd : 0 < d) (hd2 : d ≤ 2 ^ 53) (hn1 : -(2 ^ 53) ≤ n) (hn2 : n ≤ 2 ^ 53) : Vs (divmod x y).2 0 (n % d) (n % d) := by
  obtain ⟨a, m, e, hx⟩ := X.fin
  obtain ⟨b, k, f, hy⟩ := Y.fin
  have hX : val x = n * 2 ^ 1074 := Int.le_antisymm X.le X.ge
  have hY : val y = d * 2 ^ 1074 := Int.le_antisymm Y.le Y.ge
  have he := decode_ge hx
  have hf := decode_ge hy
  have hP := two_pos 1074
  have hvy : 0 < val y := by rw [hY]; exact Int.mul_pos hd hP
  have hk : k ≠ 0 := by
    rintro rfl
    have := val_natAbs hy
    rw [Nat.zero_mul] at this
    omega
  -- fmod
  have xn := val_natAbs hx
  have yn := val_natAbs hy
  generalize hg : min e f = g at *
  have e1 : (e + 1074).toNat = (e - g).toNat + (g + 1074).toNat := by omega
  have e2 : (f + 1074).toNat = (f - g).toNat + (g + 1074).toNat := by omega
  rw [e1, Nat.pow_add, ← Nat.mul_assoc] at xn
  rw [e2, Nat.pow_add, ← Nat.mul_assoc] at yn
  have hfm : fmod x y = ofBin a (m * 2 ^ (e - g).toNat % (k * 2 ^ (f - g).toNat)) g := by
    unfold fmod
    rw [hx, hy]
    simp only [align, hg, sgn, Bool.false_eq_true, if_false]
    rw [if_neg (by simpa using hk)]
    simp only [Int.toNat_natCast]
  have hpd : (((d.natAbs : Nat) : Int)) = d := by omega
  have xnn : (val x).natAbs = n.natAbs * 2 ^ 1074 := by rw [hX, Int.natAbs_mul, Int.natAbs_pow]; rfl
  have ynn : (val y).natAbs = d.natAbs * 2 ^ 1074 := by rw [hY, Int.natAbs_mul, Int.natAbs_pow]; rfl
  have hmodeq : (m * 2 ^ (e - g).toNat % (k * 2 ^ (f - g).toNat)) * 2 ^ (g + 1074).toNat = n.natAbs % d.natAbs * 2 ^ 1074 := by
    rw [← Nat.mul_mod_mul_right, ← xn, ← yn, xnn, ynn, Nat.mul_mod_mul_right]
  generalize m * 2 ^ (e - g).toNat % (k * 2 ^ (f - g).toNat) = R at *
  have hg1 : -1074 ≤ g := by omega
  generalize hr : n.natAbs % d.natAbs = r at *
  have hrd : (r : Int) < d := by
    have := Nat.mod_lt n.natAbs (show d.natAbs > 0 by omega)
    omega
  have hRight : Right (fmod x y) a (r * 2 ^ 1074) 1 := by
    rw [hfm]
    show Right (ofFrac a (shift R 1 g).1 (shift R 1 g).2) a _ _
    refine ofFrac_right (shift_pos _ _ _ (by decide)) ?_ (by decide)
    have := shift_one R g 1074 (by omega)
    rw [Nat.mul_one, this, ← hmodeq]
    rfl
  have hF : Vs (fmod x y) 0 (if a = true then -(r : Int) else r) (if a = true then -(r : Int) else r) := by
    have hE : (if a = true then -(r : Int) else r) * 2 ^ 1074 = if a = true then -((r * 2 ^ 1074 : Nat) : Int) else ((r * 2 ^ 1074 : Nat) : Int) := by
      rw [Int.natCast_mul, show ((2 ^ 1074 : Nat) : Int) = (2 : Int) ^ 1074 by simp, ← Int.neg_mul]
      split <;> rfl
    refine right_vs hRight Nat.one_pos hE ?_ ?_ ?_ ?_ (by simp) (by simp) <;> split <;> omega
  obtain ⟨b', m', e', hm⟩ := hF.fin
  have hmv : val (fmod x y) = (if a = true then -(r : Int) else r) * 2 ^ 1074 := Int.le_antisymm hF.le hF.ge
  have hz0 : 0 < infMag := by decide
  obtain ⟨zm, ze, hz, _⟩ := decode_pack false hz0
  have hzv : val (zero false) = 0 := (val_zero false).2
  have hz' : decode (zero false) = .fin false zm ze := hz
  have hly : lt y (zero false) = false := by
    unfold lt
    rw [cmp_right hy hz', hzv, Int.compare_eq_gt.mpr hvy]
    rfl
  have hzero : isZero (fmod x y) = decide (r = 0) := by
    unfold isZero
    rw [hm]
    have := val_natAbs hm
    rw [hmv, Int.natAbs_mul] at this
    have hra : (if a = true then -(r : Int) else r).natAbs = r := by split <;> omega
    rw [hra, Int.natAbs_pow, show Int.natAbs 2 = 2 from rfl] at this
    cases m' with
    | zero =>
      rw [Nat.zero_mul] at this
      have h3 : r = 0 := by
        rcases Nat.mul_eq_zero.mp this with h | h
        · exact h
        · exact absurd h (Nat.ne_of_gt (Nat.two_pow_pos _))
      simp [h3]
    | succ k' =>
      have h3 : r ≠ 0 := by
        rintro rfl
        rw [Nat.zero_mul] at this
        have := Nat.mul_pos (show 0 < k' + 1 by omega) (Nat.two_pow_pos (e' + 1074).toNat)
        omega
      simp [h3]
  have hsign : r ≠ 0 → (a = true ↔ n < 0) := by
    intro hr0
    have hn0 : n ≠ 0 := by rintro rfl; simp at hr; omega
    have hs := val_sign hx
    rw [xnn] at hs
    have hpp : (0 : Int) < ((n.natAbs * 2 ^ 1074 : Nat) : Int) := Int.ofNat_lt.mpr (Nat.mul_pos (by omega) (Nat.two_pow_pos _))
    constructor
    · intro ha
      rw [if_pos ha, hX] at hs
      rcases Int.lt_or_le n 0 with c | c
      · exact c
      · have := Int.mul_nonneg c (Int.le_of_lt hP)
        omega
    · intro hn
      cases a
      · simp only [Bool.false_eq_true, if_false] at hs
        have := Int.mul_neg_of_neg_of_pos hn hP
        omega
      · rfl
  have hD : (divmod x y).2 = if isZero (fmod x y) = true then copysign (zero false) y else if (lt y (zero false) != lt (fmod x y) (zero false)) = true then add (fmod x y) y else fmod x y := by
    unfold divmod
    simp only []
    split
    · rfl
    · split <;> rfl
  rw [hD, hzero, hly]
  by_cases h0 : r = 0
  · rw [if_pos (by simp [h0])]
    have hnd : n % d = 0 := by
      have : (n.natAbs : Int) % (d.natAbs : Int) = 0 := by rw [← Int.natCast_emod]; omega
      rw [hpd] at this
      exact Int.emod_eq_zero_of_dvd (Int.dvd_natAbs.mp (Int.dvd_of_emod_eq_zero this))
    rw [hnd]
    have hc : copysign (zero false) y = zero (signBit y) := by
      unfold copysign
      rw [if_neg (by rw [show zero false = pack false 0 from rfl, PySem.W.isNaN_pack false (Nat.zero_le _)]; decide)]
      have e0 : (zero false).toNat = 0 := by rw [show zero false = pack false 0 from rfl, pack_toNat false (by decide)]; rfl
      rw [e0]
      rfl
    rw [hc]
    obtain ⟨z1, z2⟩ := val_zero (signBit y)
    exact ⟨z1, by rw [z2]; omega, by rw [z2]; omega⟩
  · rw [if_neg (by simpa using h0)]
    have hs := hsign h0
    have hlt : lt (fmod x y) (zero false) = a := by
      unfold lt
      rw [cmp_right hm hz', hzv, hmv]
      have hrp : (0 : Int) < r := by omega
      cases a
      · simp only [Bool.false_eq_true, if_false]
        rw [Int.compare_eq_gt.mpr (Int.mul_pos hrp hP)]; rfl
      · simp only [if_true]
        rw [Int.compare_eq_lt.mpr (Int.mul_neg_of_neg_of_pos (by omega) hP)]; rfl
    rw [hlt]
    have hnat : ((n.natAbs : Int) % d) = r := by rw [← hpd, ← Int.natCast_emod, hr]
    cases ha : a
    · rw [ha] at hF hs
      have hn0 : 0 ≤ n := by
        rcases Int.lt_or_le n 0 with c | c
        · exact absurd (hs.mpr c) (by decide)
        · exact c
      have : n % d = r := by rw [← hnat]; congr 1; omega
      rw [this]
      simpa using hF
    · rw [ha] at hF hs
      have hn0 : n < 0 := hs.mp rfl
      have : n % d = -(r : Int) + d := by
        have h5 : n = -(n.natAbs : Int) := by omega
        have h6 := Int.mul_ediv_add_emod (n.natAbs : Int) d
        rw [hnat] at h6
        rw [h5]
        have h7 : -(n.natAbs : Int) = (-(r : Int) + d) + d * (-((n.natAbs : Int) / d) - 1) := by
          rw [Int.mul_sub, Int.mul_neg]; omega
        rw [h7, Int.add_mul_emod_self_left]
        exact Int.emod_eq_of_lt (by omega) (by omega)
      rw [this]
      simp only [if_true] at hF
      have := add_vs hF Y (by omega) (by omega) (by omega) (by omega)
      simpa using this

theorem floor_real {x : UInt64} {a : Bool} {m : Nat} {e q : Int} (hx : decode x = .fin a m e) (h1 : q * 2 ^ 1074 ≤ val x) (h2 : val x < (q + 1) * 2 ^ 1074) : floorOf a m e = q := by
  have he := decode_ge hx
  have hv : val x = sgn a m * ((2 ^ (e + 1074).toNat : Nat) : Int) := by rw [val_eq hx, sgn_mul]
  rw [hv, show ((2 ^ (e + 1074).toNat : Nat) : Int) = (2 : Int) ^ (e + 1074).toNat by simp] at h1 h2
  unfold floorOf
  split
  · rename_i h
    have e1 : (e + 1074).toNat = e.toNat + 1074 := by omega
    rw [e1, Int.pow_add, ← Int.mul_assoc] at h1 h2
    have hP := two_pos 1074
    have := Int.le_of_mul_le_mul_right h1 hP
    have := Int.lt_of_mul_lt_mul_right h2 (Int.le_of_lt hP)
    omega
  · rename_i h
    have e1 : (2 : Int) ^ 1074 = 2 ^ (-e).toNat * 2 ^ (e + 1074).toNat := by rw [← Int.pow_add]; congr 1; omega
    rw [e1, ← Int.mul_assoc] at h1 h2
    have hP := two_pos (e + 1074).toNat
    have hD := two_pos (-e).toNat
    have g1 := Int.le_of_mul_le_mul_right h1 hP
    have g2 := Int.lt_of_mul_lt_mul_right h2 (Int.le_of_lt hP)
    rw [Int.fdiv_eq_ediv_of_nonneg _ (Int.le_of_lt hD)]
    have a1 := (Int.le_ediv_iff_mul_le hD).mpr g1
    have a2 := (Int.ediv_lt_iff_lt_mul hD).mpr g2
    omega

theorem Vs.floor {x : UInt64} {s : Nat} {lo hi : Int} (X : Vs x s lo hi) (q : Int) (hs : s ≤ 1074) (h1 : q * 2 ^ s ≤ lo) (h2 : hi < (q + 1) * 2 ^ s) : PySem.Flt.toInt floorOf x = q := by
  obtain ⟨a, m, e, hx⟩ := X.fin
  rw [PySem.Flt.toInt_fin hx]
  have hp := two_pos (1074 - s)
  refine floor_real hx ?_ ?_ <;> rw [← pow_split hs, ← Int.mul_assoc]
  · exact Int.le_trans (Int.mul_le_mul_of_nonneg_right h1 (Int.le_of_lt hp)) X.ge
  · exact Int.lt_of_le_of_lt X.le (Int.mul_lt_mul_of_pos_right h2 hp)

theorem Vs.finite {x : UInt64} {s : Nat} {lo hi : Int} (X : Vs x s lo hi) : isFinite x = true := by
  obtain ⟨a, m, e, hx⟩ := X.fin
  unfold isFinite
  rw [hx]

theorem Vs.trunc {x : UInt64} {n : Int} (X : Vs x 0 n n) : PySem.Flt.toInt truncOf x = n := by
  obtain ⟨a, m, e, hx⟩ := X.fin
  rw [PySem.Flt.toInt_fin hx]
  have hX : val x = n * 2 ^ 1074 := Int.le_antisymm X.le X.ge
  have hP := two_pos 1074
  unfold truncOf
  split
  · unfold ceilOf
    rename_i h
    have hn := neg_decode hx
    have hv := neg_val hx
    have := floor_real (q := -n) hn (by rw [hv, hX, Int.neg_mul]; exact Int.le_refl _) (by rw [hv, hX, Int.add_mul, Int.neg_mul]; omega)
    rw [this]; omega
  · exact floor_real hx (by rw [hX]; exact Int.le_refl _) (by rw [hX, Int.add_mul]; omega)

theorem compare_scale' (p q K : Int) (hK : 0 < K) : compare (p * K) (q * K) = compare p q := by
  rcases Int.lt_trichotomy p q with h | h | h
  · rw [Int.compare_eq_lt.mpr h, Int.compare_eq_lt.mpr (Int.mul_lt_mul_of_pos_right h hK)]
  · subst h; simp
  · rw [Int.compare_eq_gt.mpr h, Int.compare_eq_gt.mpr (Int.mul_lt_mul_of_pos_right h hK)]

theorem Vs.cmpInt {x : UInt64} {s : Nat} {k : Int} (X : Vs x s k k) (hs : s ≤ 1074) (i : Int) : Float64.cmpInt x i = some (compare k (i * 2 ^ s)) := by
  obtain ⟨a, m, e, hx⟩ := X.fin
  have hX : val x = k * 2 ^ (1074 - s) := Int.le_antisymm X.le X.ge
  rw [cmpInt_right hx, hX, ← pow_split hs, ← Int.mul_assoc, compare_scale' _ _ _ (two_pos _)]

theorem Vs.cmp {x y : UInt64} {s : Nat} {k l : Int} (X : Vs x s k k) (Y : Vs y s l l) : Float64.cmp x y = some (compare k l) := by
  obtain ⟨a, m, e, hx⟩ := X.fin
  obtain ⟨b, n, f, hy⟩ := Y.fin
  have hX : val x = k * 2 ^ (1074 - s) := Int.le_antisymm X.le X.ge
  have hY : val y = l * 2 ^ (1074 - s) := Int.le_antisymm Y.le Y.ge
  rw [cmp_right hx hy, hX, hY, compare_scale' _ _ _ (two_pos _)]

theorem ne_bool (k l : Int) : (some (compare k l) != some Ordering.eq) = decide (k ≠ l) := by
  rcases Int.lt_trichotomy k l with h | h | h
  · rw [Int.compare_eq_lt.mpr h, decide_eq_true (show k ≠ l by omega)]; rfl
  · subst h; simp
  · rw [Int.compare_eq_gt.mpr h, decide_eq_true (show k ≠ l by omega)]; rfl
theorem eq_bool (k l : Int) : (some (compare k l) == some Ordering.eq) = decide (k = l) := by
  rcases Int.lt_trichotomy k l with h | h | h
  · rw [Int.compare_eq_lt.mpr h, decide_eq_false (show ¬ k = l by omega)]; rfl
  · subst h; simp
  · rw [Int.compare_eq_gt.mpr h, decide_eq_false (show ¬ k = l by omega)]; rfl
theorem lt_bool (k l : Int) : (some (compare k l) == some Ordering.lt) = decide (k < l) := by
  rcases Int.lt_trichotomy k l with h | h | h
  · rw [Int.compare_eq_lt.mpr h, decide_eq_true h]; rfl
  · subst h; simp
  · rw [Int.compare_eq_gt.mpr h, decide_eq_false (show ¬ k < l by omega)]; rfl

/-- a literal -/
theorem lit_vs (x : UInt64) (s : Nat) (lo hi : Int) (h : (match decode x with
    | .fin a m e => decide (lo * 2 ^ (1074 - s) ≤ sgn a (m * 2 ^ (e + 1074).toNat)) && decide (sgn a (m * 2 ^ (e + 1074).toNat) ≤ hi * 2 ^ (1074 - s))
    | _ => false) = true) : Vs x s lo hi := by
  cases hd : decode x with
  | nan => rw [hd] at h; cases h
  | inf a => rw [hd] at h; cases h
  | fin a m e =>
    rw [hd] at h
    simp only [Bool.and_eq_true, decide_eq_true_eq] at h
    exact ⟨⟨_, _, _, hd⟩, by rw [val_eq hd]; exact h.1, by rw [val_eq hd]; exact h.2⟩

end Mine

end
section
namespace Mine
open PySem.Float64 PySem.Calls PySem.Flt

/-- the value is k / 4 -/
def Qv (x : UInt64) (k : Int) : Prop := Vs x 2 k k
/-- the value lies in [q, q + 1 - 2^-18] -/
def Nf (x : UInt64) (q : Int) : Prop := Vs x 18 (q * 262144) ((q + 1) * 262144 - 1)
/-- finite, and its floor is q -/
def Fl (x : UInt64) (q : Int) : Prop := isFinite x = true ∧ toInt floorOf x = q
/-- close to b - 122.1 -/
def Mv (x : UInt64) (b : Int) : Prop := Vs x 16 (b * 65536 - 8001946) (b * 65536 - 8001945)

theorem lit05 : Qv 0x3fe0000000000000 2 := lit_vs _ _ _ _ (by decide +kernel)
theorem litE : Qv 0x413a445180000000 6885702 := lit_vs _ _ _ _ (by decide +kernel)
theorem lit1524 : Qv 0x4097d20000000000 6098 := lit_vs _ _ _ _ (by decide +kernel)
theorem lit365 : Qv 0x4076d40000000000 1461 := lit_vs _ _ _ _ (by decide +kernel)
theorem lit122 : Vs 0x405e866666666666 16 8001945 8001946 := lit_vs _ _ _ _ (by decide +kernel)
theorem lit30 : Vs 0x403e99a027525461 40 33645165761108 33645165761109 := lit_vs _ _ _ _ (by decide +kernel)

theorem fits_q {n : Int} (h1 : -(2 ^ 53) ≤ n) (h2 : n ≤ 2 ^ 53) : n.natAbs < 2 ^ 1023 :=
  Nat.lt_of_le_of_lt (show n.natAbs ≤ 2 ^ 53 by omega) (Nat.pow_lt_pow_right (by decide) (by decide))
theorem int_qv {n : Int} (h1 : -(2 ^ 51) ≤ n) (h2 : n ≤ 2 ^ 51) : Qv (ofInt n) (4 * n) := by
  have h := ofInt_vs (n := n) 2 (by decide) (by omega) (by omega)
  have e : n * 2 ^ 2 = 4 * n := by omega
  rw [e] at h
  exact h
theorem Qv.int0 {x : UInt64} {k : Int} (X : Qv x k) (h : k % 4 = 0) : Vs x 0 (k / 4) (k / 4) := by
  have hX : val x = k * 2 ^ (1074 - 2) := Int.le_antisymm X.le X.ge
  have e : k * 2 ^ (1074 - 2) = k / 4 * 2 ^ (1074 - 0) := by
    have h1 : k = k / 4 * 4 := by omega
    conv => lhs; rw [h1]
    rw [Int.mul_assoc]
    congr 1
  exact ⟨X.fin, by rw [hX, e]; exact Int.le_refl _, by rw [hX, e]; exact Int.le_refl _⟩

theorem Qv.fl {x : UInt64} {k : Int} (X : Qv x k) : Fl x (k / 4) := ⟨X.finite, X.floor _ (by decide) (by omega) (by omega)⟩
theorem Nf.fl {x : UInt64} {q : Int} (X : Nf x q) : Fl x q := ⟨X.finite, X.floor _ (by decide) (by omega) (by omega)⟩

theorem Qv.add {x y : UInt64} {k l : Int} (X : Qv x k) (Y : Qv y l) (h1 : -(2 ^ 53) ≤ k + l) (h2 : k + l ≤ 2 ^ 53) : Qv (add x y) (k + l) := add_vs X Y h1 h2 h2 h1
theorem Qv.sub {x y : UInt64} {k l : Int} (X : Qv x k) (Y : Qv y l) (h1 : -(2 ^ 53) ≤ k - l) (h2 : k - l ≤ 2 ^ 53) : Qv (sub x y) (k - l) := sub_vs X Y h1 h2 h2 h1
theorem Qv.muli {x : UInt64} {k n : Int} (X : Qv x k) (g1 : -(2 ^ 53) ≤ n) (g2 : n ≤ 2 ^ 53) (h1 : -(2 ^ 53) ≤ k * n) (h2 : k * n ≤ 2 ^ 53) : Qv (mul x (ofInt n)) (k * n) := by
  have Y := ofInt_vs (n := n) 0 (by decide) (by omega) (by omega)
  have e : n * 2 ^ 0 = n := by omega
  rw [e] at Y
  exact mul_vs X Y (by decide) h1 h2
theorem Qv.imul {x : UInt64} {k n : Int} (X : Qv x k) (g1 : -(2 ^ 53) ≤ n) (g2 : n ≤ 2 ^ 53) (h1 : -(2 ^ 53) ≤ n * k) (h2 : n * k ≤ 2 ^ 53) : Qv (mul (ofInt n) x) (n * k) := by
  have Y := ofInt_vs (n := n) 0 (by decide) (by omega) (by omega)
  have e : n * 2 ^ 0 = n := by omega
  rw [e] at Y
  have := mul_vs Y X (by decide) h1 h2
  exact this

theorem floor_gap {n d : Int} (hd : 0 < d) : n / d * d ≤ n ∧ n + 1 ≤ (n / d + 1) * d := by
  have h1 := Int.mul_ediv_add_emod n d
  have h2 := Int.emod_nonneg n (show d ≠ 0 by omega)
  have h3 := Int.emod_lt_of_pos n hd
  rw [Int.mul_comm] at h1
  rw [Int.add_mul]
  generalize n / d * d = z at *
  omega

theorem div_bounds {n d : Int} (hd : 0 < d) (h1 : -(2 ^ 34) ≤ n) (h2 : n ≤ 2 ^ 34) : -(2 ^ 34) ≤ n / d ∧ n / d ≤ 2 ^ 34 := by
  constructor
  · refine (Int.le_ediv_iff_mul_le hd).mpr (Int.le_trans ?_ h1)
    have : -(2 ^ 34) * d ≤ -(2 ^ 34) * 1 := Int.mul_le_mul_of_nonpos_left (by decide) (by omega)
    omega
  · rcases Int.lt_or_le n 0 with c | c
    · have := Int.ediv_neg_of_neg_of_pos c hd; omega
    · exact Int.le_trans (Int.ediv_le_self _ c) h2

/-- int / int, above -/
theorem divII_nf {n d : Int} (hd : 0 < d) (hd2 : d ≤ 262144) (h1 : -(2 ^ 34) ≤ n) (h2 : n ≤ 2 ^ 34) :
    Nf (ofFrac (decide (n < 0) != decide (d < 0)) n.natAbs d.natAbs) (n / d) := by
  obtain ⟨g1, g2⟩ := floor_gap (n := n) hd
  obtain ⟨q1, q2⟩ := div_bounds hd h1 h2
  generalize n / d = q at *
  refine divII_vs hd (by decide) (by omega) (by omega) (by omega) (by omega) ?_ ?_
  · calc q * 262144 * d = q * d * 262144 := by ac_rfl
      _ ≤ n * 2 ^ 18 := by generalize q * d = z at *; omega
  · have e : ((q + 1) * 262144 - 1) * d = (q + 1) * d * 262144 - d := by rw [Int.sub_mul, Int.one_mul, Int.mul_right_comm]
    rw [e]
    generalize (q + 1) * d = z at *
    omega
theorem Nf.addi {x : UInt64} {q n : Int} (X : Nf x q) (b1 : -(2 ^ 34) ≤ q) (b2 : q ≤ 2 ^ 34) (g1 : -(2 ^ 33) ≤ n) (g2 : n ≤ 2 ^ 33) : Nf (add x (ofInt n)) (q + n) := by
  have Y := ofInt_vs (n := n) 18 (by decide) (by omega) (by omega)
  have := add_vs X Y (by omega) (by omega) (by omega) (by omega)
  have e1 : q * 262144 + n * 2 ^ 18 = (q + n) * 262144 := by omega
  have e2 : (q + 1) * 262144 - 1 + n * 2 ^ 18 = (q + n + 1) * 262144 - 1 := by omega
  rw [e1, e2] at this
  exact this

/-- whole float / int -/
theorem Qv.divi {x : UInt64} {k d : Int} (X : Qv x k) (hk : k % 4 = 0) (hd : 0 < d) (hd2 : d ≤ 262144) (hs1 : -(2 ^ 34) ≤ k / 4 / d) (hs2 : k / 4 / d ≤ 2 ^ 34) :
    Nf (div x (ofInt d)) (k / 4 / d) := by
  have X0 := X.int0 hk
  have Y := ofInt_vs (n := d) 0 (by decide) (by omega) (by omega)
  have e : d * 2 ^ 0 = d := by omega
  rw [e] at Y
  generalize k / 4 = n at *
  obtain ⟨g1, g2⟩ := floor_gap (n := n) hd
  generalize n / d = q at *
  have c1 : q * 262144 * d * 2 ^ 0 ≤ n * 2 ^ (18 + 0) := by
    have : q * 262144 * d = q * d * 262144 := by ac_rfl
    rw [this]
    generalize q * d = z at *
    omega
  have c2 : n * 2 ^ (18 + 0) ≤ ((q + 1) * 262144 - 1) * d * 2 ^ 0 := by
    have e : ((q + 1) * 262144 - 1) * d = (q + 1) * d * 262144 - d := by rw [Int.sub_mul, Int.one_mul, Int.mul_right_comm]
    rw [e]
    generalize (q + 1) * d = z at *
    omega
  exact div_vs X0 Y hd (by decide) (by decide) (by decide) (by omega) (by omega) (by omega) (by omega) c1 c1 c2 c2
theorem Qv.modi {x : UInt64} {k d : Int} (X : Qv x k) (hk : k % 4 = 0) (hd : 0 < d) (hd2 : d ≤ 262144) (h1 : -(2 ^ 51) ≤ k) (h2 : k ≤ 2 ^ 51) : Qv (divmod x (ofInt d)).2 (4 * (k / 4 % d)) := by
  have X0 := X.int0 hk
  have Y := ofInt_vs (n := d) 0 (by decide) (by omega) (by omega)
  have e : d * 2 ^ 0 = d := by omega
  rw [e] at Y
  have := mod_vs X0 Y hd (by omega) (by omega) (by omega)
  have r := this.rescale 2 (by decide)
  have e4 : k / 4 % d * 2 ^ 2 = 4 * (k / 4 % d) := by omega
  rw [e4] at r
  exact r

theorem sub122 {n : Int} (h1 : -(2 ^ 37) + 200 ≤ n) (h2 : n ≤ 2 ^ 37) : Mv (sub (ofInt n) 0x405e866666666666) n := by
  have X := ofInt_vs (n := n) 16 (by decide) (by omega) (by omega)
  have := sub_vs X lit122 (by omega) (by omega) (by omega) (by omega)
  exact this
theorem div365 {x : UInt64} {b : Int} (X : Mv x b) (h1 : -(2 ^ 37) ≤ b) (h2 : b ≤ 2 ^ 37) : Nf (div x 0x4076d40000000000) ((20 * b - 2442) / 7305) := by
  generalize hq : (20 * b - 2442) / 7305 = q
  have Y : Vs 0x4076d40000000000 2 1461 1461 := lit365
  refine div_vs X Y (by decide) (by decide) (by decide) (by decide) (by omega) (by omega) (by omega) (by omega) ?_ ?_ ?_ ?_ <;> omega

theorem mul30 {e : Int} (h1 : 4 ≤ e) (h2 : e ≤ 15) : Fl (mul 0x403e99a027525461 (ofInt e)) (306001 * e / 10000) := by
  have : e = 4 ∨ e = 5 ∨ e = 6 ∨ e = 7 ∨ e = 8 ∨ e = 9 ∨ e = 10 ∨ e = 11 ∨ e = 12 ∨ e = 13 ∨ e = 14 ∨ e = 15 := by omega
  unfold Fl
  rcases this with rfl | rfl | rfl | rfl | rfl | rfl | rfl | rfl | rfl | rfl | rfl | rfl <;> decide +kernel
theorem div30 {r : Int} (h1 : 123 ≤ r) (h2 : r ≤ 488) : Nf (div (ofInt r) 0x403e99a027525461) (10000 * r / 306001) := by
  generalize hq : 10000 * r / 306001 = q
  have X := ofInt_vs (n := r) 0 (by decide) (by omega) (by omega)
  have e : r * 2 ^ 0 = r := by omega
  rw [e] at X
  have hq2 : q = 4 ∨ q = 5 ∨ q = 6 ∨ q = 7 ∨ q = 8 ∨ q = 9 ∨ q = 10 ∨ q = 11 ∨ q = 12 ∨ q = 13 ∨ q = 14 ∨ q = 15 := by omega
  refine div_vs X lit30 (by decide) (by decide) (by decide) (by decide) (by omega) (by omega) (by omega) (by omega) ?_ ?_ ?_ ?_ <;>
    rcases hq2 with rfl | rfl | rfl | rfl | rfl | rfl | rfl | rfl | rfl | rfl | rfl | rfl <;> omega

end Mine

end
section
namespace Mine
open PySem.Float64 PySem.Calls PySem.Flt

theorem not_over {n : Int} (h1 : -(2 ^ 53) ≤ n) (h2 : n ≤ 2 ^ 53) : ¬ Over n := by
  unfold Over
  have : (2 : Nat) ^ 53 < 2 ^ 1024 - 2 ^ 970 := by decide +kernel
  intro h
  generalize (2 : Nat) ^ 1024 - 2 ^ 970 = z at *
  omega

section
variable {prog : Program} {w : World} {A : Around} {E : Value → Shared → Prop} {s : Shared} {x y : UInt64} {k l n d : Int} {t u : Tok} {Q : Value → Shared → Prop}

theorem w_add_ff (X : Qv x k) (Y : Qv y l) (h1 : -(2 ^ 53) ≤ k + l) (h2 : k + l ≤ 2 ^ 53) (h : ∀ z t', Qv z (k + l) → Q (.float z t') { s with toks := s.toks + 1 }) :
    wpAny (model prog w) A (binaryOp .Add (.float x t) (.float y u)) Q E s := add_float (h _ _ (X.add Y h1 h2))
theorem w_iadd_ff (X : Qv x k) (Y : Qv y l) (h1 : -(2 ^ 53) ≤ k + l) (h2 : k + l ≤ 2 ^ 53) (h : ∀ z t', Qv z (k + l) → Q (.float z t') { s with toks := s.toks + 1 }) :
    wpAny (model prog w) A (inplaceOp .Add (.float x t) (.float y u)) Q E s := iadd_float (h _ _ (X.add Y h1 h2))
theorem w_sub_ff (X : Qv x k) (Y : Qv y l) (h1 : -(2 ^ 53) ≤ k - l) (h2 : k - l ≤ 2 ^ 53) (h : ∀ z t', Qv z (k - l) → Q (.float z t') { s with toks := s.toks + 1 }) :
    wpAny (model prog w) A (binaryOp .Sub (.float x t) (.float y u)) Q E s := sub_float (h _ _ (X.sub Y h1 h2))
theorem w_add_fi (X : Qv x k) (g1 : -(2 ^ 51) ≤ n) (g2 : n ≤ 2 ^ 51) (h1 : -(2 ^ 53) ≤ k + 4 * n) (h2 : k + 4 * n ≤ 2 ^ 53) (h : ∀ z t', Qv z (k + 4 * n) → Q (.float z t') { s with toks := s.toks + 1 }) :
    wpAny (model prog w) A (binaryOp .Add (.float x t) (.int n u)) Q E s := add_fi_fits (fits_q (by omega) (by omega)) (h _ _ (X.add (int_qv g1 g2) h1 h2))
theorem w_nadd_fi (X : Nf x k) (b1 : -(2 ^ 34) ≤ k) (b2 : k ≤ 2 ^ 34) (g1 : -(2 ^ 33) ≤ n) (g2 : n ≤ 2 ^ 33) (h : ∀ z t', Nf z (k + n) → Q (.float z t') { s with toks := s.toks + 1 }) :
    wpAny (model prog w) A (binaryOp .Add (.float x t) (.int n u)) Q E s := add_fi_fits (fits_q (by omega) (by omega)) (h _ _ (X.addi b1 b2 g1 g2))
theorem w_iadd_if (X : Qv x k) (g1 : -(2 ^ 51) ≤ n) (g2 : n ≤ 2 ^ 51) (h1 : -(2 ^ 53) ≤ 4 * n + k) (h2 : 4 * n + k ≤ 2 ^ 53) (h : ∀ z t', Qv z (4 * n + k) → Q (.float z t') { s with toks := s.toks + 1 }) :
    wpAny (model prog w) A (inplaceOp .Add (.int n u) (.float x t)) Q E s := iadd_if_1 (fin_of_fits (not_over (by omega) (by omega))) (h _ _ ((int_qv g1 g2).add X h1 h2))
theorem w_add_if (X : Qv x k) (g1 : -(2 ^ 51) ≤ n) (g2 : n ≤ 2 ^ 51) (h1 : -(2 ^ 53) ≤ 4 * n + k) (h2 : 4 * n + k ≤ 2 ^ 53) (h : ∀ z t', Qv z (4 * n + k) → Q (.float z t') { s with toks := s.toks + 1 }) :
    wpAny (model prog w) A (binaryOp .Add (.int n u) (.float x t)) Q E s := add_if_fits (fits_q (by omega) (by omega)) (h _ _ ((int_qv g1 g2).add X h1 h2))
theorem w_sub_fi (X : Qv x k) (g1 : -(2 ^ 51) ≤ n) (g2 : n ≤ 2 ^ 51) (h1 : -(2 ^ 53) ≤ k - 4 * n) (h2 : k - 4 * n ≤ 2 ^ 53) (h : ∀ z t', Qv z (k - 4 * n) → Q (.float z t') { s with toks := s.toks + 1 }) :
    wpAny (model prog w) A (binaryOp .Sub (.float x t) (.int n u)) Q E s := sub_fi_fits (fits_q (by omega) (by omega)) (h _ _ (X.sub (int_qv g1 g2) h1 h2))
theorem w_sub_if (X : Qv x k) (g1 : -(2 ^ 51) ≤ n) (g2 : n ≤ 2 ^ 51) (h1 : -(2 ^ 53) ≤ 4 * n - k) (h2 : 4 * n - k ≤ 2 ^ 53) (h : ∀ z t', Qv z (4 * n - k) → Q (.float z t') { s with toks := s.toks + 1 }) :
    wpAny (model prog w) A (binaryOp .Sub (.int n u) (.float x t)) Q E s := sub_if_fits (fits_q (by omega) (by omega)) (h _ _ ((int_qv g1 g2).sub X h1 h2))
theorem w_sub122 (g1 : -(2 ^ 37) + 200 ≤ n) (g2 : n ≤ 2 ^ 37) (h : ∀ z t', Mv z n → Q (.float z t') { s with toks := s.toks + 1 }) :
    wpAny (model prog w) A (binaryOp .Sub (.int n u) (.float 0x405e866666666666 t)) Q E s := sub_if_fits (fits_q (by omega) (by omega)) (h _ _ (sub122 g1 g2))
theorem w_mul_fi (X : Qv x k) (g1 : -(2 ^ 53) ≤ n) (g2 : n ≤ 2 ^ 53) (h1 : -(2 ^ 53) ≤ k * n) (h2 : k * n ≤ 2 ^ 53) (h : ∀ z t', Qv z (k * n) → Q (.float z t') { s with toks := s.toks + 1 }) :
    wpAny (model prog w) A (binaryOp .Mult (.float x t) (.int n u)) Q E s := mul_fi_fits (fits_q (by omega) (by omega)) (h _ _ (X.muli g1 g2 h1 h2))
theorem w_mul_if (X : Qv x k) (g1 : -(2 ^ 53) ≤ n) (g2 : n ≤ 2 ^ 53) (h1 : -(2 ^ 53) ≤ n * k) (h2 : n * k ≤ 2 ^ 53) (h : ∀ z t', Qv z (n * k) → Q (.float z t') { s with toks := s.toks + 1 }) :
    wpAny (model prog w) A (binaryOp .Mult (.int n u) (.float x t)) Q E s := mul_if_fits (fits_q (by omega) (by omega)) (h _ _ (X.imul g1 g2 h1 h2))
theorem w_mul30 (g1 : 4 ≤ n) (g2 : n ≤ 15) (h : ∀ z t', Fl z (306001 * n / 10000) → Q (.float z t') { s with toks := s.toks + 1 }) :
    wpAny (model prog w) A (binaryOp .Mult (.float 0x403e99a027525461 t) (.int n u)) Q E s := mul_fi_fits (fits_q (by omega) (by omega)) (h _ _ (mul30 g1 g2))
theorem w_div_ii (hA : A.handled = none) (hd : 0 < d) (hd2 : d ≤ 262144) (h1 : -(2 ^ 34) ≤ n) (h2 : n ≤ 2 ^ 34) (h : ∀ z q t', q = n / d → Nf z q → Q (.float z t') { s with toks := s.toks + 1 }) :
    wpAny (model prog w) A (binaryOp .Div (.int n t) (.int d u)) Q E s :=
  div_ii_fits hA (fits_q (by omega) (by omega)) (fun e => absurd e (by omega)) (fun _ _ => h _ _ _ rfl (divII_nf hd hd2 h1 h2))
theorem w_div_fi (X : Qv x k) (hA : A.handled = none) (hk : k % 4 = 0) (hd : 0 < d) (hd2 : d ≤ 262144) (h1 : -(2 ^ 34) ≤ k / 4 / d) (h2 : k / 4 / d ≤ 2 ^ 34) (h : ∀ z q t', q = k / 4 / d → Nf z q → Q (.float z t') { s with toks := s.toks + 1 }) :
    wpAny (model prog w) A (binaryOp .Div (.float x t) (.int d u)) Q E s :=
  truediv_fi hA (fun e => absurd e (not_over (by omega) (by omega))) (fun e => absurd e (by omega)) (fun _ _ => h _ _ _ rfl (X.divi hk hd hd2 h1 h2))
theorem w_div365 (X : Mv x n) (hA : A.handled = none) (h1 : -(2 ^ 37) ≤ n) (h2 : n ≤ 2 ^ 37) (h : ∀ z q t', q = (20 * n - 2442) / 7305 → Nf z q → Q (.float z t') { s with toks := s.toks + 1 }) :
    wpAny (model prog w) A (binaryOp .Div (.float x t) (.float 0x4076d40000000000 u)) Q E s :=
  truediv_float_or hA (fun e => absurd e (by decide +kernel)) (fun _ => h _ _ _ rfl (div365 X h1 h2))
theorem w_div30 (hA : A.handled = none) (h1 : 123 ≤ n) (h2 : n ≤ 488) (h : ∀ z q t', q = 10000 * n / 306001 → Nf z q → Q (.float z t') { s with toks := s.toks + 1 }) :
    wpAny (model prog w) A (binaryOp .Div (.int n u) (.float 0x403e99a027525461 t)) Q E s :=
  truediv_if hA (fun e => absurd e (not_over (by omega) (by omega))) (fun _ e => absurd e (by decide +kernel)) (fun _ _ => h _ _ _ rfl (div30 h1 h2))
theorem w_mod_fi (X : Qv x k) (hA : A.handled = none) (hk : k % 4 = 0) (hd : 0 < d) (hd2 : d ≤ 262144) (h1 : -(2 ^ 51) ≤ k) (h2 : k ≤ 2 ^ 51) (h : ∀ z r t', r = k / 4 % d → Qv z (4 * r) → Q (.float z t') { s with toks := s.toks + 1 }) :
    wpAny (model prog w) A (binaryOp .Mod (.float x t) (.int d u)) Q E s :=
  mod_fi hA (fun e => absurd e (not_over (by omega) (by omega))) (fun e => absurd e (by omega)) (fun _ _ => h _ _ _ rfl (X.modi hk hd hd2 h1 h2))
theorem w_floor (X : Fl x k) (hA : A.handled = none) (h : ∀ q t', q = k → Q (.int q t') { s with toks := s.toks + 1 }) :
    wpAny (model prog w) A (call (.builtin "math.floor") [.float x t]) Q E s :=
  call_floor_float hA (fun e => absurd e (by rw [not_nan_of_finite X.1]; decide)) (fun e => absurd e (by rw [not_inf_of_finite X.1]; decide)) (fun _ => by rw [X.2]; exact h _ _ rfl)
theorem w_int (X : Qv x k) (hA : A.handled = none) (hk : k % 4 = 0) (h : ∀ q t', q = k / 4 → Q (.int q t') { s with toks := s.toks + 1 }) :
    wpAny (model prog w) A (call (.type "int") [.float x t]) Q E s :=
  call_int_float3 hA (fun e => absurd e (by rw [not_nan_of_finite X.finite]; decide)) (fun e => absurd e (by rw [not_inf_of_finite X.finite]; decide)) (fun _ => by rw [(X.int0 hk).trunc]; exact h _ _ rfl)
theorem w_lt_fi (X : Qv x k) (h : Q (.bool (decide (k < 4 * n))) s) : wpAny (model prog w) A (compareOp .Lt (.float x t) (.int n u)) Q E s := by
  refine lt_fi ?_
  have e : cmpInt x n = some (compare k (n * 2 ^ 2)) := Vs.cmpInt X (by decide) n
  rw [e, lt_bool, show n * 2 ^ 2 = 4 * n by omega]
  exact h
theorem w_ne_fi (X : Qv x k) (h : Q (.bool (decide (k ≠ 4 * n))) s) : wpAny (model prog w) A (compareOp .NotEq (.float x t) (.int n u)) Q E s := by
  refine ne_fi ?_
  have e : cmpInt x n = some (compare k (n * 2 ^ 2)) := Vs.cmpInt X (by decide) n
  rw [e, ne_bool, show n * 2 ^ 2 = 4 * n by omega]
  exact h
theorem w_ne_ff (X : Qv x k) (Y : Qv y l) (h : Q (.bool (decide (k ≠ l))) s) : wpAny (model prog w) A (compareOp .NotEq (.float x t) (.float y u)) Q E s := by
  refine AutoFloatOps.ne_0 ?_
  rw [Vs.cmp X Y, ne_bool]
  exact h
theorem w_eq_ff (X : Qv x k) (Y : Qv y l) (h : Q (.bool (decide (k = l))) s) : wpAny (model prog w) A (compareOp .Eq (.float x t) (.float y u)) Q E s := by
  refine AutoFloatOps.eq_0 ?_
  rw [Vs.cmp X Y, eq_bool]
  exact h
theorem w_mod_ii (hd : 0 < d) (h : Q (.int (n % d) s.toks) { s with toks := s.toks + 1 }) : wpAny (model prog w) A (binaryOp .Mod (.int n t) (.int d u)) Q E s :=
  mod_int (by omega) (by rw [Int.fmod_eq_emod_of_nonneg _ (Int.le_of_lt hd)]; exact h)
theorem w_fdiv_ii (hd : 0 < d) (h3 : d < 1073741824) (h : Q (.int (n / d) s.toks) { s with toks := s.toks + 1 }) : wpAny (model prog w) A (binaryOp .FloorDiv (.int n t) (.int d u)) Q E s :=
  floordiv_int (by omega) (by rw [Int.fdiv_eq_ediv_of_nonneg _ (Int.le_of_lt hd)]; exact h) (Or.inl (PyProof.noPylong_small (by omega)))
theorem in30 {K : Frag} {h₀ : Heap} {L a : Addr} {m : Str → Option Value} {l : List Value} {dd : Option Addr} {sl : Array (Option Value)} {c : Nat} (F : Fr h₀ L s.heap m) (X : K.In h₀) (hl : K.lookup a = some ⟨.type "tuple", dd, .seq l.toArray c, sl⟩) (hi : IntsAre l [4, 6, 9, 11])
    (h : Q (.bool (decide (n = 4 ∨ n = 6 ∨ n = 9 ∨ n = 11))) s) : wpAny (model prog w) A (compareOp .In (.int n u) (.ref a)) Q E s := by
  refine in_tuple_ints (tupK (X.keeps F.keep) hl) hi ?_
  have e : ([4, 6, 9, 11].any (· == n)) = decide (n = 4 ∨ n = 6 ∨ n = 9 ∨ n = 11) := by
    rw [Bool.eq_iff_iff]
    simp only [List.any_cons, List.any_nil, Bool.or_false, Bool.or_eq_true, beq_iff_eq, decide_eq_true_eq]
    omega
  rw [e]
  exact h
theorem w_add_ib {P : Prop} [Decidable P] (h : ∀ z t', (P ∧ z = n + 1) ∨ (¬ P ∧ z = n) → Q (.int z t') { s with toks := s.toks + 1 }) : wpAny (model prog w) A (binaryOp .Add (.int n t) (.bool (decide P))) Q E s := by
  refine add_int_bool (h _ _ ?_)
  by_cases hP : P
  · exact .inl ⟨hP, by rw [if_pos (decide_eq_true hP)]⟩
  · exact .inr ⟨hP, by rw [if_neg (by simp [hP])]; omega⟩
theorem v_add_ff (X : Qv x k) (Y : Qv y l) (bb : (-(2 ^ 53) ≤ k + l) ∧ (k + l ≤ 2 ^ 53)) (h : ∀ z t', Qv z (k + l) → Q (.float z t') { s with toks := s.toks + 1 }) : wpAny (model prog w) A (binaryOp .Add (.float x t) (.float y u)) Q E s := w_add_ff X Y bb.1 bb.2 h
theorem v_iadd_ff (X : Qv x k) (Y : Qv y l) (bb : (-(2 ^ 53) ≤ k + l) ∧ (k + l ≤ 2 ^ 53)) (h : ∀ z t', Qv z (k + l) → Q (.float z t') { s with toks := s.toks + 1 }) : wpAny (model prog w) A (inplaceOp .Add (.float x t) (.float y u)) Q E s := w_iadd_ff X Y bb.1 bb.2 h
theorem v_sub_ff (X : Qv x k) (Y : Qv y l) (bb : (-(2 ^ 53) ≤ k - l) ∧ (k - l ≤ 2 ^ 53)) (h : ∀ z t', Qv z (k - l) → Q (.float z t') { s with toks := s.toks + 1 }) : wpAny (model prog w) A (binaryOp .Sub (.float x t) (.float y u)) Q E s := w_sub_ff X Y bb.1 bb.2 h
theorem v_add_fi (X : Qv x k) (bb : (-(2 ^ 51) ≤ n) ∧ (n ≤ 2 ^ 51) ∧ (-(2 ^ 53) ≤ k + 4 * n) ∧ (k + 4 * n ≤ 2 ^ 53)) (h : ∀ z t', Qv z (k + 4 * n) → Q (.float z t') { s with toks := s.toks + 1 }) : wpAny (model prog w) A (binaryOp .Add (.float x t) (.int n u)) Q E s := w_add_fi X bb.1 bb.2.1 bb.2.2.1 bb.2.2.2 h
theorem v_nadd_fi (X : Nf x k) (bb : (-(2 ^ 34) ≤ k) ∧ (k ≤ 2 ^ 34) ∧ (-(2 ^ 33) ≤ n) ∧ (n ≤ 2 ^ 33)) (h : ∀ z t', Nf z (k + n) → Q (.float z t') { s with toks := s.toks + 1 }) : wpAny (model prog w) A (binaryOp .Add (.float x t) (.int n u)) Q E s := w_nadd_fi X bb.1 bb.2.1 bb.2.2.1 bb.2.2.2 h
theorem v_iadd_if (X : Qv x k) (bb : (-(2 ^ 51) ≤ n) ∧ (n ≤ 2 ^ 51) ∧ (-(2 ^ 53) ≤ 4 * n + k) ∧ (4 * n + k ≤ 2 ^ 53)) (h : ∀ z t', Qv z (4 * n + k) → Q (.float z t') { s with toks := s.toks + 1 }) : wpAny (model prog w) A (inplaceOp .Add (.int n u) (.float x t)) Q E s := w_iadd_if X bb.1 bb.2.1 bb.2.2.1 bb.2.2.2 h
theorem v_add_if (X : Qv x k) (bb : (-(2 ^ 51) ≤ n) ∧ (n ≤ 2 ^ 51) ∧ (-(2 ^ 53) ≤ 4 * n + k) ∧ (4 * n + k ≤ 2 ^ 53)) (h : ∀ z t', Qv z (4 * n + k) → Q (.float z t') { s with toks := s.toks + 1 }) : wpAny (model prog w) A (binaryOp .Add (.int n u) (.float x t)) Q E s := w_add_if X bb.1 bb.2.1 bb.2.2.1 bb.2.2.2 h
theorem v_sub_fi (X : Qv x k) (bb : (-(2 ^ 51) ≤ n) ∧ (n ≤ 2 ^ 51) ∧ (-(2 ^ 53) ≤ k - 4 * n) ∧ (k - 4 * n ≤ 2 ^ 53)) (h : ∀ z t', Qv z (k - 4 * n) → Q (.float z t') { s with toks := s.toks + 1 }) : wpAny (model prog w) A (binaryOp .Sub (.float x t) (.int n u)) Q E s := w_sub_fi X bb.1 bb.2.1 bb.2.2.1 bb.2.2.2 h
theorem v_sub122 (bb : (-(2 ^ 37) + 200 ≤ n) ∧ (n ≤ 2 ^ 37)) (h : ∀ z t', Mv z n → Q (.float z t') { s with toks := s.toks + 1 }) : wpAny (model prog w) A (binaryOp .Sub (.int n u) (.float 0x405e866666666666 t)) Q E s := w_sub122 bb.1 bb.2 h
theorem v_sub_if (X : Qv x k) (bb : (-(2 ^ 51) ≤ n) ∧ (n ≤ 2 ^ 51) ∧ (-(2 ^ 53) ≤ 4 * n - k) ∧ (4 * n - k ≤ 2 ^ 53)) (h : ∀ z t', Qv z (4 * n - k) → Q (.float z t') { s with toks := s.toks + 1 }) : wpAny (model prog w) A (binaryOp .Sub (.int n u) (.float x t)) Q E s := w_sub_if X bb.1 bb.2.1 bb.2.2.1 bb.2.2.2 h
theorem v_mul30 (bb : (4 ≤ n) ∧ (n ≤ 15)) (h : ∀ z t', Fl z (306001 * n / 10000) → Q (.float z t') { s with toks := s.toks + 1 }) : wpAny (model prog w) A (binaryOp .Mult (.float 0x403e99a027525461 t) (.int n u)) Q E s := w_mul30 bb.1 bb.2 h
theorem v_mul_fi (X : Qv x k) (bb : (-(2 ^ 53) ≤ n) ∧ (n ≤ 2 ^ 53) ∧ (-(2 ^ 53) ≤ k * n) ∧ (k * n ≤ 2 ^ 53)) (h : ∀ z t', Qv z (k * n) → Q (.float z t') { s with toks := s.toks + 1 }) : wpAny (model prog w) A (binaryOp .Mult (.float x t) (.int n u)) Q E s := w_mul_fi X bb.1 bb.2.1 bb.2.2.1 bb.2.2.2 h
theorem v_mul_if (X : Qv x k) (bb : (-(2 ^ 53) ≤ n) ∧ (n ≤ 2 ^ 53) ∧ (-(2 ^ 53) ≤ n * k) ∧ (n * k ≤ 2 ^ 53)) (h : ∀ z t', Qv z (n * k) → Q (.float z t') { s with toks := s.toks + 1 }) : wpAny (model prog w) A (binaryOp .Mult (.int n u) (.float x t)) Q E s := w_mul_if X bb.1 bb.2.1 bb.2.2.1 bb.2.2.2 h
theorem v_div_ii (hA : A.handled = none) (bb : (0 < d) ∧ (d ≤ 262144) ∧ (-(2 ^ 34) ≤ n) ∧ (n ≤ 2 ^ 34)) (h : ∀ z q t', q = n / d → Nf z q → Q (.float z t') { s with toks := s.toks + 1 }) : wpAny (model prog w) A (binaryOp .Div (.int n t) (.int d u)) Q E s := w_div_ii hA bb.1 bb.2.1 bb.2.2.1 bb.2.2.2 h
theorem v_div_fi (X : Qv x k) (hA : A.handled = none) (bb : (k % 4 = 0) ∧ (0 < d) ∧ (d ≤ 262144) ∧ (-(2 ^ 34) ≤ k / 4 / d) ∧ (k / 4 / d ≤ 2 ^ 34)) (h : ∀ z q t', q = k / 4 / d → Nf z q → Q (.float z t') { s with toks := s.toks + 1 }) : wpAny (model prog w) A (binaryOp .Div (.float x t) (.int d u)) Q E s := w_div_fi X hA bb.1 bb.2.1 bb.2.2.1 bb.2.2.2.1 bb.2.2.2.2 h
theorem v_div365 (X : Mv x n) (hA : A.handled = none) (bb : (-(2 ^ 37) ≤ n) ∧ (n ≤ 2 ^ 37)) (h : ∀ z q t', q = (20 * n - 2442) / 7305 → Nf z q → Q (.float z t') { s with toks := s.toks + 1 }) : wpAny (model prog w) A (binaryOp .Div (.float x t) (.float 0x4076d40000000000 u)) Q E s := w_div365 X hA bb.1 bb.2 h
theorem v_div30 (hA : A.handled = none) (bb : (123 ≤ n) ∧ (n ≤ 488)) (h : ∀ z q t', q = 10000 * n / 306001 → Nf z q → Q (.float z t') { s with toks := s.toks + 1 }) : wpAny (model prog w) A (binaryOp .Div (.int n u) (.float 0x403e99a027525461 t)) Q E s := w_div30 hA bb.1 bb.2 h
theorem v_mod_fi (X : Qv x k) (hA : A.handled = none) (bb : (k % 4 = 0) ∧ (0 < d) ∧ (d ≤ 262144) ∧ (-(2 ^ 51) ≤ k) ∧ (k ≤ 2 ^ 51)) (h : ∀ z r t', r = k / 4 % d → Qv z (4 * r) → Q (.float z t') { s with toks := s.toks + 1 }) : wpAny (model prog w) A (binaryOp .Mod (.float x t) (.int d u)) Q E s := w_mod_fi X hA bb.1 bb.2.1 bb.2.2.1 bb.2.2.2.1 bb.2.2.2.2 h
theorem v_fdiv_ii (bb : (0 < d) ∧ (d < 1073741824)) (h : Q (.int (n / d) s.toks) { s with toks := s.toks + 1 }) : wpAny (model prog w) A (binaryOp .FloorDiv (.int n t) (.int d u)) Q E s := w_fdiv_ii bb.1 bb.2 h
end
end Mine

end
set_option maxHeartbeats 8000000
namespace Mine
open_top hd for PySem.Challenge.rw_ad5018_01
end Mine
namespace Mine

/-- the def at f, called with vs by a caller that is a def, within the top of this law -/
abbrev Cl (f : Addr) (dx ux : Nat) (vs : List Value) (news : List (Addr × Obj)) (pre : Prop)
    (ret : Heap → Addr → (Str → Option Value) → List (Addr × Obj) → Shared → (Value → Shared → Prop) → Prop) : Prop :=
  ∀ (w : World) (loose : List Str) (mean : ExcName → Option Value) (mg mb : Str → Option Value) (dp un : Nat) (gd : Option (List Code)) (cn : Str) (cs : Scope) (a : Addr) (ccd : Value) (cl : List (Str × Addr)) (outer : List Env) (A₀ : Around) (base h₀ : Heap) (L : Addr) (m : Str → Option Value) (s : Shared) (Q E : Value → Shared → Prop),
    Below A₀ base outer h₀ → Fr h₀ L s.heap m → (hd.heap_39 w.params).In h₀ → News h₀ L s.heap news → Top hd.view_39 loose mean mg mb h₀ → cs.kind = .function →
    pre → dp + dx < recursionLimit → un + ux < cLine → ret h₀ L m news s Q →
      wpAny (model Challenge.rw_ad5018_01.row.prog w) (ktrTop dp un gd cn cs L a ccd cl outer) (call (.ref f) vs) Q E s

abbrev tupObj (vs : List Value) (c : Nat) : Obj := { cls := .type "tuple", data := .seq vs.toArray c }

/-- hands back a tuple of three ints -/
abbrev RetT (y mo d : Int) (h₀ : Heap) (L : Addr) (m : Str → Option Value) (news : List (Addr × Obj)) (s : Shared) (Q : Value → Shared → Prop) : Prop :=
  ∀ (D : Addr) (t1 t2 t3 : Tok) (c : Nat) (h : Heap) (tk : Nat), Fr h₀ L h m → News h₀ L h ((D, tupObj [.int y t1, .int mo t2, .int d t3] c) :: news) → AllLt D news → Q (.ref D) { s with heap := h, toks := tk }
/-- hands back a float of the value k / 4 -/
abbrev RetQ (k : Int) (h₀ : Heap) (L : Addr) (m : Str → Option Value) (news : List (Addr × Obj)) (s : Shared) (Q : Value → Shared → Prop) : Prop :=
  ∀ (x : UInt64) (t : Tok) (h : Heap) (tk : Nat), Fr h₀ L h m → News h₀ L h news → Qv x k → Q (.float x t) { s with heap := h, toks := tk }
/-- hands back a bool -/
abbrev RetB (b : Bool) (h₀ : Heap) (L : Addr) (m : Str → Option Value) (news : List (Addr × Obj)) (s : Shared) (Q : Value → Shared → Prop) : Prop :=
  ∀ (h : Heap) (tk : Nat), Fr h₀ L h m → News h₀ L h news → Q (.bool b) { s with heap := h, toks := tk }
/-- hands back an int -/
abbrev RetI (n : Int) (h₀ : Heap) (L : Addr) (m : Str → Option Value) (news : List (Addr × Obj)) (s : Shared) (Q : Value → Shared → Prop) : Prop :=
  ∀ (t : Tok) (h : Heap) (tk : Nat), Fr h₀ L h m → News h₀ L h news → Q (.int n t) { s with heap := h, toks := tk }

theorem retT_end {y mo d y' mo' d' : Int} {h₀ h : Heap} {L D : Addr} {m : Str → Option Value} {news : List (Addr × Obj)} {s : Shared} {Q : Value → Shared → Prop} {t1 t2 t3 : Tok} {c tk : Nat} (hret : RetT y mo d h₀ L m news s Q)
    (F : Fr h₀ L h m) (N : News h₀ L h ((D, tupObj [.int y' t1, .int mo' t2, .int d' t3] c) :: news)) (hl : ∀ p ∈ news, p.1 < D) (e1 : y' = y) (e2 : mo' = mo) (e3 : d' = d) : Q (.ref D) { s with heap := h, toks := tk } := by
  subst e1 e2 e3
  exact hret D t1 t2 t3 c h tk F N (allLt_of hl)
theorem retQ_end {k k' : Int} {h₀ h : Heap} {L : Addr} {m : Str → Option Value} {news : List (Addr × Obj)} {s : Shared} {Q : Value → Shared → Prop} {x : UInt64} {t : Tok} {tk : Nat} (hret : RetQ k h₀ L m news s Q)
    (F : Fr h₀ L h m) (N : News h₀ L h news) (hx : Qv x k') (e : k' = k) : Q (.float x t) { s with heap := h, toks := tk } := by
  subst e
  exact hret x t h tk F N hx
theorem retB_end {b b' : Bool} {h₀ h : Heap} {L : Addr} {m : Str → Option Value} {news : List (Addr × Obj)} {s : Shared} {Q : Value → Shared → Prop} {tk : Nat} (hret : RetB b h₀ L m news s Q)
    (F : Fr h₀ L h m) (N : News h₀ L h news) (e : b' = b) : Q (.bool b') { s with heap := h, toks := tk } := by
  subst e
  exact hret h tk F N
theorem retI_end {n n' : Int} {h₀ h : Heap} {L : Addr} {m : Str → Option Value} {news : List (Addr × Obj)} {s : Shared} {Q : Value → Shared → Prop} {t : Tok} {tk : Nat} (hret : RetI n h₀ L m news s Q)
    (F : Fr h₀ L h m) (N : News h₀ L h news) (e : n' = n) : Q (.int n' t) { s with heap := h, toks := tk } := by
  subst e
  exact hret t h tk F N

/-- the day at hand -/
def Noon (_n : Int) : Prop := True

end Mine

namespace Mine
local macro_rules | `(tactic| walk_at "binaryOp Add float float") => `(tactic| ((with_reducible refine v_add_ff (by first | assumption | exact lit05 | exact litE | exact lit1524 | exact lit365) (by first | assumption | exact lit05 | exact litE | exact lit1524 | exact lit365) (by omega) ?_); intro z' t' hz'; try dsimp only))
local macro_rules | `(tactic| walk_at "inplaceOp Add float float") => `(tactic| ((with_reducible refine v_iadd_ff (by first | assumption | exact lit05) (by first | assumption | exact lit05) (by omega) ?_); intro z' t' hz'; try dsimp only))
local macro_rules | `(tactic| walk_at "binaryOp Sub float float") => `(tactic| ((with_reducible refine v_sub_ff (by first | assumption | exact lit05 | exact litE | exact lit1524 | exact lit365) (by first | assumption | exact lit05 | exact litE | exact lit1524 | exact lit365) (by omega) ?_); intro z' t' hz'; try dsimp only))
local macro_rules | `(tactic| walk_at "binaryOp Add float int") => `(tactic| first
  | ((with_reducible refine v_add_fi (by first | assumption | exact lit05 | exact litE) (by omega) ?_); intro z' t' hz'; try dsimp only)
  | ((with_reducible refine v_nadd_fi (by assumption) (by omega) ?_); intro z' t' hz'; try dsimp only))
local macro_rules | `(tactic| walk_at "inplaceOp Add int float") => `(tactic| ((with_reducible refine v_iadd_if (by first | assumption | exact lit05) (by omega) ?_); intro z' t' hz'; try dsimp only))
local macro_rules | `(tactic| walk_at "binaryOp Add int float") => `(tactic| ((with_reducible refine v_add_if (by first | assumption | exact lit05) (by omega) ?_); intro z' t' hz'; try dsimp only))
local macro_rules | `(tactic| walk_at "binaryOp Sub float int") => `(tactic| ((with_reducible refine v_sub_fi (by first | assumption | exact litE) (by omega) ?_); intro z' t' hz'; try dsimp only))
local macro_rules | `(tactic| walk_at "binaryOp Sub int float") => `(tactic| first
  | ((with_reducible refine v_sub122 (by omega) ?_); intro z' t' hz'; try dsimp only)
  | ((with_reducible refine v_sub_if (by first | assumption | exact lit05 | exact lit1524) (by omega) ?_); intro z' t' hz'; try dsimp only))
local macro_rules | `(tactic| walk_at "binaryOp Mult float int") => `(tactic| first
  | ((with_reducible refine v_mul30 (by omega) ?_); intro z' t' hz'; try dsimp only)
  | ((with_reducible refine v_mul_fi (by first | assumption | exact lit365) (by omega) ?_); intro z' t' hz'; try dsimp only))
local macro_rules | `(tactic| walk_at "binaryOp Mult int float") => `(tactic| ((with_reducible refine v_mul_if (by first | assumption | exact lit365) (by omega) ?_); intro z' t' hz'; try dsimp only))
local macro_rules | `(tactic| walk_at "binaryOp Div int int") => `(tactic| ((with_reducible refine v_div_ii (by with_plain rfl) (by omega) ?_); intro z' q' t' hq' hz'; try dsimp only))
local macro_rules | `(tactic| walk_at "binaryOp Div float int") => `(tactic| ((with_reducible refine v_div_fi (by assumption) (by with_plain rfl) (by omega) ?_); intro z' q' t' hq' hz'; try dsimp only))
local macro_rules | `(tactic| walk_at "binaryOp Div float float") => `(tactic| ((with_reducible refine v_div365 (by assumption) (by with_plain rfl) (by omega) ?_); intro z' q' t' hq' hz'; try dsimp only))
local macro_rules | `(tactic| walk_at "binaryOp Div int float") => `(tactic| ((with_reducible refine v_div30 (by with_plain rfl) (by omega) ?_); intro z' q' t' hq' hz'; try dsimp only))
local macro_rules | `(tactic| walk_at "binaryOp Mod float int") => `(tactic| ((with_reducible refine v_mod_fi (by assumption) (by with_plain rfl) (by omega) ?_); intro z' r' t' hr' hz'; try dsimp only))
local macro_rules | `(tactic| walk_at "call builtin:math.floor") => `(tactic| ((with_reducible show wpAny _ _ (call _ [Value.float _ _]) _ _ _); (with_reducible refine w_floor (by first | assumption | exact Nf.fl (by assumption) | exact Qv.fl (by assumption)) (by with_plain rfl) ?_); intro q' t' hq'; try dsimp only))
local macro_rules | `(tactic| walk_at "call type:int") => `(tactic| ((with_reducible show wpAny _ _ (call _ [Value.float _ _]) _ _ _); (with_reducible refine w_int (by assumption) (by with_plain rfl) (by omega) ?_); intro q' t' hq'; try dsimp only))
local macro_rules | `(tactic| walk_at "compareOp Lt float int") => `(tactic| (with_reducible refine w_lt_fi (by assumption) ?_))
local macro_rules | `(tactic| walk_at "compareOp NotEq float int") => `(tactic| (with_reducible refine w_ne_fi (by assumption) ?_))
local macro_rules | `(tactic| walk_at "compareOp NotEq float float") => `(tactic| (with_reducible refine w_ne_ff (by assumption) (by assumption) ?_))
local macro_rules | `(tactic| walk_at "compareOp Eq float float") => `(tactic| (with_reducible refine w_eq_ff (by assumption) (by assumption) ?_))
local macro_rules | `(tactic| walk_at "binaryOp Mod int int") => `(tactic| (with_reducible refine w_mod_ii (by omega) ?_))
local macro_rules | `(tactic| walk_at "binaryOp FloorDiv int int") => `(tactic| (with_reducible refine v_fdiv_ii (by omega) ?_))
local macro_rules | `(tactic| walk_at "eval Call") => `(tactic| k_dflt (refine Call_ ?_))
local macro_rules | `(tactic| walk_at "compareOp In int ref") => `(tactic| (k_here; k_dflt (refine' in30 ?k1 ?k2 ?k3 ?k4 ?_; (case k1 => k_asm); (case k2 => k_asm); (case k3 => k_is); (case k4 => exact .cons _ _ (.cons _ _ (.cons _ _ (.cons _ _ .nil)))))))
local macro_rules | `(tactic| walk_at "binaryOp Add int bool") => `(tactic| ((with_reducible refine w_add_ib ?_); intro z' t' hz'; try dsimp only))

section
theorem jul_chain {n k a c0 c d e0 e f : Int} (hk : k / 4 = n) (h1 : a = k / 4) (h2 : c0 = (20 * (a + 1524) - 2442) / 7305) (h3 : c = c0) (h4 : d = 1461 * c / 4) (h5 : e0 = 10000 * (a + 1524 - d) / 306001) (h6 : e = e0) (h7 : f = 306001 * e / 10000) :
    a = n ∧ c = jC n ∧ d = jD n ∧ e = jE n ∧ f = 306001 * jE n / 10000 := by
  rw [hk] at h1
  subst h1
  subst h7 h6 h5 h4 h3 h2
  exact ⟨rfl, rfl, rfl, rfl, rfl⟩

theorem c_from_jd_j_f (n : Int) (x : UInt64) (t : Tok) (news : List (Addr × Obj)) :
    Cl 107 1 8 [.float x t] news (Qv x (4 * n - 2) ∧ -100000000000 ≤ n ∧ n ≤ 100002451545) (RetT (jYear n) (jMon n) (jDay n)) := by
  unfold Cl
  w_top off
  k_fill
  intro w loose mean mg mb dp un gd cn cs a ccd cl outer A₀ base h₀ L m s Q E hBel hFr hK hN hT hkind hpre hdp hun hret
  obtain ⟨hx, hn1, hn2⟩ := hpre
  refine wpAny_call ?_
  k_dflt cell_enter
  k_steps
  all_goals (obtain ⟨r1, r2, r3, r4, r5⟩ := jul_chain (n := n) (show (4 * n - 2 + 2) / 4 = n by omega) (by assumption) (by assumption) (by assumption) (by assumption) (by assumption) (by assumption) (by assumption))
  all_goals (refine retT_end hret (by assumption) (by assumption) (by assumption) ?_ ?_ ?_)
  all_goals (simp only [jYear, jMon, jDay, jB])
  all_goals ((repeat' split) <;> omega)
theorem c_from_jd_j_i (n : Int) (t : Tok) (news : List (Addr × Obj)) :
    Cl 107 1 8 [.int n t] news (-100000000000 ≤ n ∧ n ≤ 100002451545) (RetT (jYear n) (jMon n) (jDay n)) := by
  unfold Cl
  w_top off
  k_fill
  intro w loose mean mg mb dp un gd cn cs a ccd cl outer A₀ base h₀ L m s Q E hBel hFr hK hN hT hkind hpre hdp hun hret
  obtain ⟨hn1, hn2⟩ := hpre
  refine wpAny_call ?_
  k_dflt cell_enter
  k_steps
  all_goals (obtain ⟨r1, r2, r3, r4, r5⟩ := jul_chain (n := n) (show (4 * n + 2) / 4 = n by omega) (by assumption) (by assumption) (by assumption) (by assumption) (by assumption) (by assumption) (by assumption))
  all_goals (refine retT_end hret (by assumption) (by assumption) (by assumption) ?_ ?_ ?_)
  all_goals (simp only [jYear, jMon, jDay, jB])
  all_goals ((repeat' split) <;> omega)
local macro_rules | `(tactic| walk_at "call ref") => `(tactic| ((with_reducible show wpAny _ _ (call (Value.ref 107) [Value.float _ _]) _ _ _); k_here; k_dflt (refine' c_from_jd_j_f _ _ _ _ _ _ _ _ _ _ _ _ _ _ _ _ _ _ _ _ _ _ _ _ _ _ ?k1 ?k2 ?k3 ?k4 ?k5 ?kK ?kp ?kd ?ku ?_; (case k1 => k_asm); (case k2 => k_asm); (case k3 => k_asm); (case k4 => k_asm); (case k5 => k_asm); (case kK => first | exact rfl | assumption); (case kp => (refine ⟨by with_reducible assumption, by with_reducible assumption, by with_reducible assumption⟩)); (case kd => ktr_room); (case ku => ktr_units)); intro D' t1' t2' t3' c' h' tk' F' N' lt'; (try dsimp only); (try k_fold)))
local macro_rules | `(tactic| walk_at "call ref") => `(tactic| ((with_reducible show wpAny _ _ (call (Value.ref 107) [Value.int _ _]) _ _ _); k_here; k_dflt (refine' c_from_jd_j_i _ _ _ _ _ _ _ _ _ _ _ _ _ _ _ _ _ _ _ _ _ _ _ _ _ ?k1 ?k2 ?k3 ?k4 ?k5 ?kK ?kp ?kd ?ku ?_; (case k1 => k_asm); (case k2 => k_asm); (case k3 => k_asm); (case k4 => k_asm); (case k5 => k_asm); (case kK => first | exact rfl | assumption); (case kp => (refine ⟨by with_reducible assumption, by with_reducible assumption⟩)); (case kd => ktr_room); (case ku => ktr_units)); intro D' t1' t2' t3' c' h' tk' F' N' lt'; (try dsimp only); (try k_fold)))
theorem c_to_julian_f (n : Int) (x : UInt64) (t : Tok) (news : List (Addr × Obj)) :
    Cl 135 2 16 [.float x t] news (Qv x (4 * n - 2) ∧ -100000000000 ≤ n ∧ n ≤ 100002451545) (RetT (jYear n) (jMon n) (jDay n)) := by
  unfold Cl
  w_top off
  k_fill
  intro w loose mean mg mb dp un gd cn cs a ccd cl outer A₀ base h₀ L m s Q E hBel hFr hK hN hT hkind hpre hdp hun hret
  obtain ⟨hx, hn1, hn2⟩ := hpre
  refine wpAny_call ?_
  k_dflt cell_enter
  k_steps
  all_goals (refine retT_end hret (by assumption) (by assumption) (by first | assumption | exact kst_ltOf (by assumption)) rfl rfl rfl)
theorem c_to_julian_i (n : Int) (t : Tok) (news : List (Addr × Obj)) :
    Cl 135 2 16 [.int n t] news (-100000000000 ≤ n ∧ n ≤ 100002451545) (RetT (jYear n) (jMon n) (jDay n)) := by
  unfold Cl
  w_top off
  k_fill
  intro w loose mean mg mb dp un gd cn cs a ccd cl outer A₀ base h₀ L m s Q E hBel hFr hK hN hT hkind hpre hdp hun hret
  obtain ⟨hn1, hn2⟩ := hpre
  refine wpAny_call ?_
  k_dflt cell_enter
  k_steps
  all_goals (refine retT_end hret (by assumption) (by assumption) (by first | assumption | exact kst_ltOf (by assumption)) rfl rfl rfl)

end
section
theorem c_isleap (y : Int) (t : Tok) (news : List (Addr × Obj)) :
    Cl 50 1 8 [.int y t] news True (RetB (decide (y % 4 = 0 ∧ (y % 100 ≠ 0 ∨ y % 400 = 0)))) := by
  unfold Cl
  w_top off
  k_fill
  intro w loose mean mg mb dp un gd cn cs a ccd cl outer A₀ base h₀ L m s Q E hBel hFr hK hN hT hkind hpre hdp hun hret
  refine wpAny_call ?_
  k_dflt cell_enter
  k_steps
  all_goals (refine retB_end hret (by assumption) (by assumption) ?_)
  all_goals (rw [Bool.eq_iff_iff]; simp only [bne_iff_ne, beq_iff_eq, decide_eq_true_eq]; omega)
local macro_rules | `(tactic| walk_at "call ref") => `(tactic| ((with_reducible show wpAny _ _ (call (Value.ref 50) [Value.int _ _]) _ _ _); k_here; k_dflt (refine' c_isleap _ _ _ _ _ _ _ _ _ _ _ _ _ _ _ _ _ _ _ _ _ _ _ _ _ ?k1 ?k2 ?k3 ?k4 ?k5 ?kK ?kp ?kd ?ku ?_; (case k1 => k_asm); (case k2 => k_asm); (case k3 => k_asm); (case k4 => k_asm); (case k5 => k_asm); (case kK => first | exact rfl | assumption); (case kp => trivial); (case kd => ktr_room); (case ku => ktr_units)); intro h' tk' F' N'; (try dsimp only); (try k_fold)))
theorem c_legal_g (y mo d : Int) (t1 t2 t3 : Tok) (news : List (Addr × Obj)) :
    Cl 57 2 16 [.int y t1, .int mo t2, .int d t3] news (gLegal y mo d) (RetB true) := by
  unfold Cl
  w_top off
  k_fill
  intro w loose mean mg mb dp un gd cn cs a ccd cl outer A₀ base h₀ L m s Q E hBel hFr hK hN hT hkind hpre hdp hun hret
  obtain ⟨p1, p2, p3, p4, p5, p6, p7, p8, p9, p10, p11, p12⟩ := hpre
  refine wpAny_call ?_
  k_dflt cell_enter
  k_steps
  all_goals first | (exfalso; omega) | (refine retB_end hret (by assumption) (by assumption) rfl)
local macro_rules | `(tactic| walk_at "call ref") => `(tactic| ((with_reducible show wpAny _ _ (call (Value.ref 57) [Value.int _ _, Value.int _ _, Value.int _ _]) _ _ _); k_here; k_dflt (refine' c_legal_g _ _ _ _ _ _ _ _ _ _ _ _ _ _ _ _ _ _ _ _ _ _ _ _ _ _ _ _ _ ?k1 ?k2 ?k3 ?k4 ?k5 ?kK ?kp ?kd ?ku ?_; (case k1 => k_asm); (case k2 => k_asm); (case k3 => k_asm); (case k4 => k_asm); (case k5 => k_asm); (case kK => first | exact rfl | assumption); (case kp => with_reducible assumption); (case kd => ktr_room); (case ku => ktr_units)); intro h' tk' F' N'; (try dsimp only); (try k_fold)))
theorem c_to_jd_g (y mo d : Int) (t1 t2 t3 : Tok) (news : List (Addr × Obj)) :
    Cl 71 3 24 [.int y t1, .int mo t2, .int d t3] news (gLegal y mo d) (RetQ (4 * gN y mo d - 2)) := by
  unfold Cl
  w_top off
  k_fill
  intro w loose mean mg mb dp un gd cn cs a ccd cl outer A₀ base h₀ L m s Q E hBel hFr hK hN hT hkind hpre hdp hun hret
  have hpre0 := hpre
  obtain ⟨p1, p2, p3, p4, p5, p6, p7, p8, p9, p10, p11, p12⟩ := hpre
  refine wpAny_call ?_
  k_dflt cell_enter
  k_steps
  all_goals (refine retQ_end hret (by assumption) (by assumption) (by assumption) ?_)
  all_goals (unfold gN; (repeat' split) <;> omega)

end
section
theorem c_leap (y : Int) (t : Tok) (news : List (Addr × Obj)) :
    Cl 86 1 8 [.int y t] news True (RetB (decide (y % 4 = 0))) := by
  unfold Cl
  w_top off
  k_fill
  intro w loose mean mg mb dp un gd cn cs a ccd cl outer A₀ base h₀ L m s Q E hBel hFr hK hN hT hkind hpre hdp hun hret
  refine wpAny_call ?_
  k_dflt cell_enter
  k_steps
  all_goals (refine retB_end hret (by assumption) (by assumption) ?_)
  all_goals (rw [Bool.eq_iff_iff]; simp only [bne_iff_ne, beq_iff_eq, decide_eq_true_eq])
local macro_rules | `(tactic| walk_at "call ref") => `(tactic| ((with_reducible show wpAny _ _ (call (Value.ref 86) [Value.int _ _]) _ _ _); k_here; k_dflt (refine' c_leap _ _ _ _ _ _ _ _ _ _ _ _ _ _ _ _ _ _ _ _ _ _ _ _ _ ?k1 ?k2 ?k3 ?k4 ?k5 ?kK ?kp ?kd ?ku ?_; (case k1 => k_asm); (case k2 => k_asm); (case k3 => k_asm); (case k4 => k_asm); (case k5 => k_asm); (case kK => first | exact rfl | assumption); (case kp => trivial); (case kd => ktr_room); (case ku => ktr_units)); intro h' tk' F' N'; (try dsimp only); (try k_fold)))
def mLen (y m : Int) : Int := if m = 2 then (if y % 4 = 0 then 29 else 28) else if m = 4 ∨ m = 6 ∨ m = 9 ∨ m = 11 then 30 else 31
theorem mLen_ge {y m d : Int} (h : jLegal y m d) : d ≤ mLen y m := by
  obtain ⟨p1, p2, p3, p4, p5, p6, p7, p8, p9, p10, p11, p12⟩ := h
  unfold mLen
  split
  · split <;> omega
  · split <;> omega
theorem c_mlen (y mo : Int) (t1 t2 : Tok) (news : List (Addr × Obj)) :
    Cl 93 2 16 [.int y t1, .int mo t2] news True (RetI (mLen y mo)) := by
  unfold Cl
  w_top off
  k_fill
  intro w loose mean mg mb dp un gd cn cs a ccd cl outer A₀ base h₀ L m s Q E hBel hFr hK hN hT hkind hpre hdp hun hret
  refine wpAny_call ?_
  k_dflt cell_enter
  k_steps
  all_goals (refine retI_end hret (by assumption) (by assumption) ?_)
  all_goals (unfold mLen; (repeat' split) <;> omega)
local macro_rules | `(tactic| walk_at "call ref") => `(tactic| ((with_reducible show wpAny _ _ (call (Value.ref 93) [Value.int _ _, Value.int _ _]) _ _ _); k_here; k_dflt (refine' c_mlen _ _ _ _ _ _ _ _ _ _ _ _ _ _ _ _ _ _ _ _ _ _ _ _ _ _ _ ?k1 ?k2 ?k3 ?k4 ?k5 ?kK ?kp ?kd ?ku ?_; (case k1 => k_asm); (case k2 => k_asm); (case k3 => k_asm); (case k4 => k_asm); (case k5 => k_asm); (case kK => first | exact rfl | assumption); (case kp => trivial); (case kd => ktr_room); (case ku => ktr_units)); intro t' h' tk' F' N'; (try dsimp only); (try k_fold)))
theorem c_legal_j (y mo d : Int) (t1 t2 t3 : Tok) (news : List (Addr × Obj)) :
    Cl 100 3 24 [.int y t1, .int mo t2, .int d t3] news (jLegal y mo d) (RetB true) := by
  unfold Cl
  w_top off
  k_fill
  intro w loose mean mg mb dp un gd cn cs a ccd cl outer A₀ base h₀ L m s Q E hBel hFr hK hN hT hkind hpre hdp hun hret
  have hlen := mLen_ge hpre
  obtain ⟨p1, p2, p3, p4, p5, p6, p7, p8, p9, p10, p11, p12⟩ := hpre
  refine wpAny_call ?_
  k_dflt cell_enter
  k_steps
  all_goals first | (exfalso; omega) | (refine retB_end hret (by assumption) (by assumption) rfl)
local macro_rules | `(tactic| walk_at "call ref") => `(tactic| ((with_reducible show wpAny _ _ (call (Value.ref 100) [Value.int _ _, Value.int _ _, Value.int _ _]) _ _ _); k_here; k_dflt (refine' c_legal_j _ _ _ _ _ _ _ _ _ _ _ _ _ _ _ _ _ _ _ _ _ _ _ _ _ _ _ _ _ ?k1 ?k2 ?k3 ?k4 ?k5 ?kK ?kp ?kd ?ku ?_; (case k1 => k_asm); (case k2 => k_asm); (case k3 => k_asm); (case k4 => k_asm); (case k5 => k_asm); (case kK => first | exact rfl | assumption); (case kp => with_reducible assumption); (case kd => ktr_room); (case ku => ktr_units)); intro h' tk' F' N'; (try dsimp only); (try k_fold)))
theorem c_to_jd_j (y mo d : Int) (t1 t2 t3 : Tok) (news : List (Addr × Obj)) :
    Cl 114 4 32 [.int y t1, .int mo t2, .int d t3] news (jLegal y mo d) (RetQ (4 * jN y mo d - 2)) := by
  unfold Cl
  w_top off
  k_fill
  intro w loose mean mg mb dp un gd cn cs a ccd cl outer A₀ base h₀ L m s Q E hBel hFr hK hN hT hkind hpre hdp hun hret
  have hpre0 := hpre
  obtain ⟨p1, p2, p3, p4, p5, p6, p7, p8, p9, p10, p11, p12⟩ := hpre
  refine wpAny_call ?_
  k_dflt cell_enter
  k_steps
  all_goals (refine retQ_end hret (by assumption) (by assumption) (by assumption) ?_)
  all_goals (unfold jN; split <;> omega)
local macro_rules | `(tactic| walk_at "call ref") => `(tactic| ((with_reducible show wpAny _ _ (call (Value.ref 114) [Value.int _ _, Value.int _ _, Value.int _ _]) _ _ _); k_here; k_dflt (refine' c_to_jd_j _ _ _ _ _ _ _ _ _ _ _ _ _ _ _ _ _ _ _ _ _ _ _ _ _ _ _ _ _ ?k1 ?k2 ?k3 ?k4 ?k5 ?kK ?kp ?kd ?ku ?_; (case k1 => k_asm); (case k2 => k_asm); (case k3 => k_asm); (case k4 => k_asm); (case k5 => k_asm); (case kK => first | exact rfl | assumption); (case kp => with_reducible assumption); (case kd => ktr_room); (case ku => ktr_units)); intro x' t' h' tk' F' N' hx'; (try dsimp only); (try k_fold)))
theorem c_from_jul (y mo d : Int) (t1 t2 t3 : Tok) (news : List (Addr × Obj)) :
    Cl 142 5 40 [.int y t1, .int mo t2, .int d t3] news (jLegal y mo d) (RetQ (4 * jN y mo d - 2)) := by
  unfold Cl
  w_top off
  k_fill
  intro w loose mean mg mb dp un gd cn cs a ccd cl outer A₀ base h₀ L m s Q E hBel hFr hK hN hT hkind hpre hdp hun hret
  refine wpAny_call ?_
  k_dflt cell_enter
  k_steps
  all_goals (refine retQ_end hret (by assumption) (by assumption) (by assumption) rfl)

end
section
local macro_rules | `(tactic| walk_at "call ref") => `(tactic| ((with_reducible show wpAny _ _ (call (Value.ref 50) [Value.int _ _]) _ _ _); k_here; k_dflt (refine' c_isleap _ _ _ _ _ _ _ _ _ _ _ _ _ _ _ _ _ _ _ _ _ _ _ _ _ ?k1 ?k2 ?k3 ?k4 ?k5 ?kK ?kp ?kd ?ku ?_; (case k1 => k_asm); (case k2 => k_asm); (case k3 => k_asm); (case k4 => k_asm); (case k5 => k_asm); (case kK => first | exact rfl | assumption); (case kp => trivial); (case kd => ktr_room); (case ku => ktr_units)); intro h' tk' F' N'; (try dsimp only); (try k_fold)))
local macro_rules | `(tactic| walk_at "call ref") => `(tactic| ((with_reducible show wpAny _ _ (call (Value.ref 57) [Value.int _ _, Value.int _ _, Value.int _ _]) _ _ _); k_here; k_dflt (refine' c_legal_g _ _ _ _ _ _ _ _ _ _ _ _ _ _ _ _ _ _ _ _ _ _ _ _ _ _ _ _ _ ?k1 ?k2 ?k3 ?k4 ?k5 ?kK ?kp ?kd ?ku ?_; (case k1 => k_asm); (case k2 => k_asm); (case k3 => k_asm); (case k4 => k_asm); (case k5 => k_asm); (case kK => first | exact rfl | assumption); (case kp => with_reducible assumption); (case kd => ktr_room); (case ku => ktr_units)); intro h' tk' F' N'; (try dsimp only); (try k_fold)))
local macro_rules | `(tactic| walk_at "call ref") => `(tactic| ((with_reducible show wpAny _ _ (call (Value.ref 71) [Value.int _ _, Value.int _ _, Value.int _ _]) _ _ _); k_here; k_dflt (refine' c_to_jd_g _ _ _ _ _ _ _ _ _ _ _ _ _ _ _ _ _ _ _ _ _ _ _ _ _ _ _ _ _ ?k1 ?k2 ?k3 ?k4 ?k5 ?kK ?kp ?kd ?ku ?_; (case k1 => k_asm); (case k2 => k_asm); (case k3 => k_asm); (case k4 => k_asm); (case k5 => k_asm); (case kK => first | exact rfl | assumption); (case kp => with_reducible assumption); (case kd => ktr_room); (case ku => ktr_units)); intro x' t' h' tk' F' N' hx'; (try dsimp only); (try k_fold)))
theorem c_to_jd2 (y mo d : Int) (t1 t2 t3 : Tok) (news : List (Addr × Obj)) :
    Cl 64 3 24 [.int y t1, .int mo t2, .int d t3] news (gLegal y mo d) (RetQ (4 * gN y mo d - 2)) := by
  unfold Cl
  w_top off
  k_fill
  intro w loose mean mg mb dp un gd cn cs a ccd cl outer A₀ base h₀ L m s Q E hBel hFr hK hN hT hkind hpre hdp hun hret
  have hpre0 := hpre
  obtain ⟨p1, p2, p3, p4, p5, p6, p7, p8, p9, p10, p11, p12⟩ := hpre
  have hmee := meeus (y := y) d p3 p4
  refine wpAny_call ?_
  k_dflt cell_enter
  k_steps
  all_goals (refine retQ_end hret (by assumption) (by assumption) (by assumption) ?_)
  all_goals (rw [hmee]; split <;> omega)
theorem c_from_greg (y mo d : Int) (t1 t2 t3 : Tok) (news : List (Addr × Obj)) :
    Cl 128 4 32 [.int y t1, .int mo t2, .int d t3] news (gLegal y mo d) (RetQ (4 * gN y mo d - 2)) := by
  unfold Cl
  w_top off
  k_fill
  intro w loose mean mg mb dp un gd cn cs a ccd cl outer A₀ base h₀ L m s Q E hBel hFr hK hN hT hkind hpre hdp hun hret
  refine wpAny_call ?_
  k_dflt cell_enter
  k_steps
  all_goals (refine retQ_end hret (by assumption) (by assumption) (by assumption) rfl)

end
section
local macro_rules | `(tactic| walk_at "call ref") => `(tactic| ((with_reducible show wpAny _ _ (call (Value.ref 50) [Value.int _ _]) _ _ _); k_here; k_dflt (refine' c_isleap _ _ _ _ _ _ _ _ _ _ _ _ _ _ _ _ _ _ _ _ _ _ _ _ _ ?k1 ?k2 ?k3 ?k4 ?k5 ?kK ?kp ?kd ?ku ?_; (case k1 => k_asm); (case k2 => k_asm); (case k3 => k_asm); (case k4 => k_asm); (case k5 => k_asm); (case kK => first | exact rfl | assumption); (case kp => trivial); (case kd => ktr_room); (case ku => ktr_units)); intro h' tk' F' N'; (try dsimp only); (try k_fold)))
theorem greg_chain {n k Qd Q r1 C0 C r2 U0 U r3 I0 I : Int} (_hn : Noon n) (h1 : Qd = k / 4 / 146097) (h1' : Q = Qd) (h2 : r1 = k / 4 % 146097) (h3 : C0 = 4 * r1 / 4 / 36524) (h3' : C = C0) (h4 : r2 = 4 * r1 / 4 % 36524) (h5 : U0 = 4 * r2 / 4 / 1461) (h5' : U = U0) (h6 : r3 = 4 * r2 / 4 % 1461) (h7 : I0 = 4 * r3 / 4 / 365) (h7' : I = I0) (hk : k / 4 = gD n) :
    Q = gQ n ∧ C = gC n ∧ U = gU n ∧ I = gI n := by
  have e : ∀ z : Int, 4 * z / 4 = z := fun z => by omega
  rw [hk] at h1 h2
  rw [e] at h3 h4 h5 h6 h7
  subst h7' h5' h3' h1' h7 h6 h5 h4 h3 h2 h1
  exact ⟨rfl, rfl, rfl, rfl⟩
theorem gmon_eq {n Y z k : Int} (hY : Y = gYear n) (hz : ((Y % 4 = 0 ∧ (Y % 100 ≠ 0 ∨ Y % 400 = 0)) ∧ z = 58 + 1) ∨ (¬ (Y % 4 = 0 ∧ (Y % 100 ≠ 0 ∨ Y % 400 = 0)) ∧ z = 58))
    (hk : (k < 4 * z → k = 4 * gYd n) ∧ k = 4 * gYd n) {q ad : Int} (ha : (k < 4 * z ∧ ad = 0) ∨ (¬ k < 4 * z ∧ (Y % 4 = 0 ∧ (Y % 100 ≠ 0 ∨ Y % 400 = 0)) ∧ ad = 1) ∨ (¬ k < 4 * z ∧ ¬ (Y % 4 = 0 ∧ (Y % 100 ≠ 0 ∨ Y % 400 = 0)) ∧ ad = 2))
    (hq : q = ((gYd n + ad) * 12 + 373) / 367) : q = gMon n := by
  subst hY
  have e : ad = gAdj n := by
    unfold gAdj
    by_cases hl : gYear n % 4 = 0 ∧ (gYear n % 100 ≠ 0 ∨ gYear n % 400 = 0)
    · simp only [if_pos hl]
      by_cases h : gYd n < 58 + 1
      · rw [if_pos h]; omega
      · rw [if_neg h]; omega
    · simp only [if_neg hl]
      by_cases h : gYd n < 58 + 0
      · rw [if_pos h]; omega
      · rw [if_neg h]; omega
  rw [hq, e]
  rfl
theorem fact71a {M : Model} {A : Around} {E Q : Value → Shared → Prop} {s : Shared} {n y : Int} {t1 t2 t3 : Tok} (_hn : Noon n) (hy : y = gYear n) (h : y = gYear n → wpAny M A (call (.ref 71) [.int (gYear n) t1, .int 1 t2, .int 1 t3]) Q E s) :
    wpAny M A (call (.ref 71) [.int y t1, .int 1 t2, .int 1 t3]) Q E s := by
  have := h hy
  rw [← hy] at this
  exact this
theorem fact71b {M : Model} {A : Around} {E Q : Value → Shared → Prop} {s : Shared} {n y mo : Int} {t1 t2 t3 : Tok} (_hn : Noon n) (hy : y = gYear n) (hm : mo = gMon n) (h : mo = gMon n → wpAny M A (call (.ref 71) [.int (gYear n) t1, .int (gMon n) t2, .int 1 t3]) Q E s) :
    wpAny M A (call (.ref 71) [.int y t1, .int mo t2, .int 1 t3]) Q E s := by
  have := h hm
  rw [← hy, ← hm] at this
  exact this
local macro_rules | `(tactic| walk_at "call ref") => `(tactic| ((with_reducible show wpAny _ _ (call (Value.ref 71) [Value.int _ _, Value.int _ _, Value.int 1 _]) _ _ _); k_here; (rename Noon _ => hNn'); k_dflt (refine' fact71b hNn' ?hy ?hm (fun hM' => ?_); (case hy => assumption); (case hm => (unfold gMon gAdj gYd; (repeat' split) <;> omega))); k_dflt (refine' c_to_jd_g _ _ _ _ _ _ _ _ _ _ _ _ _ _ _ _ _ _ _ _ _ _ _ _ _ _ _ _ _ ?k1 ?k2 ?k3 ?k4 ?k5 ?kK ?kp ?kd ?ku ?_; (case k1 => k_asm); (case k2 => k_asm); (case k3 => k_asm); (case k4 => k_asm); (case k5 => k_asm); (case kK => first | exact rfl | assumption); (case kp => assumption); (case kd => ktr_room); (case ku => ktr_units)); intro x' t' h' tk' F' N' hx'; (try dsimp only); (try k_fold)))
local macro_rules | `(tactic| walk_at "call ref") => `(tactic| ((with_reducible show wpAny _ _ (call (Value.ref 71) [Value.int _ _, Value.int 1 _, Value.int 1 _]) _ _ _); k_here; (rename Noon _ => hNn'); (have hch' := greg_chain hNn' (by assumption) (by assumption) (by assumption) (by assumption) (by assumption) (by assumption) (by assumption) (by assumption) (by assumption) (by assumption) (by assumption) (by unfold gD; omega)); (obtain ⟨a1', a2', a3', a4'⟩ := hch'); k_dflt (refine' fact71a hNn' ?hy (fun hY' => ?_); (case hy => (unfold gYear; (first | rw [if_pos (Or.inl (by omega))] | rw [if_pos (Or.inr (by omega))] | rw [if_neg (by omega)]); omega))); k_dflt (refine' c_to_jd_g _ _ _ _ _ _ _ _ _ _ _ _ _ _ _ _ _ _ _ _ _ _ _ _ _ _ _ _ _ ?k1 ?k2 ?k3 ?k4 ?k5 ?kK ?kp ?kd ?ku ?_; (case k1 => k_asm); (case k2 => k_asm); (case k3 => k_asm); (case k4 => k_asm); (case k5 => k_asm); (case kK => first | exact rfl | assumption); (case kp => assumption); (case kd => ktr_room); (case ku => ktr_units)); intro x' t' h' tk' F' N' hx'; (try dsimp only); (try k_fold)))
/-- less a half, the floor is the day before n -/
abbrev SubHalf (n : Int) (v : Value) : Prop := ∀ (prog : Program) (w : World) (A : Around) (E : Value → Shared → Prop) (s : Shared) (Q : Value → Shared → Prop) (u : Tok), (∀ z t' k, k / 4 = n - 1 → Qv z k → Q (.float z t') { s with toks := s.toks + 1 }) →
  wpAny (model prog w) A (binaryOp .Sub v (.float 0x3fe0000000000000 u)) Q E s
local macro_rules | `(tactic| walk_at "binaryOp Sub") => `(tactic| ((rename SubHalf _ _ => hSb'); (with_reducible refine hSb' _ _ _ _ _ _ _ ?_); intro z' t' k' hk' hz'; try dsimp only))
theorem c_from_jd_g (n : Int) (v : Value) (hv : SubHalf n v) (news : List (Addr × Obj)) :
    Cl 78 4 32 [v] news (-100000000000 ≤ n ∧ n ≤ 100002451545) (RetT (gYear n) (gMon n) (gDay n)) := by
  unfold Cl
  w_top off
  k_fill
  intro w loose mean mg mb dp un gd cn cs a ccd cl outer A₀ base h₀ L m s Q E hBel hFr hK hN hT hkind hpre hdp hun hret
  obtain ⟨hn1, hn2⟩ := hpre
  have hno : Noon n := trivial
  obtain ⟨y1, y2, y3, y4, y5⟩ := greg_year hn1 hn2
  obtain ⟨g1, g2, g3⟩ := greg_spec hn1 hn2
  have hl1 : gLegal (gYear n) 1 1 := by refine ⟨?_, ?_, ?_, ?_, ?_, ?_, ?_, ?_, ?_, ?_, ?_, ?_⟩ <;> intros <;> omega
  obtain ⟨d1, d2⟩ : 1 ≤ n - gN (gYear n) (gMon n) 1 + 1 ∧ n - gN (gYear n) (gMon n) 1 + 1 ≤ 31 := ⟨g2.2.2.2.2.1, g2.2.2.2.2.2.1⟩
  unfold gYd at y3 y4
  clear y5 g2 g3
  refine wpAny_call ?_
  k_dflt cell_enter
  k_steps
  all_goals (refine retT_end hret (by with_reducible assumption) (by with_reducible assumption) (by with_reducible assumption) (by with_reducible assumption) (by with_reducible assumption) (by unfold gDay; omega))
theorem c_from_jd_g_f (n : Int) (x : UInt64) (t : Tok) (news : List (Addr × Obj)) :
    Cl 78 4 32 [.float x t] news (Qv x (4 * n - 2) ∧ -100000000000 ≤ n ∧ n ≤ 100002451545) (RetT (gYear n) (gMon n) (gDay n)) := by
  intro w loose mean mg mb dp un gd cn cs a ccd cl outer A₀ base h₀ L m s Q E hBel hFr hK hN hT hkind hpre hdp hun hret
  exact c_from_jd_g n (.float x t) (fun _ _ _ _ _ _ _ h => w_sub_ff hpre.1 lit05 (by omega) (by omega) (fun z t' hz => h z t' _ (by omega) hz)) news w loose mean mg mb dp un gd cn cs a ccd cl outer A₀ base h₀ L m s Q E hBel hFr hK hN hT hkind hpre.2 hdp hun hret
theorem c_from_jd_g_i (n : Int) (t : Tok) (news : List (Addr × Obj)) :
    Cl 78 4 32 [.int n t] news (-100000000000 ≤ n ∧ n ≤ 100002451545) (RetT (gYear n) (gMon n) (gDay n)) := by
  intro w loose mean mg mb dp un gd cn cs a ccd cl outer A₀ base h₀ L m s Q E hBel hFr hK hN hT hkind hpre hdp hun hret
  exact c_from_jd_g n (.int n t) (fun _ _ _ _ _ _ _ h => w_sub_if lit05 (by omega) (by omega) (by omega) (by omega) (fun z t' hz => h z t' _ (by omega) hz)) news w loose mean mg mb dp un gd cn cs a ccd cl outer A₀ base h₀ L m s Q E hBel hFr hK hN hT hkind hpre hdp hun hret

end
section
local macro_rules | `(tactic| walk_at "call ref") => `(tactic| ((with_reducible show wpAny _ _ (call (Value.ref 78) [Value.float _ _]) _ _ _); k_here; k_dflt (refine' c_from_jd_g_f _ _ _ _ _ _ _ _ _ _ _ _ _ _ _ _ _ _ _ _ _ _ _ _ _ _ ?k1 ?k2 ?k3 ?k4 ?k5 ?kK ?kp ?kd ?ku ?_; (case k1 => k_asm); (case k2 => k_asm); (case k3 => k_asm); (case k4 => k_asm); (case k5 => k_asm); (case kK => first | exact rfl | assumption); (case kp => (refine ⟨by with_reducible assumption, by with_reducible assumption, by with_reducible assumption⟩)); (case kd => ktr_room); (case ku => ktr_units)); intro D' t1' t2' t3' c' h' tk' F' N' lt'; (try dsimp only); (try k_fold)))
local macro_rules | `(tactic| walk_at "call ref") => `(tactic| ((with_reducible show wpAny _ _ (call (Value.ref 78) [Value.int _ _]) _ _ _); k_here; k_dflt (refine' c_from_jd_g_i _ _ _ _ _ _ _ _ _ _ _ _ _ _ _ _ _ _ _ _ _ _ _ _ _ ?k1 ?k2 ?k3 ?k4 ?k5 ?kK ?kp ?kd ?ku ?_; (case k1 => k_asm); (case k2 => k_asm); (case k3 => k_asm); (case k4 => k_asm); (case k5 => k_asm); (case kK => first | exact rfl | assumption); (case kp => (refine ⟨by with_reducible assumption, by with_reducible assumption⟩)); (case kd => ktr_room); (case ku => ktr_units)); intro D' t1' t2' t3' c' h' tk' F' N' lt'; (try dsimp only); (try k_fold)))
theorem c_to_greg_f (n : Int) (x : UInt64) (t : Tok) (news : List (Addr × Obj)) :
    Cl 121 5 40 [.float x t] news (Qv x (4 * n - 2) ∧ -100000000000 ≤ n ∧ n ≤ 100002451545) (RetT (gYear n) (gMon n) (gDay n)) := by
  unfold Cl
  w_top off
  k_fill
  intro w loose mean mg mb dp un gd cn cs a ccd cl outer A₀ base h₀ L m s Q E hBel hFr hK hN hT hkind hpre hdp hun hret
  obtain ⟨hx, hn1, hn2⟩ := hpre
  refine wpAny_call ?_
  k_dflt cell_enter
  k_steps
  all_goals (refine retT_end hret (by assumption) (by assumption) (by first | assumption | exact kst_ltOf (by assumption)) rfl rfl rfl)
theorem c_to_greg_i (n : Int) (t : Tok) (news : List (Addr × Obj)) :
    Cl 121 5 40 [.int n t] news (-100000000000 ≤ n ∧ n ≤ 100002451545) (RetT (gYear n) (gMon n) (gDay n)) := by
  unfold Cl
  w_top off
  k_fill
  intro w loose mean mg mb dp un gd cn cs a ccd cl outer A₀ base h₀ L m s Q E hBel hFr hK hN hT hkind hpre hdp hun hret
  obtain ⟨hn1, hn2⟩ := hpre
  refine wpAny_call ?_
  k_dflt cell_enter
  k_steps
  all_goals (refine retT_end hret (by assumption) (by assumption) (by first | assumption | exact kst_ltOf (by assumption)) rfl rfl rfl)
theorem c_apart (y mo : Int) (t1 t2 : Tok) (news : List (Addr × Obj)) :
    Cl 163 1 8 [.int y t1, .int mo t2] news True (RetI (hund y mo - hund y mo / 4 - 2)) := by
  unfold Cl
  w_top off
  k_fill
  intro w loose mean mg mb dp un gd cn cs a ccd cl outer A₀ base h₀ L m s Q E hBel hFr hK hN hT hkind hpre hdp hun hret
  refine wpAny_call ?_
  k_dflt cell_enter
  k_steps
  all_goals (refine retI_end hret (by assumption) (by assumption) ?_)
  all_goals (unfold hund; split <;> omega)

end
section
local macro_rules | `(tactic| walk_at "call ref") => `(tactic| ((with_reducible show wpAny _ _ (call (Value.ref 50) [Value.int _ _]) _ _ _); k_here; k_dflt (refine' c_isleap _ _ _ _ _ _ _ _ _ _ _ _ _ _ _ _ _ _ _ _ _ _ _ _ _ ?k1 ?k2 ?k3 ?k4 ?k5 ?kK ?kp ?kd ?ku ?_; (case k1 => k_asm); (case k2 => k_asm); (case k3 => k_asm); (case k4 => k_asm); (case k5 => k_asm); (case kK => first | exact rfl | assumption); (case kp => trivial); (case kd => ktr_room); (case ku => ktr_units)); intro h' tk' F' N'; (try dsimp only); (try k_fold)))
local macro_rules | `(tactic| walk_at "call ref") => `(tactic| ((with_reducible show wpAny _ _ (call (Value.ref 135) [Value.float _ _]) _ _ _); k_here; k_dflt (refine' c_to_julian_f _ _ _ _ _ _ _ _ _ _ _ _ _ _ _ _ _ _ _ _ _ _ _ _ _ _ ?k1 ?k2 ?k3 ?k4 ?k5 ?kK ?kp ?kd ?ku ?_; (case k1 => k_asm); (case k2 => k_asm); (case k3 => k_asm); (case k4 => k_asm); (case k5 => k_asm); (case kK => first | exact rfl | assumption); (case kp => (refine ⟨by with_reducible assumption, by with_reducible assumption, by with_reducible assumption⟩)); (case kd => ktr_room); (case ku => ktr_units)); intro D' t1' t2' t3' c' h' tk' F' N' lt'; (try dsimp only); (try k_fold)))
local macro_rules | `(tactic| walk_at "call ref") => `(tactic| ((with_reducible show wpAny _ _ (call (Value.ref 135) [Value.int _ _]) _ _ _); k_here; k_dflt (refine' c_to_julian_i _ _ _ _ _ _ _ _ _ _ _ _ _ _ _ _ _ _ _ _ _ _ _ _ _ ?k1 ?k2 ?k3 ?k4 ?k5 ?kK ?kp ?kd ?ku ?_; (case k1 => k_asm); (case k2 => k_asm); (case k3 => k_asm); (case k4 => k_asm); (case k5 => k_asm); (case kK => first | exact rfl | assumption); (case kp => (refine ⟨by with_reducible assumption, by with_reducible assumption⟩)); (case kd => ktr_room); (case ku => ktr_units)); intro D' t1' t2' t3' c' h' tk' F' N' lt'; (try dsimp only); (try k_fold)))
local macro_rules | `(tactic| walk_at "call ref") => `(tactic| ((with_reducible show wpAny _ _ (call (Value.ref 121) [Value.float _ _]) _ _ _); k_here; k_dflt (refine' c_to_greg_f _ _ _ _ _ _ _ _ _ _ _ _ _ _ _ _ _ _ _ _ _ _ _ _ _ _ ?k1 ?k2 ?k3 ?k4 ?k5 ?kK ?kp ?kd ?ku ?_; (case k1 => k_asm); (case k2 => k_asm); (case k3 => k_asm); (case k4 => k_asm); (case k5 => k_asm); (case kK => first | exact rfl | assumption); (case kp => (refine ⟨by with_reducible assumption, by with_reducible assumption, by with_reducible assumption⟩)); (case kd => ktr_room); (case ku => ktr_units)); intro D' t1' t2' t3' c' h' tk' F' N' lt'; (try dsimp only); (try k_fold)))
local macro_rules | `(tactic| walk_at "call ref") => `(tactic| ((with_reducible show wpAny _ _ (call (Value.ref 121) [Value.int _ _]) _ _ _); k_here; k_dflt (refine' c_to_greg_i _ _ _ _ _ _ _ _ _ _ _ _ _ _ _ _ _ _ _ _ _ _ _ _ _ ?k1 ?k2 ?k3 ?k4 ?k5 ?kK ?kp ?kd ?ku ?_; (case k1 => k_asm); (case k2 => k_asm); (case k3 => k_asm); (case k4 => k_asm); (case k5 => k_asm); (case kK => first | exact rfl | assumption); (case kp => (refine ⟨by with_reducible assumption, by with_reducible assumption⟩)); (case kd => ktr_room); (case ku => ktr_units)); intro D' t1' t2' t3' c' h' tk' F' N' lt'; (try dsimp only); (try k_fold)))
local macro_rules | `(tactic| walk_at "call ref") => `(tactic| ((with_reducible show wpAny _ _ (call (Value.ref 128) [Value.int _ _, Value.int _ _, Value.int _ _]) _ _ _); k_here; k_dflt (refine' c_from_greg _ _ _ _ _ _ _ _ _ _ _ _ _ _ _ _ _ _ _ _ _ _ _ _ _ _ _ _ _ ?k1 ?k2 ?k3 ?k4 ?k5 ?kK ?kp ?kd ?ku ?_; (case k1 => k_asm); (case k2 => k_asm); (case k3 => k_asm); (case k4 => k_asm); (case k5 => k_asm); (case kK => first | exact rfl | assumption); (case kp => first | with_reducible assumption | exact jl_gl (by with_reducible assumption) (by omega)); (case kd => ktr_room); (case ku => ktr_units)); intro x' t' h' tk' F' N' hx'; (try dsimp only); (try k_fold)))
local macro_rules | `(tactic| walk_at "call ref") => `(tactic| ((with_reducible show wpAny _ _ (call (Value.ref 142) [Value.int _ _, Value.int _ _, Value.int _ _]) _ _ _); k_here; k_dflt (refine' c_from_jul _ _ _ _ _ _ _ _ _ _ _ _ _ _ _ _ _ _ _ _ _ _ _ _ _ _ _ _ _ ?k1 ?k2 ?k3 ?k4 ?k5 ?kK ?kp ?kd ?ku ?_; (case k1 => k_asm); (case k2 => k_asm); (case k3 => k_asm); (case k4 => k_asm); (case k5 => k_asm); (case kK => first | exact rfl | assumption); (case kp => with_reducible assumption); (case kd => ktr_room); (case ku => ktr_units)); intro x' t' h' tk' F' N' hx'; (try dsimp only); (try k_fold)))
local macro_rules | `(tactic| walk_at "call ref") => `(tactic| ((with_reducible show wpAny _ _ (call (Value.ref 163) [Value.int _ _, Value.int _ _]) _ _ _); k_here; k_dflt (refine' c_apart _ _ _ _ _ _ _ _ _ _ _ _ _ _ _ _ _ _ _ _ _ _ _ _ _ _ _ ?k1 ?k2 ?k3 ?k4 ?k5 ?kK ?kp ?kd ?ku ?_; (case k1 => k_asm); (case k2 => k_asm); (case k3 => k_asm); (case k4 => k_asm); (case k5 => k_asm); (case kK => first | exact rfl | assumption); (case kp => trivial); (case kd => ktr_room); (case ku => ktr_units)); intro t' h' tk' F' N'; (try dsimp only); (try k_fold)))
local macro_rules | `(tactic| walk_at "call ref") => `(tactic| ((with_reducible show wpAny _ _ (call (Value.ref 64) [Value.int _ _, Value.int _ _, Value.int _ _]) _ _ _); k_here; k_dflt (refine' c_to_jd2 _ _ _ _ _ _ _ _ _ _ _ _ _ _ _ _ _ _ _ _ _ _ _ _ _ _ _ _ _ ?k1 ?k2 ?k3 ?k4 ?k5 ?kK ?kp ?kd ?ku ?_; (case k1 => k_asm); (case k2 => k_asm); (case k3 => k_asm); (case k4 => k_asm); (case k5 => k_asm); (case kK => first | exact rfl | assumption); (case kp => with_reducible assumption); (case kd => ktr_room); (case ku => ktr_units)); intro x' t' h' tk' F' N' hx'; (try dsimp only); (try k_fold)))
theorem w_mid {prog : Program} {w : World} {A : Around} {E : Value → Shared → Prop} {s : Shared} {x : UInt64} {k c n : Int} {t u : Tok} {Q : Value → Shared → Prop} (_hn : Noon n) (X : Qv x k) (g1 : -(2 ^ 51) ≤ c) (g2 : c ≤ 2 ^ 51) (e : k - 4 * c = 4 * n - 2) (b1 : -(2 ^ 50) ≤ n) (b2 : n ≤ 2 ^ 50) (h : ∀ z t', Qv z (4 * n - 2) → Q (.float z t') { s with toks := s.toks + 1 }) :
    wpAny (model prog w) A (binaryOp .Sub (.float x t) (.int c u)) Q E s :=
  w_sub_fi X g1 g2 (by rw [e]; omega) (by rw [e]; omega) (fun z t' hz => h z t' (e ▸ hz))
local macro_rules | `(tactic| walk_at "binaryOp Sub float int") => `(tactic| ((rename Noon _ => hNn'); (with_reducible refine w_mid hNn' (by assumption) (by omega) (by omega) (by omega) (by omega) (by omega) ?_); intro z' t' hz'; try dsimp only))
theorem w_same {prog : Program} {w : World} {A : Around} {E : Value → Shared → Prop} {s : Shared} {n : Int} {Q : Value → Shared → Prop} (hs : (jYear n = gYear n ∧ jMon n = gMon n ∧ jDay n = gDay n) ↔ (1794168 ≤ n ∧ n ≤ 1830691)) (h : Q (.bool false) s) :
    wpAny (model prog w) A (compareOp .NotEq (.bool (jYear n == gYear n && (jMon n == gMon n && jDay n == gDay n))) (.bool (decide (1794168 ≤ n ∧ n ≤ 1830691)))) Q E s := by
  refine PyProof.Rows.ne_bool ?_
  have e : (jYear n == gYear n && (jMon n == gMon n && jDay n == gDay n)) = decide (1794168 ≤ n ∧ n ≤ 1830691) := by
    rw [Bool.eq_iff_iff]
    simp only [Bool.and_eq_true, beq_iff_eq, decide_eq_true_eq]
    exact hs
  rw [e, bne_self_eq_false]
  exact h
def ChainEnd (n : Int) (s : Shared) (v : Value) (s' : Shared) : Prop := ∃ tk, v = .bool (decide (1794168 ≤ n ∧ n ≤ 1830691)) ∧ s' = { s with toks := tk }
theorem chain_join {M : Model} {A : Around} {E : Value → Shared → Prop} {s : Shared} {n : Int} {Q : Value → Shared → Prop} {cm : Sem Value} (_hn : Noon n) (hc : wpAny M A cm (fun v s' => ChainEnd n s v s') E s)
    (hk : ∀ tk, Q (.bool (decide (1794168 ≤ n ∧ n ≤ 1830691))) { s with toks := tk }) : wpAny M A cm Q E s := by
  refine wpAny_mono hc (fun v s' h => ?_) fun _ _ x => x
  obtain ⟨tk, rfl, rfl⟩ := h
  exact hk tk
theorem chain_end {n : Int} {s : Shared} {b : Bool} {tk : Nat} (e : b = decide (1794168 ≤ n ∧ n ≤ 1830691)) : ChainEnd n s (.bool b) { s with toks := tk } := ⟨tk, congrArg Value.bool e, rfl⟩
def IfEnd (n : Int) (s : Shared) (b : Bool) (s' : Shared) : Prop := ∃ tk, b = decide (jMon n = 2 ∧ jDay n = 29 ∧ jYear n % 100 = 0 ∧ jYear n % 400 ≠ 0) ∧ s' = { s with toks := tk }
theorem if_join {M : Model} {A : Around} {E : Value → Shared → Prop} {s : Shared} {n : Int} {Q : Bool → Shared → Prop} {cm : Sem Bool} (_hn : Noon n) (hc : wpAny M A cm (fun v s' => IfEnd n s v s') E s)
    (h1 : jMon n = 2 → jDay n = 29 → jYear n % 100 = 0 → jYear n % 400 ≠ 0 → ∀ tk, Q true { s with toks := tk }) (h2 : ¬ (jMon n = 2 ∧ jDay n = 29 ∧ jYear n % 100 = 0 ∧ jYear n % 400 ≠ 0) → ∀ tk, Q false { s with toks := tk }) : wpAny M A cm Q E s := by
  refine wpAny_mono hc (fun v s' h => ?_) fun _ _ x => x
  obtain ⟨tk, rfl, rfl⟩ := h
  by_cases hp : jMon n = 2 ∧ jDay n = 29 ∧ jYear n % 100 = 0 ∧ jYear n % 400 ≠ 0
  · rw [decide_eq_true hp]; exact h1 hp.1 hp.2.1 hp.2.2.1 hp.2.2.2 tk
  · rw [decide_eq_false hp]; exact h2 hp tk
theorem if_end {n : Int} {s : Shared} {b : Bool} {tk : Nat} (e : b = decide (jMon n = 2 ∧ jDay n = 29 ∧ jYear n % 100 = 0 ∧ jYear n % 400 ≠ 0)) : IfEnd n s b { s with toks := tk } := ⟨tk, e, rfl⟩
theorem if_end_t {n : Int} {s : Shared} {tk : Nat} (h : jMon n = 2 ∧ jDay n = 29 ∧ jYear n % 100 = 0 ∧ jYear n % 400 ≠ 0) : IfEnd n s true { s with toks := tk } := if_end (decide_eq_true h).symm
theorem if_end_f {n : Int} {s : Shared} {tk : Nat} (h : ¬ (jMon n = 2 ∧ jDay n = 29 ∧ jYear n % 100 = 0 ∧ jYear n % 400 ≠ 0)) : IfEnd n s false { s with toks := tk } := if_end (decide_eq_false h).symm
local macro_rules | `(tactic| wrow_close) => `(tactic| ((with_reducible show ChainEnd _ _ _ _); exact chain_end (by rw [Bool.eq_iff_iff]; simp only [decide_eq_true_eq]; omega)))
local macro_rules | `(tactic| wrow_close) => `(tactic| ((with_reducible show IfEnd _ _ _ _); first | exact if_end_t (by omega) | exact if_end_f (by omega)))
local macro_rules | `(tactic| walk_at "compareOp Eq int int") => `(tactic| ((with_reducible refine PyProof.Rows.eq_int ?_); (try dsimp only)))
local macro_rules | `(tactic| walk_at "compareOp NotEq int int") => `(tactic| ((with_reducible refine PyProof.Rows.ne_int ?_); (try dsimp only)))
local macro_rules | `(tactic| walk_at "compareOp NotEq bool bool") => `(tactic| (k_dflt (refine w_same (by assumption) ?_)))
local macro_rules | `(tactic| walk_at "compareChain") => `(tactic| ((with_reducible show wpAny _ _ (compareChain _ (Value.int 1794168 _) _ _) _ _ _); (rename Noon _ => hNn'); k_dflt (refine' chain_join hNn' (PyProof.Rows.chain_link ?_) (fun tk' => ?_)); all_goals (try dsimp only)))
local macro_rules | `(tactic| walk_at "isTrue BoolOp") => `(tactic| ((with_reducible show wpAny _ _ (PySem.isTrue (Expr.BoolOp BoolOp.And [_, _, _, _] _) _) _ _ _); (rename Noon _ => hNn'); k_dflt (refine' if_join hNn' (PyProof.Rows.isTrue_and ?_) (fun p1' p2' p3' p4' tk' => ?_) (fun p1' tk' => ?_)); all_goals (try dsimp only)))
theorem c_one_day (n : Int) (t : Tok) (news : List (Addr × Obj)) :
    ∀ (w : World) (loose : List Str) (mean : ExcName → Option Value) (mg mb : Str → Option Value) (cn : Str) (cs : Scope) (a : Addr) (ccd : Value) (h₀ : Heap) (L : Addr) (m : Str → Option Value) (s : Shared) (Q E : Value → Shared → Prop),
    Below callerA h₀ [] h₀ → Fr h₀ L s.heap m → (hd.heap_39 w.params).In h₀ → News h₀ L s.heap news → Top hd.view_39 loose mean mg mb h₀ → cs.kind = .function →
    -100000000000 ≤ n ∧ n ≤ 100002451545 → RetB true h₀ L m news s Q →
      wpAny (model Challenge.rw_ad5018_01.row.prog w) (callerA.deeper (envOf cn cs L a ccd)) (call (.ref 177) [.int n t]) Q E s := by
  w_top off
  k_fill
  intro w loose mean mg mb cn cs a ccd h₀ L m s Q E hBel hFr hK hN hT hkind hpre hret
  obtain ⟨hn1, hn2⟩ := hpre
  have hno : Noon n := trivial
  obtain ⟨jl, je⟩ := jul_spec hn1 hn2
  obtain ⟨_, gl, ge⟩ := greg_spec hn1 hn2
  have gjl := gl_jl gl
  have hsame := same_iff hn1 hn2
  have ga := apart' (y := gYear n) (m := gMon n) (gDay n) gl.2.2.1 gl.2.2.2.1
  have ja := apart' (y := jYear n) (m := jMon n) (jDay n) jl.2.2.1 jl.2.2.2.1
  have hfin : 4 * gN (jYear n) (jMon n) (jDay n) - 2 = 4 * n - 2 - 4 * (hund (jYear n) (jMon n) - hund (jYear n) (jMon n) / 4 - 2) := by omega
  have h2000 : gLegal 2000 1 1 := by refine ⟨?_, ?_, ?_, ?_, ?_, ?_, ?_, ?_, ?_, ?_, ?_, ?_⟩ <;> intros <;> omega
  have n2000 : gN 2000 1 1 = 2451545 := by decide
  have hja : -10 ^ 10 ≤ hund (jYear n) (jMon n) ∧ hund (jYear n) (jMon n) ≤ 10 ^ 10 := by
    have := jl.1; have := jl.2.1; unfold hund; split <;> omega
  have hga : -10 ^ 10 ≤ hund (gYear n) (gMon n) ∧ hund (gYear n) (gMon n) ≤ 10 ^ 10 := by
    have := gl.1; have := gl.2.1; unfold hund; split <;> omega
  refine wpAny_call ?_
  k_dflt (refine' code_defS0 ?k1 ?k2 ?k3 ?k4 ?k5 ?kA ?k6 ?k7 ?k8 ?k9 ?kB ?_ ?cK ?c2 ?c3 ?c4 ?c5; (case kA => exact rfl); (case k2 => k_asm); (case k1 => k_asm); (case k3 => k_asm); (case k4 => k_asm); (case k5 => k_asm); (case k6 => k_is); (case k7 => k_is); (case k8 => k_room); (case k9 => exact BindsTo.of_eq rfl); (case kB => exact locs rfl); (case cK => assumption); (case c2 => exact rfl); (case c3 => exact rfl); (case c4 => exact rfl); (case c5 => decide); k_whole; intro g' L' h' FG' F' N' B' X' T' D'; (try dsimp only); (try k_lift B'); (try k_fold))
  k_steps
  all_goals (refine retB_end hret (by with_reducible assumption) (cb_drop (by with_reducible assumption) ?_) ?_)
  all_goals first | (with_reducible rfl) | (with_reducible exact decide_eq_true hfin) | (intro p hp; (have hp2 : List.Mem p news := hp); repeat' (first | (with_reducible exact hp2) | (with_reducible exact hp) | apply List.Mem.tail))

end
section
theorem law2_size {b : Int} (h0 : 0 ≤ b) : Builtin.Range.rangeSize 0 b 2 = (((b + 1) / 2).toNat : Int) := by
  unfold Builtin.Range.rangeSize
  simp only [show (2 : Int) > 0 by decide, if_true]
  split <;> omega
theorem law2_small {b : Int} (h0 : 0 ≤ b) (h1 : b < 2 ^ 40) : Builtin.Range.small 0 b 2 = true := by
  unfold Builtin.Range.small
  rw [law2_size h0]
  simp only [Builtin.Range.rangeFitsLong, Bool.and_eq_true, Bool.or_eq_true, decide_eq_true_eq, beq_iff_eq, show (2 : Int) > 0 by decide, if_true]
  omega
theorem law2_range {prog : Program} {w : World} {A : Around} {E : Value → Shared → Prop} {s : Shared} {env : Env} {h₀ : Heap} {x : Str} {body : List Stmt} {Q : Flow → Shared → Prop} {r : Addr} {b₀ : Int} {t₀ u₀ v₀ : Tok} {m₀ : Str → Option Value} {news : List (Addr × Obj)} (stored : List Str)
    (hh : A.handled = none) (hr : IsRange s.heap r 0 b₀ 2 t₀ u₀ v₀) (hb0 : 0 ≤ b₀) (hb1 : b₀ < 2 ^ 40) (F : Fr h₀ env.locals s.heap m₀) (N : News h₀ env.locals s.heap news)
    (turn : ∀ (k : Int) t (u : Str → Option Value) h tk own, 0 ≤ k → k < b₀ → OwnOff own (news.map (·.1)) →
      Fr h₀ env.locals h (fun y => if y = x then some (.int k t) else kstB (fun z => if stored.contains z then u z else m₀ z) [] y) → News h₀ env.locals h (news ++ own) →
      wpAny (model prog w) A (execs body env) (InvPostN h₀ env.locals (KstS (σ := Unit) (fun _ => news) (fun _ => []) (fun _ => True) x stored m₀ (fun _ _ => True) []) own (news.map (·.1)) { s with heap := h, toks := tk } Q) E { s with heap := h, toks := tk })
    (done : ∀ (u : Str → Option Value) h tk, Fr h₀ env.locals h (fun y => if y = x then u y else kstB (fun z => if stored.contains z then u z else m₀ z) [] y) → News h₀ env.locals h news → Q .next { s with heap := h, toks := tk }) :
    wpAny (model prog w) A (pyIter (.ref r)) (fun it s₂ => LoopAtV prog w A h₀ env x body Q E it s₂) E s := by
  have hn := law2_size hb0
  generalize hnn : ((b₀ + 1) / 2).toNat = n at hn
  refine wpAny_pyIter_range hr (law2_small hb0 hb1) ?_
  have W : Walks prog w A s.heap.objs.size [s.heap.objs.size] [s.heap.objs.size] n (fun i v => i < n ∧ ∃ t, v = .int (0 + i * 2) t)
      (fun i h => IsRangeIter h s.heap.objs.size (0 + (i : Nat) * 2) ((n : Int) - (i : Nat)) 2) := (Walks.range hh _ 0 2 n).bound
  refine loop_invN (fun _ m nx => KstS (σ := Unit) (fun _ => news) (fun _ => []) (fun _ => True) x stored m₀ (fun _ _ => True) [] m nx) W ?_ ?_ ?_ ?_ (by show IsRangeIter _ _ _ _ _; rw [hn]; simpa using Heap.get?_push_size _ rfl) (F.push _) (fun p hp => ⟨Heap.get?_push_of_some _ (N p hp).1, (N p hp).2⟩) ⟨(), rfl, trivial, fun _ hp => (nomatch hp), fun _ _ _ _ => rfl, trivial⟩ ?_ ?_
  · intro hm
    exact absurd F.ns.lt ((List.mem_singleton.mp hm) ▸ Nat.lt_irrefl _)
  · intro b hb
    rw [List.mem_singleton.mp hb]
    exact next_is_new F
  · intro p hp hI
    exact absurd (Heap.lt_size (N p hp).1) ((List.mem_singleton.mp hI) ▸ Nat.lt_irrefl _)
  · intro p hp hI
    exact absurd (Heap.lt_size (N p hp).1) ((List.mem_singleton.mp hI) ▸ Nat.lt_irrefl _)
  · rintro i v m₁ nx h tk own hi ⟨_, t, rfl⟩ _ hoff ⟨c, rfl, hf', h1, h2, hp'⟩ F₁ N₁
    exact turn _ t m₁ h tk own (by omega) (by omega) hoff (kst_fr h1 h2 F₁) N₁
  · rintro m₁ nx h tk ⟨c, rfl, hf', h1, h2, hp'⟩ F₁ N₁
    exact done m₁ h tk (kst_frOut h1 h2 F₁) N₁
theorem k_day {w : World} {loose : List Str} {mean : ExcName → Option Value} {mg mb : Str → Option Value} {cn : Str} {cs : Scope} {a : Addr} {ccd : Value} {h₀ : Heap} {L : Addr} {m : Str → Option Value} {s : Shared} {Q E : Value → Shared → Prop} {n : Int} {t : Tok} {news : List (Addr × Obj)}
    (hB : Below callerA h₀ [] h₀) (hF : Fr h₀ L s.heap m) (hK : (hd.heap_39 w.params).In h₀) (hN : News h₀ L s.heap news) (hT : Top hd.view_39 loose mean mg mb h₀) (hk : cs.kind = .function)
    (h1 : -100000000000 ≤ n) (h2 : n ≤ 100002451545) (hret : ∀ (h : Heap) (tk : Nat), Fr h₀ L h m → News h₀ L h news → Q (.bool true) { s with heap := h, toks := tk }) :
      wpAny (model Challenge.rw_ad5018_01.row.prog w) (callerA.deeper (envOf cn cs L a ccd)) (call (.ref 177) [.int n t]) Q E s :=
  c_one_day n t news w loose mean mg mb cn cs a ccd h₀ L m s Q E hB hF hK hN hT hk ⟨h1, h2⟩ hret
theorem starts_bnd (i : Nat) : 0 ≤ ([0, 1794168, 1830691, 2299161, 2451545] : List Int).getD i 0 ∧ ([0, 1794168, 1830691, 2299161, 2451545] : List Int).getD i 0 ≤ 2451545 := by
  rcases i with _ | _ | _ | _ | _ | i <;> simp
theorem start_low {i : Nat} {r : Int} (h : -100000000000 ≤ r) : -100000000000 ≤ ([0, 1794168, 1830691, 2299161, 2451545] : List Int).getD i 0 + r := by
  have := starts_bnd i
  omega
theorem start_high {i : Nat} {r : Int} (h : r ≤ 100000000000) : ([0, 1794168, 1830691, 2299161, 2451545] : List Int).getD i 0 + r ≤ 100002451545 := by
  have := starts_bnd i
  omega
theorem w_pow {prog : Program} {w : World} {A : Around} {E : Value → Shared → Prop} {s : Shared} {t u : Tok} {Q : Value → Shared → Prop} (h : Q (.int 100000000000 s.toks) { s with toks := s.toks + 1 }) :
    wpAny (model prog w) A (binaryOp .Pow (.int 10 t) (.int 11 u)) Q E s := PyProof.Rows.pow_int (by decide) (by decide +kernel) h
local macro_rules | `(tactic| walk_at "binaryOp Pow int int") => `(tactic| ((with_reducible refine w_pow ?_); (try dsimp only)))
local macro_rules | `(tactic| walk_at "call ref") => `(tactic| ((with_reducible show wpAny _ _ (call (Value.ref 177) [Value.int _ _]) _ _ _); k_here; k_dflt (refine' k_day ?k1 ?k2 ?k3 ?k4 ?k5 ?kK ?kp ?kq ?_; (case k1 => k_asm); (case k2 => k_asm); (case k3 => k_asm); (case k4 => k_asm); (case k5 => k_asm); (case kK => exact rfl); (case kp => first | omega | exact start_low (by omega) | decide); (case kq => first | omega | exact start_high (by omega) | decide)); intro h' tk' F' N'; (try dsimp only); (try k_fold)))
local macro_rules | `(tactic| walk_at "pyIter ref") => `(tactic| ((with_reducible show wpAny _ _ (pyIter (Value.ref _)) (fun it s₂ => LoopAtV _ _ _ _ _ _ _ _ _ it s₂) _ _); k_here; (fail_if_success krs_unr); (rename Fr _ _ _ _ => lF'); (rename News _ _ _ _ => lN'); (rename IsRange _ _ _ _ _ _ _ _ => rgX); (with_unfolding_all refine' law2_range [Str.ofString "start"] (by rfl) rgX ?hb0 ?hb1 lF' lN' (fun k' t' u' h' tk' own' hk0' hk1' hoff' F' N' => ?_) (fun u' h' tk' F' N' => ?_)); (case hb0 => omega); (case hb1 => first | omega | (have hb9 := len_ints_list (by lay_of); omega)); (all_goals (try clear lF' lN'; (have kMark' := kstMark); (try dsimp only [kstB] at F'); (try simp only [List.nil_append, List.cons_append, List.append_nil] at N'); (try simp only [List.map_cons, List.map_nil] at hoff'); (try k_fold)))))
theorem law_holds : PySem.Challenge.rw_ad5018_01.Holds := hd (by
  w_strict (k_go0; (all_goals try k_fold); k_steps; all_goals w_report))

end
end Mine
theorem PySem.Challenge.cw_ad5018_01_holds : PySem.Challenge.rw_ad5018_01.Holds := by
  exact Mine.law_holds
