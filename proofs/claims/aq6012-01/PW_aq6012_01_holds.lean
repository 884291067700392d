import PyProof.Rows.All
import Wide.All
import OpenK.AllK
import Wide.FinOn
import PySem.Challenge.RW_aq6012_01
/- The plain law: the two calendars by whole numbers. -/
namespace Mine
/-- 1 in a leap year of the calendar c (1: Julian, else Gregorian), else 0 -/
def leapI (c y : Int) : Int := if c = 1 then (if y % 4 = 0 then 1 else 0) else if y % 4 = 0 ∧ (y % 100 ≠ 0 ∨ y % 400 = 0) then 1 else 0
/-- days of a month -/
def lenI (c y m : Int) : Int := if m = 2 then 28 + leapI c y else if m = 4 ∨ m = 6 ∨ m = 9 ∨ m = 11 then 30 else 31
/-- days ahead of a month in its year -/
def cumI (c y m : Int) : Int := (367 * m - 362) / 12 + (if m ≤ 2 then 0 else leapI c y - 2)
/-- the number of January 1 -/
def janI (c y : Int) : Int := if c = 1 then 1721424 + 365 * (y - 1) + (y - 1) / 4 else 1721426 + 365 * (y - 1) + (y - 1) / 4 - (y - 1) / 100 + (y - 1) / 400
/-- the number of a day -/
def dayI (c y m d : Int) : Int := janI c y + cumI c y m + d - 1
def IsDate (c n y m d : Int) : Prop := 1 ≤ m ∧ m ≤ 12 ∧ 1 ≤ d ∧ d ≤ lenI c y m ∧ dayI c y m d = n

theorem leapI_01 (c y : Int) : 0 ≤ leapI c y ∧ leapI c y ≤ 1 := by
  unfold leapI; repeat' split
  all_goals omega
theorem leapJ_iff (y : Int) : leapI 1 y = 1 ↔ y % 4 = 0 := by
  unfold leapI; rw [if_pos rfl]; split <;> simp_all
theorem leapG_iff (c y : Int) (hc : c ≠ 1) : leapI c y = 1 ↔ (y % 4 = 0 ∧ (y % 100 ≠ 0 ∨ y % 400 = 0)) := by
  unfold leapI; rw [if_neg hc]; split <;> simp_all
theorem lenI_facts (c y m : Int) : 0 ≤ leapI c y ∧ leapI c y ≤ 1 ∧ ((m = 2 ∧ lenI c y m = 28 + leapI c y) ∨ (m ≠ 2 ∧ (m = 4 ∨ m = 6 ∨ m = 9 ∨ m = 11) ∧ lenI c y m = 30) ∨ (m ≠ 2 ∧ ¬ (m = 4 ∨ m = 6 ∨ m = 9 ∨ m = 11) ∧ lenI c y m = 31)) := by
  have h := leapI_01 c y
  refine ⟨h.1, h.2, ?_⟩
  unfold lenI
  split
  · exact .inl ⟨by assumption, rfl⟩
  · split
    · exact .inr (.inl ⟨by assumption, by assumption, rfl⟩)
    · exact .inr (.inr ⟨by assumption, by assumption, rfl⟩)
theorem lenI_ge (c y m : Int) : 28 ≤ lenI c y m ∧ lenI c y m ≤ 31 := by
  have h := lenI_facts c y m
  omega
theorem months {m : Int} (h1 : 1 ≤ m) (h2 : m ≤ 12) : m = 1 ∨ m = 2 ∨ m = 3 ∨ m = 4 ∨ m = 5 ∨ m = 6 ∨ m = 7 ∨ m = 8 ∨ m = 9 ∨ m = 10 ∨ m = 11 ∨ m = 12 := by omega
theorem cumI_step (c y : Int) {m : Int} (h1 : 1 ≤ m) (h2 : m ≤ 12) : cumI c y (m + 1) = cumI c y m + lenI c y m := by
  have h := leapI_01 c y
  rcases months h1 h2 with h | h | h | h | h | h | h | h | h | h | h | h <;> subst h <;> simp [cumI, lenI] <;> omega
theorem cumI_1 (c y : Int) : cumI c y 1 = 0 := by simp [cumI]
theorem cumI_13 (c y : Int) : cumI c y 13 = 365 + leapI c y := by simp [cumI]; omega
theorem cumI_mono (c y : Int) {m k : Int} (h1 : 1 ≤ m) (h2 : m < k) (h3 : k ≤ 13) : cumI c y m + lenI c y m ≤ cumI c y k := by
  have h := leapI_01 c y
  rw [← cumI_step c y h1 (by omega)]
  unfold cumI
  split <;> split <;> omega
theorem janI_step (c y : Int) : janI c (y + 1) = janI c y + 365 + leapI c y := by
  have hJ := leapJ_iff y
  have h := leapI_01 c y
  by_cases hc : c = 1
  · subst hc
    simp only [janI, if_pos]
    by_cases h4 : y % 4 = 0
    · rw [hJ.mpr h4]; omega
    · have : leapI 1 y ≠ 1 := fun e => h4 (hJ.mp e)
      omega
  · have hG := leapG_iff c y hc
    simp only [janI, if_neg hc]
    by_cases h4 : (y % 4 = 0 ∧ (y % 100 ≠ 0 ∨ y % 400 = 0))
    · rw [hG.mpr h4]; omega
    · have : leapI c y ≠ 1 := fun e => h4 (hG.mp e)
      omega
theorem janI_mono (c : Int) {y z : Int} (h : y < z) : janI c (y + 1) ≤ janI c z := by
  unfold janI
  split <;> omega
theorem dayI_year {c n y m d : Int} (h : IsDate c n y m d) : janI c y ≤ n ∧ n < janI c (y + 1) := by
  obtain ⟨h1, h2, h3, h4, h5⟩ := h
  have hm := cumI_mono c y h1 (show m < 13 by omega) (by omega)
  have h13 := cumI_13 c y
  have hs := janI_step c y
  have h0 : 0 ≤ cumI c y m := by
    by_cases h : m = 1
    · rw [h, cumI_1]; omega
    · have := cumI_mono c y (show (1:Int) ≤ 1 by omega) (show 1 < m by omega) (by omega)
      have hl := lenI_ge c y 1
      rw [cumI_1] at this
      omega
  unfold dayI at h5
  omega
theorem date_unique {c n y m d y' m' d' : Int} (h : IsDate c n y m d) (h' : IsDate c n y' m' d') : y = y' ∧ m = m' ∧ d = d' := by
  have a := dayI_year h
  have a' := dayI_year h'
  have hy : y = y' := by
    rcases Int.lt_trichotomy y y' with q | q | q
    · have := janI_mono c q; omega
    · exact q
    · have := janI_mono c q; omega
  subst hy
  obtain ⟨h1, h2, h3, h4, h5⟩ := h
  obtain ⟨k1, k2, k3, k4, k5⟩ := h'
  unfold dayI at h5 k5
  have hm : m = m' := by
    rcases Int.lt_trichotomy m m' with q | q | q
    · have := cumI_mono c y h1 q (by omega); omega
    · exact q
    · have := cumI_mono c y k1 q (by omega); omega
  subst hm
  exact ⟨rfl, rfl, by omega⟩
end Mine
namespace Mine
def gY (n : Int) : Int := (n - 1721426) / 146097 * 400 + (n - 1721426) % 146097 / 36524 * 100 + (n - 1721426) % 146097 % 36524 / 1461 * 4 + (n - 1721426) % 146097 % 36524 % 1461 / 365 +
  (if (n - 1721426) % 146097 / 36524 = 4 ∨ (n - 1721426) % 146097 % 36524 % 1461 / 365 = 4 then 0 else 1)
def gAdj (n : Int) : Int := if n - janI 0 (gY n) < 58 + leapI 0 (gY n) then 0 else if leapI 0 (gY n) = 1 then 1 else 2
def gM (n : Int) : Int := ((n - janI 0 (gY n) + gAdj n) * 12 + 373) / 367
def gD (n : Int) : Int := n - dayI 0 (gY n) (gM n) 1 + 1
theorem janG_eq (y : Int) : janI 0 y = 1721426 + 365 * (y - 1) + (y - 1) / 4 - (y - 1) / 100 + (y - 1) / 400 := by simp [janI]
theorem janJ_eq (y : Int) : janI 1 y = 1721424 + 365 * (y - 1) + (y - 1) / 4 := by simp [janI]
theorem gY_ok (n : Int) : janI 0 (gY n) ≤ n ∧ n < janI 0 (gY n + 1) := by
  simp only [janG_eq]
  unfold gY
  generalize hq : (n - 1721426) / 146097 = q
  generalize hr : (n - 1721426) % 146097 = r
  generalize hc : r / 36524 = c
  generalize hd : r % 36524 = d
  generalize hk : d / 1461 = k
  generalize he : d % 1461 = e
  generalize hi : e / 365 = i
  have a1 : n = 1721426 + 146097 * q + r := by omega
  have a2 : r = 36524 * c + d := by omega
  have a3 : d = 1461 * k + e := by omega
  have b1 : 0 ≤ r ∧ r < 146097 := by omega
  have b2 : 0 ≤ d ∧ d < 36524 := by omega
  have b3 : 0 ≤ e ∧ e < 1461 := by omega
  have b4 : 0 ≤ i ∧ i ≤ 4 ∧ 365 * i ≤ e ∧ e < 365 * i + 365 := by omega
  have b5 : 0 ≤ c ∧ c ≤ 4 := by omega
  have b6 : 0 ≤ k ∧ k ≤ 24 := by omega
  clear hq hr hc hd hk he hi
  have first : ∀ i' : Int, 0 ≤ i' → i' ≤ 3 → c ≤ 3 → (q * 400 + c * 100 + k * 4 + i') / 4 = 100 * q + 25 * c + k ∧ (q * 400 + c * 100 + k * 4 + i') / 100 = 4 * q + c ∧ (q * 400 + c * 100 + k * 4 + i') / 400 = q := by
    intro i' h1 h2 h3
    refine ⟨?_, ?_, ?_⟩ <;> omega
  have last : (q * 400 + 3 * 100 + 24 * 4 + 4) / 4 = 100 * q + 100 ∧ (q * 400 + 3 * 100 + 24 * 4 + 4) / 100 = 4 * q + 4 ∧ (q * 400 + 3 * 100 + 24 * 4 + 4) / 400 = q + 1 := by
    refine ⟨?_, ?_, ?_⟩ <;> omega
  have cent : ∀ c' : Int, 0 ≤ c' → c' ≤ 2 → (q * 400 + c' * 100 + 24 * 4 + 4) / 4 = 100 * q + 25 * c' + 25 ∧ (q * 400 + c' * 100 + 24 * 4 + 4) / 100 = 4 * q + c' + 1 ∧ (q * 400 + c' * 100 + 24 * 4 + 4) / 400 = q := by
    intro c' h1 h2
    refine ⟨?_, ?_, ?_⟩ <;> omega
  have quad : ∀ c' k' : Int, 0 ≤ c' → c' ≤ 3 → 0 ≤ k' → k' ≤ 23 → (q * 400 + c' * 100 + k' * 4 + 4) / 4 = 100 * q + 25 * c' + k' + 1 ∧ (q * 400 + c' * 100 + k' * 4 + 4) / 100 = 4 * q + c' ∧ (q * 400 + c' * 100 + k' * 4 + 4) / 400 = q := by
    intro c' k' h1 h2 h3 h4
    refine ⟨?_, ?_, ?_⟩ <;> omega
  split
  · rename_i h
    have hc4 : c = 4 → k = 0 ∧ i = 0 ∧ d = 0 := by omega
    by_cases h4 : c = 4
    · obtain ⟨rfl, rfl, rfl⟩ := hc4 h4
      subst h4
      rw [show q * 400 + 4 * 100 + 0 * 4 + 0 + 0 - 1 = q * 400 + 3 * 100 + 24 * 4 + 3 by omega, show q * 400 + 4 * 100 + 0 * 4 + 0 + 0 + 1 - 1 = q * 400 + 3 * 100 + 24 * 4 + 4 by omega]
      obtain ⟨f1, f2, f3⟩ := last
      have g1 : (q * 400 + 3 * 100 + 24 * 4 + 3) / 4 = 100 * q + 99 := by omega
      have g2 : (q * 400 + 3 * 100 + 24 * 4 + 3) / 100 = 4 * q + 3 := by omega
      have g3 : (q * 400 + 3 * 100 + 24 * 4 + 3) / 400 = q := by omega
      rw [f1, f2, f3, g1, g2, g3]
      constructor <;> omega
    · have hi4 : i = 4 := by omega
      have hc3 : c ≤ 3 := by omega
      subst hi4
      rw [show q * 400 + c * 100 + k * 4 + 4 + 0 - 1 = q * 400 + c * 100 + k * 4 + 3 by omega, show q * 400 + c * 100 + k * 4 + 4 + 0 + 1 - 1 = q * 400 + c * 100 + k * 4 + 4 by omega]
      obtain ⟨g1, g2, g3⟩ := first 3 (by omega) (by omega) hc3
      rw [g1, g2, g3]
      refine ⟨by omega, ?_⟩
      by_cases hk : k = 24
      · subst hk
        by_cases h3 : c = 3
        · subst h3
          obtain ⟨f1, f2, f3⟩ := last
          rw [f1, f2, f3]; omega
        · exact absurd b2 (by omega)
      · obtain ⟨f1, f2, f3⟩ := quad c k b5.1 hc3 b6.1 (by omega)
        rw [f1, f2, f3]; omega
  · rename_i h
    have hc3 : c ≤ 3 := by omega
    have hi3 : i ≤ 3 := by omega
    rw [show q * 400 + c * 100 + k * 4 + i + 1 - 1 = q * 400 + c * 100 + k * 4 + i by omega, show q * 400 + c * 100 + k * 4 + i + 1 + 1 - 1 = q * 400 + c * 100 + k * 4 + (i + 1) by omega]
    obtain ⟨g1, g2, g3⟩ := first i b4.1 hi3 hc3
    rw [g1, g2, g3]
    refine ⟨by omega, ?_⟩
    by_cases h3 : i = 3
    · subst h3
      by_cases hk : k = 24
      · subst hk
        by_cases h3 : c = 3
        · subst h3
          obtain ⟨f1, f2, f3⟩ := last
          rw [show (3 : Int) + 1 = 4 from rfl, f1, f2, f3]; omega
        · obtain ⟨f1, f2, f3⟩ := cent c b5.1 (by omega)
          rw [show (3 : Int) + 1 = 4 from rfl, f1, f2, f3]; omega
      · obtain ⟨f1, f2, f3⟩ := quad c k b5.1 hc3 b6.1 (by omega)
        rw [show (3 : Int) + 1 = 4 from rfl, f1, f2, f3]; omega
    · obtain ⟨f1, f2, f3⟩ := first (i + 1) (by omega) (by omega) hc3
      rw [f1, f2, f3]; omega
theorem g_date (n : Int) : IsDate 0 n (gY n) (gM n) (gD n) := by
  have hy := gY_ok n
  rw [janI_step] at hy
  have hl := leapI_01 0 (gY n)
  have key : 1 ≤ gM n ∧ gM n ≤ 12 ∧ cumI 0 (gY n) (gM n) ≤ n - janI 0 (gY n) ∧ n - janI 0 (gY n) < cumI 0 (gY n) (gM n) + lenI 0 (gY n) (gM n) := by
    have hM : gM n = ((n - janI 0 (gY n) + gAdj n) * 12 + 373) / 367 := rfl
    have hA : gAdj n = if n - janI 0 (gY n) < 58 + leapI 0 (gY n) then 0 else if leapI 0 (gY n) = 1 then 1 else 2 := rfl
    generalize gM n = M at hM ⊢
    generalize gAdj n = A at hM hA
    generalize gY n = Y at hy hl hM hA ⊢
    generalize hyd : n - janI 0 Y = yd at hM hA ⊢
    have hb : 0 ≤ yd ∧ yd < 365 + leapI 0 Y := by omega
    have h1 : 1 ≤ M := by
      split at hA <;> (try split at hA) <;> omega
    have h2 : M ≤ 12 := by
      split at hA <;> (try split at hA) <;> omega
    refine ⟨h1, h2, ?_⟩
    have hf := lenI_facts 0 Y M
    unfold cumI
    rcases months h1 h2 with h | h | h | h | h | h | h | h | h | h | h | h <;> subst h <;> split at hA <;> (try split at hA) <;> simp only [if_pos, if_neg, Int.reduceLE, Int.reduceMul, Int.reduceSub, Int.reduceDiv, if_true, if_false] <;> omega
  obtain ⟨h1, h2, h3, h4⟩ := key
  have hD : gD n = n - dayI 0 (gY n) (gM n) 1 + 1 := rfl
  refine ⟨h1, h2, ?_, ?_, ?_⟩ <;> unfold dayI at * <;> omega

theorem g_fin {n dep q dqc cent dcent quad dquad yi y0 y yd adj M D : Int} (h1 : dep = n - 1721426) (h2 : q = dep / 146097) (h3 : dqc = dep % 146097) (h4 : cent = dqc / 36524) (h5 : dcent = dqc % 36524) (h6 : quad = dcent / 1461) (h7 : dquad = dcent % 1461) (h8 : yi = dquad / 365)
    (h9 : y0 = q * 400 + cent * 100 + quad * 4 + yi) (hy : ((cent = 4 ∨ yi = 4) ∧ y = y0) ∨ (cent ≠ 4 ∧ yi ≠ 4 ∧ y = y0 + 1)) (h10 : yd = n - dayI 0 y 1 1) (hm : M = ((yd + adj) * 12 + 373) / 367) (hd : D = n - dayI 0 y M 1 + 1)
    (ha : (yd < 58 + (if decide (leapI 0 y = 1) = true then 1 else 0) ∧ adj = 0) ∨ (¬ yd < 58 + (if decide (leapI 0 y = 1) = true then 1 else 0) ∧ leapI 0 y = 1 ∧ adj = 1) ∨ (¬ yd < 58 + (if decide (leapI 0 y = 1) = true then 1 else 0) ∧ ¬ leapI 0 y = 1 ∧ adj = 2)) :
    y = gY n ∧ M = gM n ∧ D = gD n := by
  have e1 : y = gY n := by
    subst h1 h2 h3 h4 h5 h6 h7 h8 h9
    unfold gY
    rcases hy with ⟨hc, rfl⟩ | ⟨hc, hi, rfl⟩
    · rw [if_pos hc]; omega
    · rw [if_neg (by omega)]
  subst e1
  have hj : dayI 0 (gY n) 1 1 = janI 0 (gY n) := by unfold dayI; rw [cumI_1]; omega
  rw [hj] at h10
  subst h10
  have hl := leapI_01 0 (gY n)
  have hi : (if decide (leapI 0 (gY n) = 1) = true then (1 : Int) else 0) = leapI 0 (gY n) := by
    by_cases h : leapI 0 (gY n) = 1
    · rw [if_pos (by simpa using h), h]
    · rw [if_neg (by simpa using h)]; omega
  rw [hi] at ha
  have e2 : adj = gAdj n := by
    unfold gAdj
    rcases ha with ⟨a, rfl⟩ | ⟨a, b, rfl⟩ | ⟨a, b, rfl⟩
    · rw [if_pos a]
    · rw [if_neg a, if_pos b]
    · rw [if_neg a, if_neg b]
  subst e2
  have e3 : M = gM n := hm
  subst e3
  exact ⟨rfl, rfl, hd⟩

def jC (n : Int) : Int := (20 * (n + 1524) - 2442) / 7305
def jD0 (n : Int) : Int := n + 1524 - 1461 * jC n / 4
def jE (n : Int) : Int := jD0 n * 10000 / 306001
def jM (n : Int) : Int := if jE n < 14 then jE n - 1 else jE n - 13
def jY (n : Int) : Int := if jM n > 2 then jC n - 4716 else jC n - 4715
def jD (n : Int) : Int := jD0 n - 306001 * jE n / 10000
theorem j_date (n : Int) : IsDate 1 n (jY n) (jM n) (jD n) := by
  have hC : jC n = (20 * (n + 1524) - 2442) / 7305 := rfl
  have hB : jD0 n = n + 1524 - 1461 * jC n / 4 := rfl
  have hE : jE n = jD0 n * 10000 / 306001 := rfl
  have hM : jM n = if jE n < 14 then jE n - 1 else jE n - 13 := rfl
  have hY : jY n = if jM n > 2 then jC n - 4716 else jC n - 4715 := rfl
  have hD : jD n = jD0 n - 306001 * jE n / 10000 := rfl
  generalize jD n = D at hD ⊢
  generalize jY n = Y at hY ⊢
  generalize jM n = M at hM hY ⊢
  generalize jE n = e at hE hM hD
  generalize jD0 n = b at hB hE hD
  generalize jC n = c at hC hB hY
  obtain ⟨g, r, hr0, hr3, rfl⟩ : ∃ g r : Int, 0 ≤ r ∧ r ≤ 3 ∧ c = 4 * g + r := ⟨c / 4, c % 4, by omega, by omega, by omega⟩
  have hd : 1461 * (4 * g + r) / 4 = 1461 * g + 365 * r := by omega
  rw [hd] at hB
  have hb : 20 * b - 2442 - 5 * r ≥ 0 ∧ 20 * b - 2442 - 5 * r < 7305 := by omega
  have hn : n = b - 1524 + 1461 * g + 365 * r := by omega
  clear hC hB hd
  have he : 4 ≤ e ∧ e ≤ 15 := by omega
  have h1 : 1 ≤ M ∧ M ≤ 12 := by split at hM <;> omega
  have hf := lenI_facts 1 Y M
  have hl := leapJ_iff Y
  have hee : e = 4 ∨ e = 5 ∨ e = 6 ∨ e = 7 ∨ e = 8 ∨ e = 9 ∨ e = 10 ∨ e = 11 ∨ e = 12 ∨ e = 13 ∨ e = 14 ∨ e = 15 := by omega
  have hrr : r = 0 ∨ r = 1 ∨ r = 2 ∨ r = 3 := by omega
  refine ⟨h1.1, h1.2, ?_⟩
  unfold dayI cumI
  rw [janJ_eq]
  have hY2 : (jMgt : M > 2) → Y = 4 * g + r - 4716 := fun h => by rw [if_pos h] at hY; exact hY
  have hY3 : (jMle : ¬ M > 2) → Y = 4 * g + r - 4715 := fun h => by rw [if_neg h] at hY; exact hY
  have hM2 : e < 14 → M = e - 1 := fun h => by rw [if_pos h] at hM; exact hM
  have hM3 : ¬ e < 14 → M = e - 13 := fun h => by rw [if_neg h] at hM; exact hM
  clear hY hM
  have hw : (M ≤ 2 ∧ (if M ≤ 2 then (0 : Int) else leapI 1 Y - 2) = 0) ∨ (¬ M ≤ 2 ∧ (if M ≤ 2 then (0 : Int) else leapI 1 Y - 2) = leapI 1 Y - 2) := by
    by_cases h : M ≤ 2
    · exact .inl ⟨h, if_pos h⟩
    · exact .inr ⟨h, if_neg h⟩
  generalize (if M ≤ 2 then (0 : Int) else leapI 1 Y - 2) = W at hw ⊢
  generalize lenI 1 Y M = T at hf ⊢
  generalize leapI 1 Y = P at hf hl hw
  rcases hee with h | h | h | h | h | h | h | h | h | h | h | h <;> subst h <;> rcases hrr with h | h | h | h <;> subst h <;> refine ⟨?_, ?_, ?_⟩ <;> omega
theorem fdiv_pos (a : Int) {b : Int} (h : 0 ≤ b) : a.fdiv b = a / b := Int.fdiv_eq_ediv_of_nonneg a h
theorem j_fin {n b c d e M Y D : Int} (h1 : b = n + 1524) (h2 : c = (20 * b - 2442) / 7305) (h3 : d = 1461 * c / 4) (h4 : e = (b - d) * 10000 / 306001) (h5 : (e < 14 ∧ M = e - 1) ∨ (¬ e < 14 ∧ M = e - 13)) (h6 : (M > 2 ∧ Y = c - 4716) ∨ (¬ M > 2 ∧ Y = c - 4715)) (h7 : D = b - d - (306001 * e).fdiv 10000) :
    Y = jY n ∧ M = jM n ∧ D = jD n := by
  subst h1
  have e1 : c = jC n := h2
  subst e1
  subst h3
  have e2 : e = jE n := h4
  subst e2
  have e3 : M = jM n := by
    unfold jM
    rcases h5 with ⟨a, b⟩ | ⟨a, b⟩
    · rw [if_pos a]; exact b
    · rw [if_neg a]; exact b
  subst e3
  have e4 : Y = jY n := by
    unfold jY
    rcases h6 with ⟨a, b⟩ | ⟨a, b⟩
    · rw [if_pos a]; exact b
    · rw [if_neg a]; exact b
  refine ⟨e4, rfl, ?_⟩
  rw [h7, fdiv_pos _ (by decide)]
  rfl
theorem dayJ_eq (y : Int) {m d : Int} (h1 : 1 ≤ m) (h2 : m ≤ 12) : dayI 1 y m d = if m ≤ 2 then 1461 * (y - 1 + 4716) / 4 + 306001 * (m + 12 + 1) / 10000 + d - 1524 else 1461 * (y + 4716) / 4 + 306001 * (m + 1) / 10000 + d - 1524 := by
  unfold dayI cumI
  rw [janJ_eq]
  have hl := leapI_01 1 y
  have hj := leapJ_iff y
  obtain ⟨k, r, hr, rfl⟩ : ∃ k r : Int, (r = 0 ∨ r = 1 ∨ r = 2 ∨ r = 3) ∧ y = 4 * k + r := ⟨y / 4, y % 4, by omega, by omega⟩
  have hm : (4 * k + r) % 4 = 0 ↔ r = 0 := by omega
  rw [hm] at hj
  generalize leapI 1 (4 * k + r) = P at hl hj ⊢
  have q : (r = 0 ∧ P = 1 ∧ 1461 * (4 * k + r - 1 + 4716) / 4 = 1461 * k + 1722153 ∧ 1461 * (4 * k + r + 4716) / 4 = 1461 * k + 1722519 ∧ (4 * k + r - 1) / 4 = k - 1) ∨
      (r = 1 ∧ P = 0 ∧ 1461 * (4 * k + r - 1 + 4716) / 4 = 1461 * k + 1722519 ∧ 1461 * (4 * k + r + 4716) / 4 = 1461 * k + 1722884 ∧ (4 * k + r - 1) / 4 = k) ∨
      (r = 2 ∧ P = 0 ∧ 1461 * (4 * k + r - 1 + 4716) / 4 = 1461 * k + 1722884 ∧ 1461 * (4 * k + r + 4716) / 4 = 1461 * k + 1723249 ∧ (4 * k + r - 1) / 4 = k) ∨
      (r = 3 ∧ P = 0 ∧ 1461 * (4 * k + r - 1 + 4716) / 4 = 1461 * k + 1723249 ∧ 1461 * (4 * k + r + 4716) / 4 = 1461 * k + 1723614 ∧ (4 * k + r - 1) / 4 = k) := by
    rcases hr with h | h | h | h <;> subst h
    · exact .inl ⟨rfl, by omega, by omega, by omega, by omega⟩
    · exact .inr (.inl ⟨rfl, by omega, by omega, by omega, by omega⟩)
    · exact .inr (.inr (.inl ⟨rfl, by omega, by omega, by omega, by omega⟩))
    · exact .inr (.inr (.inr ⟨rfl, by omega, by omega, by omega, by omega⟩))
  rcases q with ⟨h, e, e1, e2, e3⟩ | ⟨h, e, e1, e2, e3⟩ | ⟨h, e, e1, e2, e3⟩ | ⟨h, e, e1, e2, e3⟩ <;> rw [e1, e2, e3, e] <;> clear hl hj hm e1 e2 e3 hr <;>
  rcases months h1 h2 with h | h | h | h | h | h | h | h | h | h | h | h <;> subst h <;> simp <;> omega
end Mine
namespace Mine
theorem long_1 {c y : Int} (hc : c = 1) : (y.fmod 4 == 0) = decide (leapI c y = 1) := by
  subst hc
  rw [Bool.eq_iff_iff, decide_eq_true_eq, leapJ_iff, Int.fmod_eq_emod_of_nonneg _ (by decide)]; simp
theorem long_2 {c y : Int} (hc : c ≠ 1) (h4 : y.fmod 4 = 0) : (!([100, 200, 300] : List Int).any fun x => x == y.fmod 400) = decide (leapI c y = 1) := by
  rw [Int.fmod_eq_emod_of_nonneg _ (by decide)] at h4 ⊢
  rw [Bool.eq_iff_iff, decide_eq_true_eq, leapG_iff c y hc]
  simp only [List.any_cons, List.any_nil, Bool.or_false, Bool.not_eq_true', Bool.or_eq_false_iff, beq_eq_false_iff_ne, ne_eq]
  omega
theorem long_3 {c y : Int} (hc : c ≠ 1) (h4 : y.fmod 4 ≠ 0) : (y.fmod 4 == 0) = decide (leapI c y = 1) := by
  rw [Int.fmod_eq_emod_of_nonneg _ (by decide)] at h4 ⊢
  rw [Bool.eq_iff_iff, decide_eq_true_eq, leapG_iff c y hc]
  simp only [beq_iff_eq]
  omega
theorem sizes_at {m : Int} (h1 : 1 ≤ m) (h2 : m ≤ 12) : ([31, 28, 31, 30, 31, 30, 31, 31, 30, 31, 30, 31] : List Int).getD (m - 1).toNat 0 = if m = 2 then 28 else if m = 4 ∨ m = 6 ∨ m = 9 ∨ m = 11 then 30 else 31 := by
  rcases months h1 h2 with h | h | h | h | h | h | h | h | h | h | h | h <;> subst h <;> rfl
theorem length_1 {c y m : Int} (h1 : 1 ≤ m) (h2 : m ≤ 12) (hm : m = 2) (hl : leapI c y = 1) : ([31, 28, 31, 30, 31, 30, 31, 31, 30, 31, 30, 31] : List Int).getD (m - 1).toNat 0 + 1 = lenI c y m := by
  rw [sizes_at h1 h2, if_pos hm]; unfold lenI; rw [if_pos hm, hl]
theorem length_2 {c y m : Int} (h1 : 1 ≤ m) (h2 : m ≤ 12) (hm : m = 2) (hl : ¬ leapI c y = 1) : ([31, 28, 31, 30, 31, 30, 31, 31, 30, 31, 30, 31] : List Int).getD (m - 1).toNat 0 + 0 = lenI c y m := by
  have h := leapI_01 c y
  rw [sizes_at h1 h2, if_pos hm]; unfold lenI; rw [if_pos hm]; omega
theorem length_3 {c y m : Int} (h1 : 1 ≤ m) (h2 : m ≤ 12) (hm : m ≠ 2) : ([31, 28, 31, 30, 31, 30, 31, 31, 30, 31, 30, 31] : List Int).getD (m - 1).toNat 0 + 0 = lenI c y m := by
  rw [sizes_at h1 h2, if_neg hm]; unfold lenI; rw [if_neg hm]; omega
theorem january_1 {c y r p : Int} (hr : r = (y - 1) / 400) (hp : p = (y - 1) % 400) (hc : c = 1) : 1721424 + 146100 * r + 365 * p + p.fdiv 4 = janI c y := by
  subst hc
  rw [janJ_eq, Int.fdiv_eq_ediv_of_nonneg _ (by decide)]; omega
theorem january_2 {c y r p : Int} (hr : r = (y - 1) / 400) (hp : p = (y - 1) % 400) (hc : c ≠ 1) : 1721426 + 146097 * r + 365 * p + p.fdiv 4 - p.fdiv 100 = janI c y := by
  unfold janI
  rw [if_neg hc, Int.fdiv_eq_ediv_of_nonneg _ (by decide), Int.fdiv_eq_ediv_of_nonneg _ (by decide)]; omega
/-- the date of the day n in the calendar c -/
def dY (c n : Int) : Int := if c = 1 then jY n else gY n
def dM (c n : Int) : Int := if c = 1 then jM n else gM n
def dD (c n : Int) : Int := if c = 1 then jD n else gD n
theorem leapI_0 {c : Int} (hc : c ≠ 1) (y : Int) : leapI c y = leapI 0 y := by unfold leapI; rw [if_neg hc, if_neg (show ¬ (0 : Int) = 1 by decide)]
theorem d_date (c n : Int) : IsDate c n (dY c n) (dM c n) (dD c n) := by
  by_cases hc : c = 1
  · subst hc; unfold dY dM dD; rw [if_pos rfl, if_pos rfl, if_pos rfl]; exact j_date n
  · unfold dY dM dD; rw [if_neg hc, if_neg hc, if_neg hc]
    have h := g_date n
    unfold IsDate dayI cumI lenI janI at h ⊢
    rw [leapI_0 hc, if_neg hc]
    rw [if_neg (show ¬ (0 : Int) = 1 by decide)] at h
    exact h
theorem d_fin {c n y m d : Int} (h1 : 1 ≤ m) (h2 : m ≤ 12) (h3 : 1 ≤ d) (h4 : d ≤ lenI c y m) (h5 : dayI c y m d = n) : y = dY c n ∧ m = dM c n ∧ d = dD c n :=
  date_unique ⟨h1, h2, h3, h4, h5⟩ (d_date c n)
theorem num_start (a c y : Int) : a = a + cumI c y ((([] : List Int).length : Int) + 1) := by
  show a = a + cumI c y 1
  rw [cumI_1]; omega
theorem num_turn {a b v k c y m : Int} {pre : List Int} (h1 : b = a + cumI c y ((pre.length : Int) + 1)) (h2 : v = b + lenI c y k) (h3 : k = 1 + (pre.length : Int)) (h4 : pre.length < (m - 1).toNat) (h5 : m ≤ 12) :
    v = a + cumI c y (((pre ++ [k]).length : Int) + 1) := by
  have e : (((pre ++ [k]).length : Nat) : Int) = (pre.length : Int) + 1 := by simp
  rw [e, cumI_step c y (by omega) (by omega), h2, h1, h3, Int.add_comm 1 (pre.length : Int)]; omega
theorem num_end {a b c y m d : Int} {l : List Int} (h1 : b = a + cumI c y ((l.length : Int) + 1)) (h2 : a = janI c y + d - 1) (hl : l.length = (m - 1).toNat) (h3 : 1 ≤ m) : b = dayI c y m d := by
  have e : (l.length : Int) + 1 = m := by omega
  rw [h1, h2, e]; unfold dayI; omega
theorem date_m1 {c n y v : Int} (h1 : v = y - 1) (h2 : n < janI c y) : (janI c v - n).toNat < (janI c y - n).toNat := by
  have h := janI_step c v
  have hl := leapI_01 c v
  have e : v + 1 = y := by omega
  rw [e] at h
  omega
theorem date_m2 {c n y v : Int} (h1 : v = y + 1) (h2 : janI c (y + 1) ≤ n) : (n - janI c v).toNat < (n - janI c y).toNat := by
  have h := janI_step c y
  have hl := leapI_01 c y
  subst h1
  omega
theorem date_s2 {c n y v : Int} (h1 : v = y + 1) (h2 : janI c (y + 1) ≤ n) : janI c v ≤ n := by subst h1; exact h2
def Dat3 (c n y m k : Int) : Prop := 1 ≤ m ∧ m ≤ 12 ∧ 0 ≤ k ∧ janI c y + cumI c y m + k = n ∧ n < janI c (y + 1)
theorem Dat3.lo {c n y m k : Int} (h : Dat3 c n y m k) : 1 ≤ m := h.1
theorem Dat3.hi {c n y m k : Int} (h : Dat3 c n y m k) : m ≤ 12 := h.2.1
theorem date_s30 {c n y k : Int} (h1 : k = n - janI c y) (h2 : janI c y ≤ n) (h3 : ¬ janI c (y + 1) ≤ n) : Dat3 c n y 1 k := by
  refine ⟨by omega, by omega, by omega, ?_, by omega⟩
  rw [cumI_1]; omega
theorem date_12 {c n y m k : Int} (h : Dat3 c n y m k) (h2 : lenI c y m ≤ k) : m ≤ 11 := by
  obtain ⟨a1, a2, a3, a4, a5⟩ := h
  by_cases e : m = 12
  · subst e
    have s := cumI_step c y (m := 12) (by omega) (by omega)
    have s13 := cumI_13 c y
    have hj := janI_step c y
    have e13 : (12 : Int) + 1 = 13 := rfl
    rw [e13] at s
    omega
  · omega
theorem date_s3 {c n y m k m' k' : Int} (h : Dat3 c n y m k) (h1 : k' = k - lenI c y m) (h2 : lenI c y m ≤ k) (h3 : m' = m + 1) : Dat3 c n y m' k' := by
  have h12 := date_12 h h2
  obtain ⟨a1, a2, a3, a4, a5⟩ := h
  have s := cumI_step c y a1 a2
  subst h3
  refine ⟨by omega, by omega, by omega, by omega, a5⟩
theorem date_m3 {c n y m k m' : Int} (h : Dat3 c n y m k) (h2 : lenI c y m ≤ k) (h3 : m' = m + 1) : (12 - m').toNat < (12 - m).toNat := by
  have h12 := date_12 h h2
  omega
theorem date_end {c n y m k : Int} (h : Dat3 c n y m k) (h2 : ¬ lenI c y m ≤ k) : y = dY c n ∧ m = dM c n ∧ k + 1 = dD c n := by
  obtain ⟨a1, a2, a3, a4, a5⟩ := h
  exact d_fin a1 a2 (by omega) (by omega) (by unfold dayI; omega)
theorem day_lo {v d c y m : Int} (h : v = 1 + (d - 1).fmod (lenI c y m)) : 0 < v := by
  have hl := lenI_ge c y m
  rw [Int.fmod_eq_emod_of_nonneg _ (by omega)] at h
  have := Int.emod_nonneg (d - 1) (show lenI c y m ≠ 0 by omega)
  omega
theorem day_hi {v d c y m : Int} (h : v = 1 + (d - 1).fmod (lenI c y m)) : v ≤ lenI c y m := by
  have hl := lenI_ge c y m
  rw [Int.fmod_eq_emod_of_nonneg _ (by omega)] at h
  have := Int.emod_lt_of_pos (d - 1) (show 0 < lenI c y m by omega)
  omega
end Mine
open PySem PySem.W PyProof.Rows
set_option Elab.async false
/- The head. -/
namespace Mine
set_option maxRecDepth 100000 in
set_option maxHeartbeats 8000000 in
open_top hd for PySem.Challenge.rw_aq6012_01
end Mine
/- The walk: each def once, by a contract. -/
namespace Mine
theorem fmtS_eq : Str.ofString "Month {} doesn't have a day {}" = Str.mk #[77, 111, 110, 116, 104, 32, 123, 125, 32, 100, 111, 101, 115, 110, 39, 116, 32, 104, 97, 118, 101, 32, 97, 32, 100, 97, 121, 32, 123, 125] := by rfl
set_option maxRecDepth 100000 in
set_option maxHeartbeats 400000 in
theorem fmt_run {prog : Program} {w : World} {A : Around} {E : Value → Shared → Prop} {s : Shared} {Q : Value → Shared → Prop} {m d : Int} {t t1 t2 : Tok}
    (h1 : 0 ≤ m) (h2 : m < 10000000000) (h3 : 0 ≤ d) (h4 : d < 10000000000) (h : ∀ x t' k, Q (.str x t') { s with toks := k }) :
    wpAny (model prog w) A (call (.builtin "str.format") [.str (Str.ofString "Month {} doesn't have a day {}") t, .int m t1, .int d t2]) Q E s := by
  refine' KFm.call_k fmtS_eq ?kfmg ?kfmm ?_
  case kfmg => exact KFm.args_3 _ _ _
  case kfmm =>
    with_unfolding_all apply KPc.meets_of
    intro _ _ _ _ _ _ _
    unfold Builtin.«str.format»
    refine wpAny_bind (wpAny_of_eq (a := (_, _, _)) rfl ?_)
    refine wpAny_bind ?_
    unfold Builtin.Str.buildString
    refine wpAny_bind ?_
    rw [KPc.range_list]
    refine KFm.start ?_
    intro _ _
    k_dflt kfm_turns
  intro t' k'
  exact h _ _ _
end Mine
namespace Mine
/-- what comes back: a plain value; the ledger as it was -/
def RetV (news : List (Addr × Obj)) (R : Tok → Value) (h₀ : Heap) (L : Addr) (m : Str → Option Value) (s : Shared) (Q : Value → Shared → Prop) : Prop :=
  ∀ (t : Tok) (h' : Heap) (tk' : Nat), Fr h₀ L h' m → News h₀ L h' news → Q (R t) { s with heap := h', toks := tk' }
/-- what a call of the def at f does, whatever frame calls it, with room for d frames more -/
def Cl (d : Nat) (w : World) (mean : ExcName → Option Value) (mg mb : Str → Option Value) (f : Addr) (news : List (Addr × Obj)) (vs : List Value)
    (Ret : Heap → Addr → (Str → Option Value) → Shared → (Value → Shared → Prop) → Prop) : Prop :=
  ∀ (dp un : Nat) (gd : Option (List Code)) (cn : Str) (cs : Scope) (a : Addr) (ccd : Value) (cl : List (Str × Addr)) (outer : List Env) (A₀ : Around) (base h₀ : Heap) (L : Addr) (m : Str → Option Value) (s : Shared) (Q E : Value → Shared → Prop),
    Below A₀ base outer h₀ → Fr h₀ L s.heap m → (Mine.hd.heap_39 w.params).In h₀ → News h₀ L s.heap news →
    Top Mine.hd.view_39 (looseW Mine.hd.view_39
      [Str.ofString "legal_date_gregorian", Str.ofString "to_jd_gregorian", Str.ofString "from_jd_gregorian",
        Str.ofString "legal_date_julian", Str.ofString "from_jd_julian", Str.ofString "to_jd_julian"]) mean mg mb h₀ →
    cs.kind = .function → dp + d < recursionLimit → un + 8 * d < cLine → Ret h₀ L m s Q →
      wpAny (model PySem.Challenge.rw_aq6012_01.row.prog w) (ktrTop dp un gd cn cs L a ccd cl outer) (call (.ref f) vs) Q E s
theorem Cl.use {d : Nat} {w : World} {mean : ExcName → Option Value} {mg mb : Str → Option Value} {f : Addr} {news : List (Addr × Obj)} {vs : List Value}
    {Ret : Heap → Addr → (Str → Option Value) → Shared → (Value → Shared → Prop) → Prop} (C : Cl d w mean mg mb f news vs Ret)
    {dp un : Nat} {gd : Option (List Code)} {cn : Str} {cs : Scope} {a : Addr} {ccd : Value} {cl : List (Str × Addr)} {outer : List Env} {A₀ : Around} {base h₀ : Heap} {L : Addr} {m : Str → Option Value} {s : Shared} {Q E : Value → Shared → Prop}
    (B : Below A₀ base outer h₀) (F : Fr h₀ L s.heap m) (X : (Mine.hd.heap_39 w.params).In h₀) (N : News h₀ L s.heap news)
    (T : Top Mine.hd.view_39 (looseW Mine.hd.view_39
      [Str.ofString "legal_date_gregorian", Str.ofString "to_jd_gregorian", Str.ofString "from_jd_gregorian",
        Str.ofString "legal_date_julian", Str.ofString "from_jd_julian", Str.ofString "to_jd_julian"]) mean mg mb h₀)
    (hk : cs.kind = .function) (hd : dp + d < recursionLimit) (hu : un + 8 * d < cLine) (ret : Ret h₀ L m s Q) :
    wpAny (model PySem.Challenge.rw_aq6012_01.row.prog w) (ktrTop dp un gd cn cs L a ccd cl outer) (call (.ref f) vs) Q E s :=
  C dp un gd cn cs a ccd cl outer A₀ base h₀ L m s Q E B F X N T hk hd hu ret
theorem RetV.fin {news : List (Addr × Obj)} {R : Tok → Value} {h₀ : Heap} {L : Addr} {m : Str → Option Value} {s : Shared} {Q : Value → Shared → Prop}
    (ret : RetV news R h₀ L m s Q) {v : Value} {h' : Heap} {tk' : Nat} (t : Tok) (e : v = R t) (F : Fr h₀ L h' m) (N : News h₀ L h' news) : Q v { s with heap := h', toks := tk' } := by
  subst e; exact ret t h' tk' F N

theorem RetV.finI {news : List (Addr × Obj)} {h₀ : Heap} {L : Addr} {m : Str → Option Value} {s : Shared} {Q : Value → Shared → Prop} {x y : Int} {t : Tok} {h' : Heap} {tk' : Nat}
    (ret : RetV news (fun t => .int x t) h₀ L m s Q) (e : y = x) (F : Fr h₀ L h' m) (N : News h₀ L h' news) : Q (.int y t) { s with heap := h', toks := tk' } := by
  subst e; exact ret t h' tk' F N
theorem in_tup_K {prog : Program} {w : World} {A : Around} {E : Value → Shared → Prop} {s : Shared} {h₀ : Heap} {L a : Addr} {m : Str → Option Value} {K : Frag} {n : Nat} {x : Int} {t : Tok} {l : List Value} {dd : Option Addr} {sl : Array (Option Value)} {ns : List Int} {b : Bool} {Q : Value → Shared → Prop}
    (F : Fr h₀ L s.heap m) (X₀ : K.In h₀) (hl : K.lookup a = some ⟨.type "tuple", dd, .seq l.toArray n, sl⟩) (hi : IntsAre l ns) (e : ns.any (· == x) = b) (h : Q (.bool b) s) :
    wpAny (model prog w) A (compareOp .In (.int x t) (.ref a)) Q E s :=
  in_tuple_ints (tupK (X₀.keeps F.keep) hl) (by simpa using hi) (by rw [e]; exact h)
theorem have30_eq (m : Int) : ([4, 6, 9, 11] : List Int).any (· == m) = decide (m = 4 ∨ m = 6 ∨ m = 9 ∨ m = 11) := by
  rw [Bool.eq_iff_iff]
  simp only [List.any_cons, List.any_nil, Bool.or_false, Bool.or_eq_true, beq_iff_eq, decide_eq_true_eq]
  omega
theorem fdivP (a : Int) {b : Int} (h : 0 ≤ b) : a.fdiv b = a / b := Int.fdiv_eq_ediv_of_nonneg a h
theorem fmodP (a : Int) {b : Int} (h : 0 ≤ b) : a.fmod b = a % b := Int.fmod_eq_emod_of_nonneg a h
section
variable {M : Model} {A : Around} {E : Value → Shared → Prop} {s : Shared} {env : Env} {x : Str} {a b : Int} {t : Tok} {Q : Unit → Shared → Prop}
theorem gs_add (h : ∀ (v : Int) (t : Tok), v = a + b → wpAny M A (storeName env x (.int v t)) Q E s) : wpAny M A (storeName env x (.int (a + b) t)) Q E s := h _ _ rfl
theorem gs_sub (h : ∀ (v : Int) (t : Tok), v = a - b → wpAny M A (storeName env x (.int v t)) Q E s) : wpAny M A (storeName env x (.int (a - b) t)) Q E s := h _ _ rfl
theorem gs_mul (h : ∀ (v : Int) (t : Tok), v = a * b → wpAny M A (storeName env x (.int v t)) Q E s) : wpAny M A (storeName env x (.int (a * b) t)) Q E s := h _ _ rfl
theorem gs_fdiv (h0 : 0 ≤ b) (h : ∀ (v : Int) (t : Tok), v = a / b → wpAny M A (storeName env x (.int v t)) Q E s) : wpAny M A (storeName env x (.int (a.fdiv b) t)) Q E s := h _ _ (fdivP a h0)
theorem gs_fmod (h0 : 0 ≤ b) (h : ∀ (v : Int) (t : Tok), v = a % b → wpAny M A (storeName env x (.int v t)) Q E s) : wpAny M A (storeName env x (.int (a.fmod b) t)) Q E s := h _ _ (fmodP a h0)
theorem gs_tok (h : ∀ (t : Tok), wpAny M A (storeName env x (.int a t)) Q E s) : wpAny M A (storeName env x (.int a t)) Q E s := h _
end
/-- what comes back: a new tuple of three ints, ahead of the ledger -/
def RetT (news : List (Addr × Obj)) (x y z : Int) (h₀ : Heap) (L : Addr) (m : Str → Option Value) (s : Shared) (Q : Value → Shared → Prop) : Prop :=
  ∀ (D : Addr) (t1 t2 t3 : Tok) (h' : Heap) (tk' : Nat), Fr h₀ L h' m → News h₀ L h' ((D, ({ cls := .type "tuple", data := .seq [Value.int x t1, Value.int y t2, Value.int z t3].toArray } : Obj)) :: news) → (∀ p ∈ news, p.1 < D) → Q (.ref D) { s with heap := h', toks := tk' }
theorem RetT.fin {news : List (Addr × Obj)} {x y z x' y' z' : Int} {h₀ : Heap} {L : Addr} {m : Str → Option Value} {s : Shared} {Q : Value → Shared → Prop} {D : Addr} {t1 t2 t3 : Tok} {h' : Heap} {tk' : Nat}
    (ret : RetT news x y z h₀ L m s Q) (F : Fr h₀ L h' m) (N : News h₀ L h' ((D, ({ cls := .type "tuple", data := .seq [Value.int x' t1, Value.int y' t2, Value.int z' t3].toArray } : Obj)) :: news)) (l : ∀ p ∈ news, p.1 < D)
    (e : x' = x ∧ y' = y ∧ z' = z) : Q (.ref D) { s with heap := h', toks := tk' } := by
  obtain ⟨rfl, rfl, rfl⟩ := e
  exact ret D t1 t2 t3 h' tk' F N l
theorem RetT.fin2 {news : List (Addr × Obj)} {x y z x' y' z' : Int} {h₀ : Heap} {L : Addr} {m : Str → Option Value} {s : Shared} {Q : Value → Shared → Prop} {D D1 : Addr} {o1 : Obj} {P1 : Prop} {t1 t2 t3 : Tok} {h' : Heap} {tk' : Nat}
    (ret : RetT news x y z h₀ L m s Q) (F : Fr h₀ L h' m) (N : News h₀ L h' ((D, ({ cls := .type "tuple", data := .seq [Value.int x' t1, Value.int y' t2, Value.int z' t3].toArray } : Obj)) :: (D1, o1) :: news)) (l : P1 ∧ AllLt D news)
    (e : x' = x ∧ y' = y ∧ z' = z) : Q (.ref D) { s with heap := h', toks := tk' } := by
  refine RetT.fin (t1 := t1) (t2 := t2) (t3 := t3) ret F (fun p hp => N p ?_) (kst_ltOf l.2) e
  cases hp with
  | head => exact .head _
  | tail _ h => exact .tail _ (.tail _ h)
end Mine
namespace Mine
local macro_rules | `(tactic| walk_at "compareOp In int ref") => `(tactic| (k_here; (with_reducible show wpAny _ _ (compareOp CmpOp.In (Value.int _ _) (Value.ref _)) _ _ _); k_dflt (refine' in_tup_K ?F ?X ?l ?i ?e ?_; (case F => k_asm); (case X => k_asm); (case l => k_is); (case i => (repeat' (first | exact IntsAre.nil | refine' IntsAre.cons _ _ ?_))); (case e => exact have30_eq _); k_whole)))
local macro_rules | `(tactic| walk_at "eval Call") => `(tactic| (k_here; (with_reducible show wpAny _ _ (eval (Expr.Call (Expr.Name _ _) _ [] _) _) _ _ _); k_dflt (refine Call_ ?_)))
local macro_rules | `(tactic| walk_at "storeName") => `(tactic| (k_here; (with_reducible show wpAny _ _ (storeName _ _ (Value.int _ _)) _ _ _); (first | (refine gs_add ?_; intro v' t' hv') | (refine gs_sub ?_; intro v' t' hv') | (refine gs_mul ?_; intro v' t' hv') | (refine gs_fdiv (by decide) ?_; intro v' t' hv') | (refine gs_fmod (by decide) ?_; intro v' t' hv') | (refine gs_tok ?_; intro t')); k_dflt (refine' storeX_L ?F ?N ?_ ?a ?b; (case F => k_asm); (case N => k_asm); (case a => rfl); (case b => rfl); k_whole; intro h' F' N'; (try k_sweep))))
set_option maxRecDepth 100000 in
set_option maxHeartbeats 8000000 in
theorem isleap_c (w : World) (mean : ExcName → Option Value) (mg mb : Str → Option Value) (news : List (Addr × Obj)) (y : Int) (t : Tok) :
    Cl 1 w mean mg mb 21 news [.int y t] (RetV news fun _ => .bool (decide (leapI 0 y = 1))) := by
  w_on
  unfold Cl
  k_fill
  intro dp un gd cn cs a ccd cl outer A₀ base h₀ L mm s Q E hB hF hX hN hT hk hd hu hret
  refine wpAny_call ?_
  k_dflt cell_enter
  (rename_i F0 _ _ _ _; have F1 : Fr _ _ _ (fun z9 => List.lookup z9 [(Str.ofString "year", .int y t)]) := F0; clear F0)
  k_steps
  all_goals (refine RetV.fin hret 0 (congrArg Value.bool ?_) (by k_asm) (by k_asm); rw [Bool.eq_iff_iff, decide_eq_true_eq, leapG_iff 0 y (by decide), ← fmodP y (show (0:Int) ≤ 4 by decide), ← fmodP y (show (0:Int) ≤ 100 by decide), ← fmodP y (show (0:Int) ≤ 400 by decide)]; simp [*])
local macro_rules | `(tactic| walk_at "call ref") => `(tactic| (k_here; k_dflt (refine' Cl.use (isleap_c _ _ _ _ _ _ _ ) ?k1 ?k2 ?k3 ?k4 ?k5 ?kK ?kd ?ku ?_;  (case k1 => k_asm); (case k2 => k_asm); (case k3 => k_asm); (case k4 => k_asm); (case k5 => k_asm); (case kK => first | exact rfl | assumption); (case kd => ktr_room); (case ku => ktr_units); k_whole; intro t9 h9 tk9 F9 N9; (try dsimp only); (try k_sweep); (try k_fold))))
set_option maxRecDepth 100000 in
set_option maxHeartbeats 8000000 in
theorem legalG_c (w : World) (mean : ExcName → Option Value) (mg mb : Str → Option Value) (news : List (Addr × Obj)) (y m d : Int) (t1 t2 t3 : Tok) (h1 : 0 < d) (h2 : d ≤ lenI 0 y m) :
    Cl 2 w mean mg mb 29 news [.int y t1, .int m t2, .int d t3] (RetV news fun _ => .bool true) := by
  w_on
  unfold Cl
  k_fill
  intro dp un gd cn cs a ccd cl outer A₀ base h₀ L mm s Q E hB hF hX hN hT hk hd hu hret
  have hf := lenI_facts 0 y m
  refine wpAny_call ?_
  k_dflt cell_enter
  (rename_i F0 _ _ _ _; have F1 : Fr _ _ _ (fun z9 => List.lookup z9 [(Str.ofString "day", .int d t3), (Str.ofString "month", .int m t2), (Str.ofString "year", .int y t1)]) := F0; clear F0)
  k_steps
  all_goals (refine RetV.fin hret 0 rfl (by k_asm) (by k_asm))
local macro_rules | `(tactic| walk_at "call ref") => `(tactic| (k_here; k_dflt (refine' Cl.use (legalG_c _ _ _ _ _ _ _ _ _ _ _ ?p1 ?p2) ?k1 ?k2 ?k3 ?k4 ?k5 ?kK ?kd ?ku ?_; (case p1 => first | assumption | exact day_lo (by assumption) | omega); (case p2 => first | assumption | exact day_hi (by assumption) | exact Int.le_trans (by omega) (lenI_ge _ _ _).1); (case k1 => k_asm); (case k2 => k_asm); (case k3 => k_asm); (case k4 => k_asm); (case k5 => k_asm); (case kK => first | exact rfl | assumption); (case kd => ktr_room); (case ku => ktr_units); k_whole; intro t9 h9 tk9 F9 N9; (try dsimp only); (try k_sweep); (try k_fold))))
set_option maxRecDepth 100000 in
set_option maxHeartbeats 8000000 in
theorem tojdG_c (w : World) (mean : ExcName → Option Value) (mg mb : Str → Option Value) (news : List (Addr × Obj)) (y m d : Int) (t1 t2 t3 : Tok) (h1 : 0 < d) (h2 : d ≤ lenI 0 y m) :
    Cl 3 w mean mg mb 36 news [.int y t1, .int m t2, .int d t3] (RetV news fun t => .int (dayI 0 y m d) t) := by
  w_on
  unfold Cl
  k_fill
  intro dp un gd cn cs a ccd cl outer A₀ base h₀ L mm s Q E hB hF hX hN hT hk hd hu hret
  have hl := leapI_01 0 y
  refine wpAny_call ?_
  k_dflt cell_enter
  (rename_i F0 _ _ _ _; have F1 : Fr _ _ _ (fun z9 => List.lookup z9 [(Str.ofString "day", .int d t3), (Str.ofString "month", .int m t2), (Str.ofString "year", .int y t1)]) := F0; clear F0)
  k_steps
  all_goals (refine RetV.finI hret ?_ (by k_asm) (by k_asm); simp only [dayI, cumI, janG_eq, fdivP _ (show (0:Int) ≤ 4 by decide), fdivP _ (show (0:Int) ≤ 100 by decide), fdivP _ (show (0:Int) ≤ 400 by decide), fdivP _ (show (0:Int) ≤ 12 by decide), if_true, if_false, *]; omega)
local macro_rules | `(tactic| walk_at "call ref") => `(tactic| (k_here; k_dflt (refine' Cl.use (tojdG_c _ _ _ _ _ _ _ _ _ _ _ ?p1 ?p2) ?k1 ?k2 ?k3 ?k4 ?k5 ?kK ?kd ?ku ?_; (case p1 => first | assumption | exact day_lo (by assumption) | omega); (case p2 => first | assumption | exact day_hi (by assumption) | exact Int.le_trans (by omega) (lenI_ge _ _ _).1); (case k1 => k_asm); (case k2 => k_asm); (case k3 => k_asm); (case k4 => k_asm); (case k5 => k_asm); (case kK => first | exact rfl | assumption); (case kd => ktr_room); (case ku => ktr_units); k_whole; intro t9 h9 tk9 F9 N9; (try dsimp only); (try k_sweep); (try k_fold))))
set_option maxRecDepth 100000 in
set_option maxHeartbeats 8000000 in
theorem fromjdG_c (w : World) (mean : ExcName → Option Value) (mg mb : Str → Option Value) (news : List (Addr × Obj)) (n : Int) (t : Tok) :
    Cl 4 w mean mg mb 43 news [.int n t] (RetT news (gY n) (gM n) (gD n)) := by
  w_on
  unfold Cl
  k_fill
  intro dp un gd cn cs a ccd cl outer A₀ base h₀ L mm s Q E hB hF hX hN hT hk hd hu hret
  refine wpAny_call ?_
  k_dflt cell_enter
  (rename_i F0 _ _ _ _; have F1 : Fr _ _ _ (fun z9 => List.lookup z9 [(Str.ofString "jd", .int n t)]) := F0; clear F0)
  k_steps
  all_goals (refine RetT.fin hret (by k_asm) (by k_asm) (by k_asm) ?_)
  all_goals (exact g_fin (by assumption) (by assumption) (by assumption) (by assumption) (by assumption) (by assumption) (by assumption) (by assumption) (by assumption) (by first | exact .inl ⟨.inl (by assumption), rfl⟩ | exact .inl ⟨.inr (by assumption), rfl⟩ | exact .inr ⟨by assumption, by assumption, by assumption⟩) (by assumption) (by assumption) (by assumption) (by first | exact .inl ⟨by assumption, rfl⟩ | exact .inr (.inl ⟨by assumption, by assumption, rfl⟩) | exact .inr (.inr ⟨by assumption, by assumption, rfl⟩)))
local macro_rules | `(tactic| walk_at "call ref") => `(tactic| (k_here; k_dflt (refine' Cl.use (fromjdG_d _ _ _ _ _ _ _ ) ?k1 ?k2 ?k3 ?k4 ?k5 ?kK ?kd ?ku ?_;  (case k1 => k_asm); (case k2 => k_asm); (case k3 => k_asm); (case k4 => k_asm); (case k5 => k_asm); (case kK => first | exact rfl | assumption); (case kd => ktr_room); (case ku => ktr_units); k_whole; intro D9 t91 t92 t93 h9 tk9 F9 N9 l9; (try dsimp only); (try k_lt l9); (try k_sweep); (try k_fold))))
end Mine
namespace Mine
local macro_rules | `(tactic| walk_at "compareOp In int ref") => `(tactic| (k_here; (with_reducible show wpAny _ _ (compareOp CmpOp.In (Value.int _ _) (Value.ref _)) _ _ _); k_dflt (refine' in_tup_K ?F ?X ?l ?i ?e ?_; (case F => k_asm); (case X => k_asm); (case l => k_is); (case i => (repeat' (first | exact IntsAre.nil | refine' IntsAre.cons _ _ ?_))); (case e => exact have30_eq _); k_whole)))
local macro_rules | `(tactic| walk_at "eval Call") => `(tactic| (k_here; (with_reducible show wpAny _ _ (eval (Expr.Call (Expr.Name _ _) _ [] _) _) _ _ _); k_dflt (refine Call_ ?_)))
local macro_rules | `(tactic| walk_at "storeName") => `(tactic| (k_here; (with_reducible show wpAny _ _ (storeName _ _ (Value.int _ _)) _ _ _); (first | (refine gs_add ?_; intro v' t' hv') | (refine gs_sub ?_; intro v' t' hv') | (refine gs_mul ?_; intro v' t' hv') | (refine gs_fdiv (by decide) ?_; intro v' t' hv') | (refine gs_fmod (by decide) ?_; intro v' t' hv') | (refine gs_tok ?_; intro t')); k_dflt (refine' storeX_L ?F ?N ?_ ?a ?b; (case F => k_asm); (case N => k_asm); (case a => rfl); (case b => rfl); k_whole; intro h' F' N'; (try k_sweep))))
set_option maxRecDepth 100000 in
set_option maxHeartbeats 8000000 in
theorem leap_c (w : World) (mean : ExcName → Option Value) (mg mb : Str → Option Value) (news : List (Addr × Obj)) (y : Int) (t : Tok) :
    Cl 1 w mean mg mb 51 news [.int y t] (RetV news fun _ => .bool (decide (leapI 1 y = 1))) := by
  w_on
  unfold Cl
  k_fill
  intro dp un gd cn cs a ccd cl outer A₀ base h₀ L mm s Q E hB hF hX hN hT hk hd hu hret
  refine wpAny_call ?_
  k_dflt cell_enter
  (rename_i F0 _ _ _ _; have F1 : Fr _ _ _ (fun z9 => List.lookup z9 [(Str.ofString "year", .int y t)]) := F0; clear F0)
  k_steps
  all_goals (refine RetV.fin hret 0 (congrArg Value.bool ?_) (by k_asm) (by k_asm); rw [Bool.eq_iff_iff, decide_eq_true_eq, leapJ_iff y, ← fmodP y (show (0:Int) ≤ 4 by decide)]; simp)
local macro_rules | `(tactic| walk_at "call ref") => `(tactic| (k_here; k_dflt (refine' Cl.use (leap_c _ _ _ _ _ _ _ ) ?k1 ?k2 ?k3 ?k4 ?k5 ?kK ?kd ?ku ?_;  (case k1 => k_asm); (case k2 => k_asm); (case k3 => k_asm); (case k4 => k_asm); (case k5 => k_asm); (case kK => first | exact rfl | assumption); (case kd => ktr_room); (case ku => ktr_units); k_whole; intro t9 h9 tk9 F9 N9; (try dsimp only); (try k_sweep); (try k_fold))))
set_option maxRecDepth 100000 in
set_option maxHeartbeats 8000000 in
theorem mlen_c (w : World) (mean : ExcName → Option Value) (mg mb : Str → Option Value) (news : List (Addr × Obj)) (y m : Int) (t1 t2 : Tok) :
    Cl 2 w mean mg mb 58 news [.int y t1, .int m t2] (RetV news fun t => .int (lenI 1 y m) t) := by
  w_on
  unfold Cl
  k_fill
  intro dp un gd cn cs a ccd cl outer A₀ base h₀ L mm s Q E hB hF hX hN hT hk hd hu hret
  have hf := lenI_facts 1 y m
  refine wpAny_call ?_
  k_dflt cell_enter
  (rename_i F0 _ _ _ _; have F1 : Fr _ _ _ (fun z9 => List.lookup z9 [(Str.ofString "month", .int m t2), (Str.ofString "year", .int y t1)]) := F0; clear F0)
  k_steps
  all_goals (refine RetV.finI hret ?_ (by k_asm) (by k_asm); omega)
local macro_rules | `(tactic| walk_at "call ref") => `(tactic| (k_here; k_dflt (refine' Cl.use (mlen_c _ _ _ _ _ _ _ _ _ ) ?k1 ?k2 ?k3 ?k4 ?k5 ?kK ?kd ?ku ?_;  (case k1 => k_asm); (case k2 => k_asm); (case k3 => k_asm); (case k4 => k_asm); (case k5 => k_asm); (case kK => first | exact rfl | assumption); (case kd => ktr_room); (case ku => ktr_units); k_whole; intro t9 h9 tk9 F9 N9; (try dsimp only); (try k_sweep); (try k_fold))))
set_option maxRecDepth 100000 in
set_option maxHeartbeats 8000000 in
theorem legalJ_c (w : World) (mean : ExcName → Option Value) (mg mb : Str → Option Value) (news : List (Addr × Obj)) (y m d : Int) (t1 t2 t3 : Tok) (h1 : 0 < d) (h2 : d ≤ lenI 1 y m) :
    Cl 3 w mean mg mb 65 news [.int y t1, .int m t2, .int d t3] (RetV news fun _ => .bool true) := by
  w_on
  unfold Cl
  k_fill
  intro dp un gd cn cs a ccd cl outer A₀ base h₀ L mm s Q E hB hF hX hN hT hk hd hu hret
  refine wpAny_call ?_
  k_dflt cell_enter
  (rename_i F0 _ _ _ _; have F1 : Fr _ _ _ (fun z9 => List.lookup z9 [(Str.ofString "day", .int d t3), (Str.ofString "month", .int m t2), (Str.ofString "year", .int y t1)]) := F0; clear F0)
  k_steps
  all_goals (refine RetV.fin hret 0 rfl (by k_asm) (by k_asm))
local macro_rules | `(tactic| walk_at "call ref") => `(tactic| (k_here; k_dflt (refine' Cl.use (legalJ_c _ _ _ _ _ _ _ _ _ _ _ ?p1 ?p2) ?k1 ?k2 ?k3 ?k4 ?k5 ?kK ?kd ?ku ?_; (case p1 => first | assumption | exact day_lo (by assumption) | omega); (case p2 => first | assumption | exact day_hi (by assumption) | exact Int.le_trans (by omega) (lenI_ge _ _ _).1); (case k1 => k_asm); (case k2 => k_asm); (case k3 => k_asm); (case k4 => k_asm); (case k5 => k_asm); (case kK => first | exact rfl | assumption); (case kd => ktr_room); (case ku => ktr_units); k_whole; intro t9 h9 tk9 F9 N9; (try dsimp only); (try k_sweep); (try k_fold))))
set_option maxRecDepth 100000 in
set_option maxHeartbeats 8000000 in
theorem tojdJ_c (w : World) (mean : ExcName → Option Value) (mg mb : Str → Option Value) (news : List (Addr × Obj)) (y m d : Int) (t1 t2 t3 : Tok) (h1 : 0 < d) (h2 : d ≤ lenI 1 y m) (h3 : 1 ≤ m) (h4 : m ≤ 12) :
    Cl 4 w mean mg mb 79 news [.int y t1, .int m t2, .int d t3] (RetV news fun t => .int (dayI 1 y m d) t) := by
  w_on
  unfold Cl
  k_fill
  intro dp un gd cn cs a ccd cl outer A₀ base h₀ L mm s Q E hB hF hX hN hT hk hd hu hret
  refine wpAny_call ?_
  k_dflt cell_enter
  (rename_i F0 _ _ _ _; have F1 : Fr _ _ _ (fun z9 => List.lookup z9 [(Str.ofString "day", .int d t3), (Str.ofString "month", .int m t2), (Str.ofString "year", .int y t1)]) := F0; clear F0)
  k_steps
  all_goals (refine RetV.finI hret ?_ (by k_asm) (by k_asm); simp only [fdivP _ (show (0:Int) ≤ 4 by decide), fdivP _ (show (0:Int) ≤ 10000 by decide)]; rw [dayJ_eq y h3 h4]; first | (rw [if_pos (by assumption)] <;> omega) | (rw [if_neg (by assumption)] <;> omega))
local macro_rules | `(tactic| walk_at "call ref") => `(tactic| (k_here; k_dflt (refine' Cl.use (tojdJ_c _ _ _ _ _ _ _ _ _ _ _ ?p1 ?p2 ?p3 ?p4) ?k1 ?k2 ?k3 ?k4 ?k5 ?kK ?kd ?ku ?_; (case p1 => first | assumption | exact day_lo (by assumption) | omega); (case p2 => first | assumption | exact day_hi (by assumption) | exact Int.le_trans (by omega) (lenI_ge _ _ _).1); (case p3 => first | assumption | omega); (case p4 => first | assumption | omega); (case k1 => k_asm); (case k2 => k_asm); (case k3 => k_asm); (case k4 => k_asm); (case k5 => k_asm); (case kK => first | exact rfl | assumption); (case kd => ktr_room); (case ku => ktr_units); k_whole; intro t9 h9 tk9 F9 N9; (try dsimp only); (try k_sweep); (try k_fold))))
set_option maxRecDepth 100000 in
set_option maxHeartbeats 8000000 in
theorem fromjdJ_c (w : World) (mean : ExcName → Option Value) (mg mb : Str → Option Value) (news : List (Addr × Obj)) (n : Int) (t : Tok) :
    Cl 1 w mean mg mb 72 news [.int n t] (RetT news (jY n) (jM n) (jD n)) := by
  w_on
  unfold Cl
  k_fill
  intro dp un gd cn cs a ccd cl outer A₀ base h₀ L mm s Q E hB hF hX hN hT hk hd hu hret
  refine wpAny_call ?_
  k_dflt cell_enter
  (rename_i F0 _ _ _ _; have F1 : Fr _ _ _ (fun z9 => List.lookup z9 [(Str.ofString "jd", .int n t)]) := F0; clear F0)
  k_steps
  all_goals (refine RetT.fin hret (by k_asm) (by k_asm) (by k_asm) ?_)
  all_goals (exact j_fin (by assumption) (by assumption) (by assumption) (by assumption) (by first | exact .inl ⟨by assumption, by assumption⟩ | exact .inr ⟨by assumption, by assumption⟩) (by first | exact .inl ⟨by omega, by assumption⟩ | exact .inr ⟨by omega, by assumption⟩) (by assumption))
end Mine
namespace Mine
local macro_rules | `(tactic| walk_at "eval Call") => `(tactic| (k_here; (with_reducible show wpAny _ _ (eval (Expr.Call (Expr.Name _ _) _ [] _) _) _ _ _); k_dflt (refine Call_ ?_)))
local macro_rules | `(tactic| walk_at "storeName") => `(tactic| (k_here; (with_reducible show wpAny _ _ (storeName _ _ (Value.int _ _)) _ _ _); (first | (refine gs_add ?_; intro v' t' hv') | (refine gs_sub ?_; intro v' t' hv') | (refine gs_mul ?_; intro v' t' hv') | (refine gs_fdiv (by decide) ?_; intro v' t' hv') | (refine gs_fmod (by decide) ?_; intro v' t' hv') | (refine gs_tok ?_; intro t')); k_dflt (refine' storeX_L ?F ?N ?_ ?a ?b; (case F => k_asm); (case N => k_asm); (case a => rfl); (case b => rfl); k_whole; intro h' F' N'; (try k_sweep))))
set_option maxRecDepth 100000 in
set_option maxHeartbeats 8000000 in
theorem long_c (w : World) (mean : ExcName → Option Value) (mg mb : Str → Option Value) (news : List (Addr × Obj)) (c y : Int) (t1 t2 : Tok) :
    Cl 1 w mean mg mb 157 news [.int c t1, .int y t2] (RetV news fun _ => .bool (decide (leapI c y = 1))) := by
  w_on
  unfold Cl
  k_fill
  intro dp un gd cn cs a ccd cl outer A₀ base h₀ L mm s Q E hB hF hX hN hT hk hd hu hret
  refine wpAny_call ?_
  k_dflt cell_enter
  (rename_i F0 _ _ _ _; have F1 : Fr _ _ _ (fun z9 => List.lookup z9 [(Str.ofString "year", .int y t2), (Str.ofString "calendar", .int c t1)]) := F0; clear F0)
  k_steps
  all_goals (refine RetV.fin hret 0 (congrArg Value.bool ?_) (by k_asm) (by first | k_asm | exact cb_drop (by assumption) (fun _ hp => List.Mem.tail _ hp)))
  all_goals (first | exact long_1 (by assumption) | exact long_2 (by assumption) (by assumption) | exact long_3 (by assumption) (by assumption))
local macro_rules | `(tactic| walk_at "call ref") => `(tactic| (k_here; k_dflt (refine' Cl.use (long_c _ _ _ _ _ _ _ _ _ ) ?k1 ?k2 ?k3 ?k4 ?k5 ?kK ?kd ?ku ?_;  (case k1 => k_asm); (case k2 => k_asm); (case k3 => k_asm); (case k4 => k_asm); (case k5 => k_asm); (case kK => first | exact rfl | assumption); (case kd => ktr_room); (case ku => ktr_units); k_whole; intro t9 h9 tk9 F9 N9; (try dsimp only); (try k_sweep); (try k_fold))))
set_option maxRecDepth 100000 in
set_option maxHeartbeats 8000000 in
theorem length_c (w : World) (mean : ExcName → Option Value) (mg mb : Str → Option Value) (news : List (Addr × Obj)) (c y m : Int) (t1 t2 t3 : Tok) (h1 : 1 ≤ m) (h2 : m ≤ 12) :
    Cl 2 w mean mg mb 164 news [.int c t1, .int y t2, .int m t3] (RetV news fun t => .int (lenI c y m) t) := by
  w_on
  unfold Cl
  k_fill
  intro dp un gd cn cs a ccd cl outer A₀ base h₀ L mm s Q E hB hF hX hN hT hk hd hu hret
  refine wpAny_call ?_
  k_dflt cell_enter
  (rename_i F0 _ _ _ _; have F1 : Fr _ _ _ (fun z9 => List.lookup z9 [(Str.ofString "month", .int m t3), (Str.ofString "year", .int y t2), (Str.ofString "calendar", .int c t1)]) := F0; clear F0)
  k_steps
  all_goals (refine RetV.finI hret ?_ (by k_asm) (by k_asm))
  all_goals (first | exact length_1 h1 h2 (by assumption) (by assumption) | exact length_2 h1 h2 (by assumption) (by assumption) | exact length_3 h1 h2 (by assumption))
local macro_rules | `(tactic| walk_at "call ref") => `(tactic| (k_here; k_dflt (refine' Cl.use (length_c _ _ _ _ _ _ _ _ _ _ _ ?p1 ?p2) ?k1 ?k2 ?k3 ?k4 ?k5 ?kK ?kd ?ku ?_; (case p1 => first | assumption | exact Dat3.lo (by assumption) | omega); (case p2 => first | assumption | exact Dat3.hi (by assumption) | omega); (case k1 => k_asm); (case k2 => k_asm); (case k3 => k_asm); (case k4 => k_asm); (case k5 => k_asm); (case kK => first | exact rfl | assumption); (case kd => ktr_room); (case ku => ktr_units); k_whole; intro t9 h9 tk9 F9 N9; (try dsimp only); (try k_sweep); (try k_fold))))
set_option maxRecDepth 100000 in
set_option maxHeartbeats 8000000 in
theorem january_c (w : World) (mean : ExcName → Option Value) (mg mb : Str → Option Value) (news : List (Addr × Obj)) (c y : Int) (t1 t2 : Tok) :
    Cl 1 w mean mg mb 171 news [.int c t1, .int y t2] (RetV news fun t => .int (janI c y) t) := by
  w_on
  unfold Cl
  k_fill
  intro dp un gd cn cs a ccd cl outer A₀ base h₀ L mm s Q E hB hF hX hN hT hk hd hu hret
  refine wpAny_call ?_
  k_dflt cell_enter
  (rename_i F0 _ _ _ _; have F1 : Fr _ _ _ (fun z9 => List.lookup z9 [(Str.ofString "year", .int y t2), (Str.ofString "calendar", .int c t1)]) := F0; clear F0)
  k_steps
  all_goals (refine RetV.finI hret ?_ (by k_asm) (by first | k_asm | exact cb_drop (by assumption) (fun _ hp => List.Mem.tail _ hp)))
  all_goals (first | exact january_1 (by assumption) (by assumption) (by assumption) | exact january_2 (by assumption) (by assumption) (by assumption))
local macro_rules | `(tactic| walk_at "call ref") => `(tactic| (k_here; k_dflt (refine' Cl.use (january_c _ _ _ _ _ _ _ _ _ ) ?k1 ?k2 ?k3 ?k4 ?k5 ?kK ?kd ?ku ?_;  (case k1 => k_asm); (case k2 => k_asm); (case k3 => k_asm); (case k4 => k_asm); (case k5 => k_asm); (case kK => first | exact rfl | assumption); (case kd => ktr_room); (case ku => ktr_units); k_whole; intro t9 h9 tk9 F9 N9; (try dsimp only); (try k_sweep); (try k_fold))))
set_option maxRecDepth 100000 in
set_option maxHeartbeats 8000000 in
theorem number_c (w : World) (mean : ExcName → Option Value) (mg mb : Str → Option Value) (news : List (Addr × Obj)) (c y m d : Int) (t1 t2 t3 t4 : Tok) (h1 : 1 ≤ m) (h2 : m ≤ 12) :
    Cl 4 w mean mg mb 178 news [.int c t1, .int y t2, .int m t3, .int d t4] (RetV news fun t => .int (dayI c y m d) t) := by
  w_on
  unfold Cl
  k_fill
  intro dp un gd cn cs a ccd cl outer A₀ base h₀ L mm s Q E hB hF hX hN hT hk hd hu hret
  refine wpAny_call ?_
  k_dflt cell_enter
  (rename_i F0 _ _ _ _; have F1 : Fr _ _ _ (fun z9 => List.lookup z9 [(Str.ofString "day", .int d t4), (Str.ofString "month", .int m t3), (Str.ofString "year", .int y t2), (Str.ofString "calendar", .int c t1)]) := F0; clear F0)
  k_with_none
  k_with "pyIter ref" => k_state_given ["calendar", "year", "count!"] (fun c y a pre b => b = a + cumI c y ((pre.length : Int) + 1)) "count"
  k_with "state" => first | exact num_start _ _ _ | exact num_turn (by assumption) (by assumption) (by assumption) (by assumption) (by assumption)
  k_steps
  all_goals (refine RetV.finI hret (num_end (by assumption) (by assumption) (rangeKs_length _ _) h1) (by k_asm) (by k_asm))
local macro_rules | `(tactic| walk_at "call ref") => `(tactic| (k_here; k_dflt (refine' Cl.use (number_c _ _ _ _ _ _ _ _ _ _ _ _ _ ?p1 ?p2) ?k1 ?k2 ?k3 ?k4 ?k5 ?kK ?kd ?ku ?_; (case p1 => first | assumption | omega); (case p2 => first | assumption | omega); (case k1 => k_asm); (case k2 => k_asm); (case k3 => k_asm); (case k4 => k_asm); (case k5 => k_asm); (case kK => first | exact rfl | assumption); (case kd => ktr_room); (case ku => ktr_units); k_whole; intro t9 h9 tk9 F9 N9; (try dsimp only); (try k_sweep); (try k_fold))))
set_option maxRecDepth 100000 in
set_option maxHeartbeats 8000000 in
theorem date_c (w : World) (mean : ExcName → Option Value) (mg mb : Str → Option Value) (news : List (Addr × Obj)) (c n : Int) (t1 t2 : Tok) :
    Cl 3 w mean mg mb 185 news [.int c t1, .int n t2] (RetT news (dY c n) (dM c n) (dD c n)) := by
  w_on
  unfold Cl
  k_fill
  intro dp un gd cn cs a ccd cl outer A₀ base h₀ L mm s Q E hB hF hX hN hT hk hd hu hret
  refine wpAny_call ?_
  k_dflt cell_enter
  (rename_i F0 _ _ _ _; have F1 : Fr _ _ _ (fun z9 => List.lookup z9 [(Str.ofString "number", .int n t2), (Str.ofString "calendar", .int c t1)]) := F0; clear F0)
  k_with_none
  k_with "exec While Compare cons nil" => k_while_given ["calendar", "number"] (fun c n _ y => True) (fun c n _ y => (janI c y - n).toNat) "year"
  k_with "exec While Compare cons nil" => k_while_given ["calendar", "number"] (fun c n _ y => janI c y ≤ n) (fun c n _ y => (n - janI c y).toNat) "year"
  k_with "exec While Compare cons nil" => k_while_given ["calendar", "number", "year"] (fun c n y _ m k => Dat3 c n y m k) (fun c n y _ m k => (12 - m).toNat) "month" "count"
  k_with "state" => first | exact date_s2 (by assumption) (by assumption) | exact date_s3 (by assumption) (by assumption) (by assumption) (by assumption) | exact date_s30 (by assumption) (by assumption) (by assumption) | exact True.intro | omega
  k_with "measure" => first | exact date_m1 (by assumption) (by assumption) | exact date_m2 (by assumption) (by assumption) | exact date_m3 (by assumption) (by assumption) (by assumption)
  k_steps
  all_goals (exact RetT.fin2 hret (by k_asm) (by k_asm) (by assumption) (date_end (by assumption) (by assumption)))
local macro_rules | `(tactic| walk_at "call ref") => `(tactic| (k_here; k_dflt (refine' Cl.use (date_c _ _ _ _ _ _ _ _ _ ) ?k1 ?k2 ?k3 ?k4 ?k5 ?kK ?kd ?ku ?_;  (case k1 => k_asm); (case k2 => k_asm); (case k3 => k_asm); (case k4 => k_asm); (case k5 => k_asm); (case kK => first | exact rfl | assumption); (case kd => ktr_room); (case ku => ktr_units); k_whole; intro D9 t91 t92 t93 h9 tk9 F9 N9 l9; (try dsimp only); (try k_lt l9); (try k_sweep); (try k_fold))))
end Mine
namespace Mine
/-- what a call of _law_deed does, from the law's own frame -/
def Dl (w : World) (mean : ExcName → Option Value) (mg mb : Str → Option Value) (news : List (Addr × Obj)) (vs : List Value) : Prop :=
  ∀ (cn : Str) (cs : Scope) (L a : Addr) (ccd : Value) (h₀ : Heap) (m : Str → Option Value) (s : Shared) (Q E : Value → Shared → Prop),
    Below callerA h₀ [] h₀ → Fr h₀ L s.heap m → (Mine.hd.heap_39 w.params).In h₀ → News h₀ L s.heap news →
    Top Mine.hd.view_39 (looseW Mine.hd.view_39
      [Str.ofString "legal_date_gregorian", Str.ofString "to_jd_gregorian", Str.ofString "from_jd_gregorian",
        Str.ofString "legal_date_julian", Str.ofString "from_jd_julian", Str.ofString "to_jd_julian"]) mean mg mb h₀ →
    cs.kind = .function → (∀ (h' : Heap) (tk' : Nat), Fr h₀ L h' m → News h₀ L h' news → Q (.bool true) { s with heap := h', toks := tk' }) →
      wpAny (model PySem.Challenge.rw_aq6012_01.row.prog w) (callerA.deeper (envOf cn cs L a ccd)) (call (.ref 199) vs) Q E s
/-- the objects of one slot: the pair, the day count, its dict -/
abbrev slotObjs (w : World) (sl d dd : Addr) (n1 : Nat) (e : Int) (te tke : Tok) (rest : List (Addr × Obj)) : List (Addr × Obj) :=
  (sl, PySem.W.listOf #[Value.ref d, Value.int e te] n1) :: (d, instObj 138 dd) :: (dd, dictOf [{ hash := PyData.keyHash w.params (Str.ofString "epoch"), key := Value.str (Str.ofString "epoch") tke, val := Value.int e te }] 1) :: rest
theorem Dl.fin {h₀ : Heap} {L : Addr} {m : Str → Option Value} {news : List (Addr × Obj)} {s : Shared} {Q : Value → Shared → Prop} {b : Bool} {h' : Heap} {tk' : Nat}
    (ret : ∀ (h' : Heap) (tk' : Nat), Fr h₀ L h' m → News h₀ L h' news → Q (.bool true) { s with heap := h', toks := tk' }) (e : b = true) (F : Fr h₀ L h' m) (N : News h₀ L h' news) : Q (.bool b) { s with heap := h', toks := tk' } := by
  subst e; exact ret h' tk' F N
theorem fromjdG_d (w : World) (mean : ExcName → Option Value) (mg mb : Str → Option Value) (news : List (Addr × Obj)) (n : Int) (t : Tok) :
    Cl 4 w mean mg mb 43 news [.int n t] (RetT news (dY 0 n) (dM 0 n) (dD 0 n)) := fromjdG_c w mean mg mb news n t
theorem fromjdJ_d (w : World) (mean : ExcName → Option Value) (mg mb : Str → Option Value) (news : List (Addr × Obj)) (n : Int) (t : Tok) :
    Cl 1 w mean mg mb 72 news [.int n t] (RetT news (dY 1 n) (dM 1 n) (dD 1 n)) := fromjdJ_c w mean mg mb news n t
section
variable {M : Model} {A : Around} {E : Value → Shared → Prop} {s : Shared} {env : Env} {x : Str} {a : Int} {t : Tok} {Q : Unit → Shared → Prop}
theorem gs_lit {b : Int} (e : a = b) (h : ∀ t : Tok, wpAny M A (storeName env x (.int b t)) Q E s) : wpAny M A (storeName env x (.int a t)) Q E s := by subst e; exact h _
end
end Mine
namespace Mine
local macro_rules | `(tactic| walk_at "compareOp In int ref") => `(tactic| (k_here; (with_reducible show wpAny _ _ (compareOp CmpOp.In (Value.int _ _) (Value.ref _)) _ _ _); k_dflt (refine' in_tup_K ?F ?X ?l ?i ?e ?_; (case F => k_asm); (case X => k_asm); (case l => k_is); (case i => (repeat' (first | exact IntsAre.nil | refine' IntsAre.cons _ _ ?_))); (case e => exact have30_eq _); k_whole)))
local macro_rules | `(tactic| walk_at "eval Call") => `(tactic| (k_here; (with_reducible show wpAny _ _ (eval (Expr.Call (Expr.Name _ _) _ [] _) _) _ _ _); k_dflt (refine Call_ ?_)))
local macro_rules | `(tactic| walk_at "storeName") => `(tactic| (k_here; (with_reducible show wpAny _ _ (storeName _ _ (Value.int _ _)) _ _ _); (first | (refine gs_lit (b := 0) (by decide) ?_; intro t') | (refine gs_lit (b := 1) (by decide) ?_; intro t') | (refine gs_add ?_; intro v' t' hv') | (refine gs_sub ?_; intro v' t' hv') | (refine gs_mul ?_; intro v' t' hv') | (refine gs_fdiv (by decide) ?_; intro v' t' hv') | (refine gs_fmod (by decide) ?_; intro v' t' hv') | (refine gs_tok ?_; intro t')); k_dflt (refine' storeX_L ?F ?N ?_ ?a ?b; (case F => k_asm); (case N => k_asm); (case a => rfl); (case b => rfl); k_whole; intro h' F' N'; (try k_sweep))))
local macro_rules | `(tactic| walk_at "call builtin:str.format") => `(tactic| (k_here; k_dflt (refine' fmt_run ?a ?b ?c ?d ?_; (case a => omega); (case b => omega); (case c => omega); (case d => omega); intro x' t' k')))
local macro_rules | `(tactic| walk_at "call ref") => `(tactic| (k_here; k_dflt (refine' Cl.use (isleap_c _ _ _ _ _ _ _ ) ?k1 ?k2 ?k3 ?k4 ?k5 ?kK ?kd ?ku ?_;  (case k1 => k_asm); (case k2 => k_asm); (case k3 => k_asm); (case k4 => k_asm); (case k5 => k_asm); (case kK => first | exact rfl | assumption); (case kd => ktr_room); (case ku => ktr_units); k_whole; intro t9 h9 tk9 F9 N9; (try dsimp only); (try k_sweep); (try k_fold))))
local macro_rules | `(tactic| walk_at "call ref") => `(tactic| (k_here; k_dflt (refine' Cl.use (legalG_c _ _ _ _ _ _ _ _ _ _ _ ?p1 ?p2) ?k1 ?k2 ?k3 ?k4 ?k5 ?kK ?kd ?ku ?_; (case p1 => first | assumption | exact day_lo (by assumption) | omega); (case p2 => first | assumption | exact day_hi (by assumption) | exact Int.le_trans (by omega) (lenI_ge _ _ _).1); (case k1 => k_asm); (case k2 => k_asm); (case k3 => k_asm); (case k4 => k_asm); (case k5 => k_asm); (case kK => first | exact rfl | assumption); (case kd => ktr_room); (case ku => ktr_units); k_whole; intro t9 h9 tk9 F9 N9; (try dsimp only); (try k_sweep); (try k_fold))))
local macro_rules | `(tactic| walk_at "call ref") => `(tactic| (k_here; k_dflt (refine' Cl.use (tojdG_c _ _ _ _ _ _ _ _ _ _ _ ?p1 ?p2) ?k1 ?k2 ?k3 ?k4 ?k5 ?kK ?kd ?ku ?_; (case p1 => first | assumption | exact day_lo (by assumption) | omega); (case p2 => first | assumption | exact day_hi (by assumption) | exact Int.le_trans (by omega) (lenI_ge _ _ _).1); (case k1 => k_asm); (case k2 => k_asm); (case k3 => k_asm); (case k4 => k_asm); (case k5 => k_asm); (case kK => first | exact rfl | assumption); (case kd => ktr_room); (case ku => ktr_units); k_whole; intro t9 h9 tk9 F9 N9; (try dsimp only); (try k_sweep); (try k_fold))))
local macro_rules | `(tactic| walk_at "call ref") => `(tactic| (k_here; k_dflt (refine' Cl.use (fromjdG_d _ _ _ _ _ _ _ ) ?k1 ?k2 ?k3 ?k4 ?k5 ?kK ?kd ?ku ?_;  (case k1 => k_asm); (case k2 => k_asm); (case k3 => k_asm); (case k4 => k_asm); (case k5 => k_asm); (case kK => first | exact rfl | assumption); (case kd => ktr_room); (case ku => ktr_units); k_whole; intro D9 t91 t92 t93 h9 tk9 F9 N9 l9; (try dsimp only); (try k_lt l9); (try k_sweep); (try k_fold))))
local macro_rules | `(tactic| walk_at "call ref") => `(tactic| (k_here; k_dflt (refine' Cl.use (leap_c _ _ _ _ _ _ _ ) ?k1 ?k2 ?k3 ?k4 ?k5 ?kK ?kd ?ku ?_;  (case k1 => k_asm); (case k2 => k_asm); (case k3 => k_asm); (case k4 => k_asm); (case k5 => k_asm); (case kK => first | exact rfl | assumption); (case kd => ktr_room); (case ku => ktr_units); k_whole; intro t9 h9 tk9 F9 N9; (try dsimp only); (try k_sweep); (try k_fold))))
local macro_rules | `(tactic| walk_at "call ref") => `(tactic| (k_here; k_dflt (refine' Cl.use (mlen_c _ _ _ _ _ _ _ _ _ ) ?k1 ?k2 ?k3 ?k4 ?k5 ?kK ?kd ?ku ?_;  (case k1 => k_asm); (case k2 => k_asm); (case k3 => k_asm); (case k4 => k_asm); (case k5 => k_asm); (case kK => first | exact rfl | assumption); (case kd => ktr_room); (case ku => ktr_units); k_whole; intro t9 h9 tk9 F9 N9; (try dsimp only); (try k_sweep); (try k_fold))))
local macro_rules | `(tactic| walk_at "call ref") => `(tactic| (k_here; k_dflt (refine' Cl.use (legalJ_c _ _ _ _ _ _ _ _ _ _ _ ?p1 ?p2) ?k1 ?k2 ?k3 ?k4 ?k5 ?kK ?kd ?ku ?_; (case p1 => first | assumption | exact day_lo (by assumption) | omega); (case p2 => first | assumption | exact day_hi (by assumption) | exact Int.le_trans (by omega) (lenI_ge _ _ _).1); (case k1 => k_asm); (case k2 => k_asm); (case k3 => k_asm); (case k4 => k_asm); (case k5 => k_asm); (case kK => first | exact rfl | assumption); (case kd => ktr_room); (case ku => ktr_units); k_whole; intro t9 h9 tk9 F9 N9; (try dsimp only); (try k_sweep); (try k_fold))))
local macro_rules | `(tactic| walk_at "call ref") => `(tactic| (k_here; k_dflt (refine' Cl.use (tojdJ_c _ _ _ _ _ _ _ _ _ _ _ ?p1 ?p2 ?p3 ?p4) ?k1 ?k2 ?k3 ?k4 ?k5 ?kK ?kd ?ku ?_; (case p1 => first | assumption | exact day_lo (by assumption) | omega); (case p2 => first | assumption | exact day_hi (by assumption) | exact Int.le_trans (by omega) (lenI_ge _ _ _).1); (case p3 => first | assumption | omega); (case p4 => first | assumption | omega); (case k1 => k_asm); (case k2 => k_asm); (case k3 => k_asm); (case k4 => k_asm); (case k5 => k_asm); (case kK => first | exact rfl | assumption); (case kd => ktr_room); (case ku => ktr_units); k_whole; intro t9 h9 tk9 F9 N9; (try dsimp only); (try k_sweep); (try k_fold))))
local macro_rules | `(tactic| walk_at "call ref") => `(tactic| (k_here; k_dflt (refine' Cl.use (fromjdJ_d _ _ _ _ _ _ _ ) ?k1 ?k2 ?k3 ?k4 ?k5 ?kK ?kd ?ku ?_;  (case k1 => k_asm); (case k2 => k_asm); (case k3 => k_asm); (case k4 => k_asm); (case k5 => k_asm); (case kK => first | exact rfl | assumption); (case kd => ktr_room); (case ku => ktr_units); k_whole; intro D9 t91 t92 t93 h9 tk9 F9 N9 l9; (try dsimp only); (try k_lt l9); (try k_sweep); (try k_fold))))
local macro_rules | `(tactic| walk_at "call ref") => `(tactic| (k_here; k_dflt (refine' Cl.use (long_c _ _ _ _ _ _ _ _ _ ) ?k1 ?k2 ?k3 ?k4 ?k5 ?kK ?kd ?ku ?_;  (case k1 => k_asm); (case k2 => k_asm); (case k3 => k_asm); (case k4 => k_asm); (case k5 => k_asm); (case kK => first | exact rfl | assumption); (case kd => ktr_room); (case ku => ktr_units); k_whole; intro t9 h9 tk9 F9 N9; (try dsimp only); (try k_sweep); (try k_fold))))
local macro_rules | `(tactic| walk_at "call ref") => `(tactic| (k_here; k_dflt (refine' Cl.use (length_c _ _ _ _ _ _ _ _ _ _ _ ?p1 ?p2) ?k1 ?k2 ?k3 ?k4 ?k5 ?kK ?kd ?ku ?_; (case p1 => first | assumption | exact Dat3.lo (by assumption) | omega); (case p2 => first | assumption | exact Dat3.hi (by assumption) | omega); (case k1 => k_asm); (case k2 => k_asm); (case k3 => k_asm); (case k4 => k_asm); (case k5 => k_asm); (case kK => first | exact rfl | assumption); (case kd => ktr_room); (case ku => ktr_units); k_whole; intro t9 h9 tk9 F9 N9; (try dsimp only); (try k_sweep); (try k_fold))))
local macro_rules | `(tactic| walk_at "call ref") => `(tactic| (k_here; k_dflt (refine' Cl.use (january_c _ _ _ _ _ _ _ _ _ ) ?k1 ?k2 ?k3 ?k4 ?k5 ?kK ?kd ?ku ?_;  (case k1 => k_asm); (case k2 => k_asm); (case k3 => k_asm); (case k4 => k_asm); (case k5 => k_asm); (case kK => first | exact rfl | assumption); (case kd => ktr_room); (case ku => ktr_units); k_whole; intro t9 h9 tk9 F9 N9; (try dsimp only); (try k_sweep); (try k_fold))))
local macro_rules | `(tactic| walk_at "call ref") => `(tactic| (k_here; k_dflt (refine' Cl.use (number_c _ _ _ _ _ _ _ _ _ _ _ _ _ ?p1 ?p2) ?k1 ?k2 ?k3 ?k4 ?k5 ?kK ?kd ?ku ?_; (case p1 => first | assumption | omega); (case p2 => first | assumption | omega); (case k1 => k_asm); (case k2 => k_asm); (case k3 => k_asm); (case k4 => k_asm); (case k5 => k_asm); (case kK => first | exact rfl | assumption); (case kd => ktr_room); (case ku => ktr_units); k_whole; intro t9 h9 tk9 F9 N9; (try dsimp only); (try k_sweep); (try k_fold))))
local macro_rules | `(tactic| walk_at "call ref") => `(tactic| (k_here; k_dflt (refine' Cl.use (date_c _ _ _ _ _ _ _ _ _ ) ?k1 ?k2 ?k3 ?k4 ?k5 ?kK ?kd ?ku ?_;  (case k1 => k_asm); (case k2 => k_asm); (case k3 => k_asm); (case k4 => k_asm); (case k5 => k_asm); (case kK => first | exact rfl | assumption); (case kd => ktr_room); (case ku => ktr_units); k_whole; intro D9 t91 t92 t93 h9 tk9 F9 N9 l9; (try dsimp only); (try k_lt l9); (try k_sweep); (try k_fold))))
set_option maxRecDepth 100000 in
set_option maxHeartbeats 8000000 in
theorem deed0_c (w : World) (mean : ExcName → Option Value) (mg mb : Str → Option Value) (rest : List (Addr × Obj)) (sl d dd : Addr) (n1 : Nat) (e : Int) (te tke : Tok) (x y m da : Int) (tk tx ty tm td : Tok) (hm1 : 1 ≤ m) (hm2 : m ≤ 12) (hd1 : 1 ≤ da) (hd2 : da ≤ 31) :
    Dl w mean mg mb (slotObjs w sl d dd n1 e te tke rest) [.ref sl, .int 0 tk, .int x tx, .int y ty, .int m tm, .int da td] := by
  w_on
  unfold Dl
  k_fill
  intro cn cs L a ccd h₀ mm s Q E hB hF hX hN hT hk hret
  k_with_none
  have hL0 := lenI_ge 0 y m
  have hL1 := lenI_ge 1 y m
  refine wpAny_call ?_
  k_dflt (refine' code_defS0 ?k1 ?k2 ?k3 ?k4 ?k5 ?kA ?k6 ?k7 ?k8 ?k9 ?kB ?_ ?cK ?c2 ?c3 ?c4 ?c5; (case kA => exact rfl); (case k2 => k_asm); (case k1 => k_asm); (case k3 => k_asm); (case k4 => k_asm); (case k5 => k_asm); (case k6 => k_is); (case k7 => k_is); (case k8 => k_room); (case k9 => exact BindsTo.of_eq rfl); (case kB => exact locs rfl); (case cK => assumption); (case c2 => exact rfl); (case c3 => exact rfl); (case c4 => exact rfl); (case c5 => decide); k_whole; intro g' L' h' FG' F' N' B' X' T' D'; (try dsimp only); (try k_lift B'); (try k_fold))
  (have F1 : Fr _ _ _ (fun z9 => List.lookup z9 [(Str.ofString "day", .int da td), (Str.ofString "month", .int m tm), (Str.ofString "year", .int y ty), (Str.ofString "number", .int x tx), (Str.ofString "kind", .int 0 tk), (Str.ofString "slot", .ref sl)]) := F'; clear F')
  k_steps
  all_goals (refine Dl.fin hret ?_ (by k_asm) (by first | k_asm | exact cb_drop (by assumption) (fun _ hp => List.Mem.tail _ (List.Mem.tail _ hp)) | exact cb_drop (by assumption) (fun _ hp => List.Mem.tail _ hp)))
  all_goals (first | rfl | exact beq_self_eq_true _ | exact beq_iff_eq.mpr (by assumption))
set_option maxRecDepth 100000 in
set_option maxHeartbeats 8000000 in
theorem deed1_c (w : World) (mean : ExcName → Option Value) (mg mb : Str → Option Value) (rest : List (Addr × Obj)) (sl d dd : Addr) (n1 : Nat) (e : Int) (te tke : Tok) (x y m da : Int) (tk tx ty tm td : Tok) (hm1 : 1 ≤ m) (hm2 : m ≤ 12) (hd1 : 1 ≤ da) (hd2 : da ≤ 31) :
    Dl w mean mg mb (slotObjs w sl d dd n1 e te tke rest) [.ref sl, .int 1 tk, .int x tx, .int y ty, .int m tm, .int da td] := by
  w_on
  unfold Dl
  k_fill
  intro cn cs L a ccd h₀ mm s Q E hB hF hX hN hT hk hret
  k_with_none
  have hL0 := lenI_ge 0 y m
  have hL1 := lenI_ge 1 y m
  refine wpAny_call ?_
  k_dflt (refine' code_defS0 ?k1 ?k2 ?k3 ?k4 ?k5 ?kA ?k6 ?k7 ?k8 ?k9 ?kB ?_ ?cK ?c2 ?c3 ?c4 ?c5; (case kA => exact rfl); (case k2 => k_asm); (case k1 => k_asm); (case k3 => k_asm); (case k4 => k_asm); (case k5 => k_asm); (case k6 => k_is); (case k7 => k_is); (case k8 => k_room); (case k9 => exact BindsTo.of_eq rfl); (case kB => exact locs rfl); (case cK => assumption); (case c2 => exact rfl); (case c3 => exact rfl); (case c4 => exact rfl); (case c5 => decide); k_whole; intro g' L' h' FG' F' N' B' X' T' D'; (try dsimp only); (try k_lift B'); (try k_fold))
  (have F1 : Fr _ _ _ (fun z9 => List.lookup z9 [(Str.ofString "day", .int da td), (Str.ofString "month", .int m tm), (Str.ofString "year", .int y ty), (Str.ofString "number", .int x tx), (Str.ofString "kind", .int 1 tk), (Str.ofString "slot", .ref sl)]) := F'; clear F')
  k_steps
  all_goals (refine Dl.fin hret ?_ (by k_asm) (by first | k_asm | exact cb_drop (by assumption) (fun _ hp => List.Mem.tail _ (List.Mem.tail _ hp)) | exact cb_drop (by assumption) (fun _ hp => List.Mem.tail _ hp)))
  all_goals (first | rfl | exact beq_self_eq_true _ | exact beq_iff_eq.mpr (by assumption))
set_option maxRecDepth 100000 in
set_option maxHeartbeats 8000000 in
theorem deed2_c (w : World) (mean : ExcName → Option Value) (mg mb : Str → Option Value) (rest : List (Addr × Obj)) (sl d dd : Addr) (n1 : Nat) (e : Int) (te tke : Tok) (x y m da : Int) (tk tx ty tm td : Tok) (hm1 : 1 ≤ m) (hm2 : m ≤ 12) (hd1 : 1 ≤ da) (hd2 : da ≤ 31) :
    Dl w mean mg mb (slotObjs w sl d dd n1 e te tke rest) [.ref sl, .int 2 tk, .int x tx, .int y ty, .int m tm, .int da td] := by
  w_on
  unfold Dl
  k_fill
  intro cn cs L a ccd h₀ mm s Q E hB hF hX hN hT hk hret
  k_with_none
  have hL0 := lenI_ge 0 y m
  have hL1 := lenI_ge 1 y m
  refine wpAny_call ?_
  k_dflt (refine' code_defS0 ?k1 ?k2 ?k3 ?k4 ?k5 ?kA ?k6 ?k7 ?k8 ?k9 ?kB ?_ ?cK ?c2 ?c3 ?c4 ?c5; (case kA => exact rfl); (case k2 => k_asm); (case k1 => k_asm); (case k3 => k_asm); (case k4 => k_asm); (case k5 => k_asm); (case k6 => k_is); (case k7 => k_is); (case k8 => k_room); (case k9 => exact BindsTo.of_eq rfl); (case kB => exact locs rfl); (case cK => assumption); (case c2 => exact rfl); (case c3 => exact rfl); (case c4 => exact rfl); (case c5 => decide); k_whole; intro g' L' h' FG' F' N' B' X' T' D'; (try dsimp only); (try k_lift B'); (try k_fold))
  (have F1 : Fr _ _ _ (fun z9 => List.lookup z9 [(Str.ofString "day", .int da td), (Str.ofString "month", .int m tm), (Str.ofString "year", .int y ty), (Str.ofString "number", .int x tx), (Str.ofString "kind", .int 2 tk), (Str.ofString "slot", .ref sl)]) := F'; clear F')
  k_steps
  all_goals (refine Dl.fin hret ?_ (by k_asm) (by first | k_asm | exact cb_drop (by assumption) (fun _ hp => List.Mem.tail _ (List.Mem.tail _ hp)) | exact cb_drop (by assumption) (fun _ hp => List.Mem.tail _ hp)))
  all_goals (first | rfl | exact beq_self_eq_true _ | exact beq_iff_eq.mpr (by assumption))
set_option maxRecDepth 100000 in
set_option maxHeartbeats 8000000 in
theorem deed3_c (w : World) (mean : ExcName → Option Value) (mg mb : Str → Option Value) (rest : List (Addr × Obj)) (sl d dd : Addr) (n1 : Nat) (e : Int) (te tke : Tok) (x y m da : Int) (tk tx ty tm td : Tok) (hm1 : 1 ≤ m) (hm2 : m ≤ 12) (hd1 : 1 ≤ da) (hd2 : da ≤ 31) :
    Dl w mean mg mb (slotObjs w sl d dd n1 e te tke rest) [.ref sl, .int 3 tk, .int x tx, .int y ty, .int m tm, .int da td] := by
  w_on
  unfold Dl
  k_fill
  intro cn cs L a ccd h₀ mm s Q E hB hF hX hN hT hk hret
  k_with_none
  have hL0 := lenI_ge 0 y m
  have hL1 := lenI_ge 1 y m
  refine wpAny_call ?_
  k_dflt (refine' code_defS0 ?k1 ?k2 ?k3 ?k4 ?k5 ?kA ?k6 ?k7 ?k8 ?k9 ?kB ?_ ?cK ?c2 ?c3 ?c4 ?c5; (case kA => exact rfl); (case k2 => k_asm); (case k1 => k_asm); (case k3 => k_asm); (case k4 => k_asm); (case k5 => k_asm); (case k6 => k_is); (case k7 => k_is); (case k8 => k_room); (case k9 => exact BindsTo.of_eq rfl); (case kB => exact locs rfl); (case cK => assumption); (case c2 => exact rfl); (case c3 => exact rfl); (case c4 => exact rfl); (case c5 => decide); k_whole; intro g' L' h' FG' F' N' B' X' T' D'; (try dsimp only); (try k_lift B'); (try k_fold))
  (have F1 : Fr _ _ _ (fun z9 => List.lookup z9 [(Str.ofString "day", .int da td), (Str.ofString "month", .int m tm), (Str.ofString "year", .int y ty), (Str.ofString "number", .int x tx), (Str.ofString "kind", .int 3 tk), (Str.ofString "slot", .ref sl)]) := F'; clear F')
  k_steps
  all_goals (refine Dl.fin hret ?_ (by k_asm) (by first | k_asm | exact cb_drop (by assumption) (fun _ hp => List.Mem.tail _ (List.Mem.tail _ hp)) | exact cb_drop (by assumption) (fun _ hp => List.Mem.tail _ hp)))
  all_goals (first | rfl | exact beq_self_eq_true _ | exact beq_iff_eq.mpr (by assumption))
set_option maxRecDepth 100000 in
set_option maxHeartbeats 8000000 in
theorem deed4_c (w : World) (mean : ExcName → Option Value) (mg mb : Str → Option Value) (rest : List (Addr × Obj)) (sl d dd : Addr) (n1 : Nat) (e : Int) (te tke : Tok) (x y m da : Int) (tk tx ty tm td : Tok) (hm1 : 1 ≤ m) (hm2 : m ≤ 12) (hd1 : 1 ≤ da) (hd2 : da ≤ 31) :
    Dl w mean mg mb (slotObjs w sl d dd n1 e te tke rest) [.ref sl, .int 4 tk, .int x tx, .int y ty, .int m tm, .int da td] := by
  w_on
  unfold Dl
  k_fill
  intro cn cs L a ccd h₀ mm s Q E hB hF hX hN hT hk hret
  k_with_none
  have hL0 := lenI_ge 0 y m
  have hL1 := lenI_ge 1 y m
  refine wpAny_call ?_
  k_dflt (refine' code_defS0 ?k1 ?k2 ?k3 ?k4 ?k5 ?kA ?k6 ?k7 ?k8 ?k9 ?kB ?_ ?cK ?c2 ?c3 ?c4 ?c5; (case kA => exact rfl); (case k2 => k_asm); (case k1 => k_asm); (case k3 => k_asm); (case k4 => k_asm); (case k5 => k_asm); (case k6 => k_is); (case k7 => k_is); (case k8 => k_room); (case k9 => exact BindsTo.of_eq rfl); (case kB => exact locs rfl); (case cK => assumption); (case c2 => exact rfl); (case c3 => exact rfl); (case c4 => exact rfl); (case c5 => decide); k_whole; intro g' L' h' FG' F' N' B' X' T' D'; (try dsimp only); (try k_lift B'); (try k_fold))
  (have F1 : Fr _ _ _ (fun z9 => List.lookup z9 [(Str.ofString "day", .int da td), (Str.ofString "month", .int m tm), (Str.ofString "year", .int y ty), (Str.ofString "number", .int x tx), (Str.ofString "kind", .int 4 tk), (Str.ofString "slot", .ref sl)]) := F'; clear F')
  k_steps
  all_goals (refine Dl.fin hret ?_ (by k_asm) (by first | k_asm | exact cb_drop (by assumption) (fun _ hp => List.Mem.tail _ (List.Mem.tail _ hp)) | exact cb_drop (by assumption) (fun _ hp => List.Mem.tail _ hp)))
  all_goals (first | rfl | exact beq_self_eq_true _ | exact beq_iff_eq.mpr (by assumption))
set_option maxRecDepth 100000 in
set_option maxHeartbeats 8000000 in
theorem deed5_c (w : World) (mean : ExcName → Option Value) (mg mb : Str → Option Value) (rest : List (Addr × Obj)) (sl d dd : Addr) (n1 : Nat) (e : Int) (te tke : Tok) (x y m da : Int) (tk tx ty tm td : Tok) (hm1 : 1 ≤ m) (hm2 : m ≤ 12) (hd1 : 1 ≤ da) (hd2 : da ≤ 31) :
    Dl w mean mg mb (slotObjs w sl d dd n1 e te tke rest) [.ref sl, .int 5 tk, .int x tx, .int y ty, .int m tm, .int da td] := by
  w_on
  unfold Dl
  k_fill
  intro cn cs L a ccd h₀ mm s Q E hB hF hX hN hT hk hret
  k_with_none
  have hL0 := lenI_ge 0 y m
  have hL1 := lenI_ge 1 y m
  refine wpAny_call ?_
  k_dflt (refine' code_defS0 ?k1 ?k2 ?k3 ?k4 ?k5 ?kA ?k6 ?k7 ?k8 ?k9 ?kB ?_ ?cK ?c2 ?c3 ?c4 ?c5; (case kA => exact rfl); (case k2 => k_asm); (case k1 => k_asm); (case k3 => k_asm); (case k4 => k_asm); (case k5 => k_asm); (case k6 => k_is); (case k7 => k_is); (case k8 => k_room); (case k9 => exact BindsTo.of_eq rfl); (case kB => exact locs rfl); (case cK => assumption); (case c2 => exact rfl); (case c3 => exact rfl); (case c4 => exact rfl); (case c5 => decide); k_whole; intro g' L' h' FG' F' N' B' X' T' D'; (try dsimp only); (try k_lift B'); (try k_fold))
  (have F1 : Fr _ _ _ (fun z9 => List.lookup z9 [(Str.ofString "day", .int da td), (Str.ofString "month", .int m tm), (Str.ofString "year", .int y ty), (Str.ofString "number", .int x tx), (Str.ofString "kind", .int 5 tk), (Str.ofString "slot", .ref sl)]) := F'; clear F')
  k_steps
  all_goals (refine Dl.fin hret ?_ (by k_asm) (by first | k_asm | exact cb_drop (by assumption) (fun _ hp => List.Mem.tail _ (List.Mem.tail _ hp)) | exact cb_drop (by assumption) (fun _ hp => List.Mem.tail _ hp)))
  all_goals (first | rfl | exact beq_self_eq_true _ | exact beq_iff_eq.mpr (by assumption))
set_option maxRecDepth 100000 in
set_option maxHeartbeats 8000000 in
theorem deed6_c (w : World) (mean : ExcName → Option Value) (mg mb : Str → Option Value) (rest : List (Addr × Obj)) (sl d dd : Addr) (n1 : Nat) (e : Int) (te tke : Tok) (x y m da : Int) (tk tx ty tm td : Tok) (hm1 : 1 ≤ m) (hm2 : m ≤ 12) (hd1 : 1 ≤ da) (hd2 : da ≤ 31) :
    Dl w mean mg mb (slotObjs w sl d dd n1 e te tke rest) [.ref sl, .int 6 tk, .int x tx, .int y ty, .int m tm, .int da td] := by
  w_on
  unfold Dl
  k_fill
  intro cn cs L a ccd h₀ mm s Q E hB hF hX hN hT hk hret
  k_with_none
  have hL0 := lenI_ge 0 y m
  have hL1 := lenI_ge 1 y m
  refine wpAny_call ?_
  k_dflt (refine' code_defS0 ?k1 ?k2 ?k3 ?k4 ?k5 ?kA ?k6 ?k7 ?k8 ?k9 ?kB ?_ ?cK ?c2 ?c3 ?c4 ?c5; (case kA => exact rfl); (case k2 => k_asm); (case k1 => k_asm); (case k3 => k_asm); (case k4 => k_asm); (case k5 => k_asm); (case k6 => k_is); (case k7 => k_is); (case k8 => k_room); (case k9 => exact BindsTo.of_eq rfl); (case kB => exact locs rfl); (case cK => assumption); (case c2 => exact rfl); (case c3 => exact rfl); (case c4 => exact rfl); (case c5 => decide); k_whole; intro g' L' h' FG' F' N' B' X' T' D'; (try dsimp only); (try k_lift B'); (try k_fold))
  (have F1 : Fr _ _ _ (fun z9 => List.lookup z9 [(Str.ofString "day", .int da td), (Str.ofString "month", .int m tm), (Str.ofString "year", .int y ty), (Str.ofString "number", .int x tx), (Str.ofString "kind", .int 6 tk), (Str.ofString "slot", .ref sl)]) := F'; clear F')
  have hf := lenI_facts 0 y m
  k_steps
  all_goals (refine Dl.fin hret ?_ (by k_asm) (by first | k_asm | exact cb_drop (by assumption) (fun _ hp => List.Mem.tail _ (List.Mem.tail _ hp)) | exact cb_drop (by assumption) (fun _ hp => List.Mem.tail _ hp)))
  all_goals (first | rfl | exact beq_self_eq_true _ | exact beq_iff_eq.mpr (by assumption))
set_option maxRecDepth 100000 in
set_option maxHeartbeats 8000000 in
theorem deed7_c (w : World) (mean : ExcName → Option Value) (mg mb : Str → Option Value) (rest : List (Addr × Obj)) (sl d dd : Addr) (n1 : Nat) (e : Int) (te tke : Tok) (x y m da : Int) (tk tx ty tm td : Tok) (hm1 : 1 ≤ m) (hm2 : m ≤ 12) (hd1 : 1 ≤ da) (hd2 : da ≤ 31) :
    Dl w mean mg mb (slotObjs w sl d dd n1 e te tke rest) [.ref sl, .int 7 tk, .int x tx, .int y ty, .int m tm, .int da td] := by
  w_on
  unfold Dl
  k_fill
  intro cn cs L a ccd h₀ mm s Q E hB hF hX hN hT hk hret
  k_with_none
  have hL0 := lenI_ge 0 y m
  have hL1 := lenI_ge 1 y m
  refine wpAny_call ?_
  k_dflt (refine' code_defS0 ?k1 ?k2 ?k3 ?k4 ?k5 ?kA ?k6 ?k7 ?k8 ?k9 ?kB ?_ ?cK ?c2 ?c3 ?c4 ?c5; (case kA => exact rfl); (case k2 => k_asm); (case k1 => k_asm); (case k3 => k_asm); (case k4 => k_asm); (case k5 => k_asm); (case k6 => k_is); (case k7 => k_is); (case k8 => k_room); (case k9 => exact BindsTo.of_eq rfl); (case kB => exact locs rfl); (case cK => assumption); (case c2 => exact rfl); (case c3 => exact rfl); (case c4 => exact rfl); (case c5 => decide); k_whole; intro g' L' h' FG' F' N' B' X' T' D'; (try dsimp only); (try k_lift B'); (try k_fold))
  (have F1 : Fr _ _ _ (fun z9 => List.lookup z9 [(Str.ofString "day", .int da td), (Str.ofString "month", .int m tm), (Str.ofString "year", .int y ty), (Str.ofString "number", .int x tx), (Str.ofString "kind", .int 7 tk), (Str.ofString "slot", .ref sl)]) := F'; clear F')
  have hf := lenI_facts 1 y m
  k_steps
  all_goals (refine Dl.fin hret ?_ (by k_asm) (by first | k_asm | exact cb_drop (by assumption) (fun _ hp => List.Mem.tail _ (List.Mem.tail _ hp)) | exact cb_drop (by assumption) (fun _ hp => List.Mem.tail _ hp)))
  all_goals (first | rfl | exact beq_self_eq_true _ | exact beq_iff_eq.mpr (by assumption))
end Mine
section
open PySem.Calls PyProof.V PySem.Spec
namespace Mine
/-- a turn's end: the iterator stands, the ledger may have grown -/
def GrowEnd (h₀ : Heap) (L : Addr) (J : (Str → Option Value) → List (Addr × Obj) → Prop) (I : Addr) (o : Obj) (s₁ : Shared) (f : Flow) (s₂ : Shared) : Prop :=
  f = .next ∧ ∃ h' tk m' nx, s₂ = { s₁ with heap := h', toks := tk } ∧ Fr h₀ L h' m' ∧ News h₀ L h' ((I, o) :: nx) ∧ (∀ p ∈ nx, p.1 ≠ I) ∧ J m' nx
theorem GrowEnd.intro {h₀ h' : Heap} {L I : Addr} {o : Obj} {J : (Str → Option Value) → List (Addr × Obj) → Prop} {s₁ : Shared} {tk : Nat} {m' : Str → Option Value} {nx : List (Addr × Obj)}
    (F : Fr h₀ L h' m') (N : News h₀ L h' ((I, o) :: nx)) (ha : ∀ p ∈ nx, p.1 ≠ I) (hj : J m' nx) : GrowEnd h₀ L J I o s₁ .next { s₁ with heap := h', toks := tk } := ⟨rfl, h', tk, m', nx, rfl, F, N, ha, hj⟩
section
variable {prog : Program} {w : World} {A : Around} {E : Value → Shared → Prop} {s : Shared} {env : Env} {h₀ : Heap} {x : Str} {body : List Stmt} {Q : Flow → Shared → Prop}
theorem iter_grow {l : Addr} {vs : List Value} {ns : List Int} {nn : Nat} {m₀ : Str → Option Value} {news : List (Addr × Obj)} (J : (Str → Option Value) → List (Addr × Obj) → Prop)
    (hh : A.handled = none) (hl : (l, PySem.W.listOf vs.toArray nn) ∈ news) (hi : IntsAre vs ns) (F : Fr h₀ env.locals s.heap m₀) (N : News h₀ env.locals s.heap news) (hj : J m₀ news)
    (hJl : ∀ m nx, J m nx → (l, PySem.W.listOf vs.toArray nn) ∈ nx)
    (turn : ∀ (n : Int) (t : Tok) (m₁ : Str → Option Value) (news₁ : List (Addr × Obj)) (s₁ : Shared) (I : Addr) (o : Obj), J m₁ news₁ → (∀ p ∈ news₁, p.1 ≠ I) → Fr h₀ env.locals s₁.heap (fun y => if y = x then some (.int n t) else m₁ y) → News h₀ env.locals s₁.heap ((I, o) :: news₁) →
      wpAny (model prog w) A (execs body env) (GrowEnd h₀ env.locals J I o s₁) E s₁)
    (done : ∀ (m₁ : Str → Option Value) (news₁ : List (Addr × Obj)) (h : Heap) (tk : Nat), J m₁ news₁ → Fr h₀ env.locals h m₁ → News h₀ env.locals h news₁ → Q .next { s with heap := h, toks := tk }) :
    wpAny (model prog w) A (pyIter (.ref l)) (fun it s₂ => LoopAtU prog w A h₀ env x body Q E it s₂) E s := by
  have hol : s.heap.get? l = some (PySem.W.listOf vs.toArray nn) := (N _ hl).1
  have hls : s.heap.IsList l vs.toArray := ⟨_, hol, rfl, nn, rfl⟩
  have hne : l ≠ s.heap.objs.size := Nat.ne_of_lt (Heap.lt_size hol)
  refine wpAny_pyIter_list hls ?_
  have W := Walks.list (prog := prog) (w := w) hh s.heap.objs.size l hne vs.toArray
  refine ⟨_, _, _, _, _, _, m₀, news, (fun _ m nx => J m nx), rfl, W, ?_, ?_, ?_, ⟨⟨_, Heap.get?_push_size _ rfl, rfl, rfl⟩, hls.at fun o e => Heap.get?_push_of_some _ e⟩, F.push _, (fun p hp => ⟨Heap.get?_push_of_some _ (N p hp).1, (N p hp).2⟩), hj, ?_, ?_⟩
  · intro hm
    rcases List.mem_cons.mp hm with e | hm
    · exact absurd F.ns.lt (e ▸ Nat.lt_irrefl _)
    · exact (N _ hl).2.1 ((List.mem_singleton.mp hm).symm)
  · intro b hb
    rw [List.mem_singleton.mp hb]
    exact next_is_new F
  · intro p hp hI
    exact absurd (Heap.lt_size (N p hp).1) ((List.mem_singleton.mp hI) ▸ Nat.lt_irrefl _)
  · rintro i v m₁ news₁ s₁ own hin hP hJ hoff hown hget hfp ⟨⟨oI, hoI, _, _⟩, _⟩ F₁ N₁
    obtain ⟨n, t, hv⟩ : ∃ n t, v = .int n t := by
      have hlt : i < ns.length := by have := hi.length; simp at hin; omega
      obtain ⟨t, hx⟩ := hi.get i ns[i] (by simp [hlt])
      have hP' : vs[i]? = some v := by simpa using hP
      rw [hx] at hP'
      exact ⟨_, t, (Option.some.inj hP').symm⟩
    subst hv
    have hIown : (s.heap.objs.size, oI) ∈ own := hfp _ (.head _) (next_is_new F) oI hoI
    have hlo : s₁.heap.get? l = some (PySem.W.listOf vs.toArray nn) := (N₁ _ (List.mem_append.mpr (.inr (hJl _ _ hJ)))).1
    refine wpAny_mono (turn n t m₁ news₁ s₁ s.heap.objs.size oI hJ (fun p hp e => hoff p hp (List.mem_singleton.mpr e)) F₁ (fun p hp => ?_)) (fun f s₂ p => ?_) fun _ _ e => e
    · cases hp with
      | head => exact N₁ _ (List.mem_append.mpr (.inl hIown))
      | tail _ hp => exact N₁ _ (List.mem_append.mpr (.inr hp))
    · obtain ⟨rfl, h', tk, m', nx, e, F', N', ha, hJ'⟩ := p
      refine ⟨rfl, h', tk, m', nx, e, F', fun p hp => ?_, fun p hp hq => ha p hp (List.mem_singleton.mp hq), hJ'⟩
      rcases List.mem_append.mp hp with h | h
      · have h2 : s₁.heap.get? p.1 = some p.2 := hget p h
        rcases List.mem_cons.mp (hown p h) with h1 | h1
        · rw [h1, hoI] at h2
          have h3 : p = (s.heap.objs.size, oI) := Prod.ext h1 (Option.some.inj h2).symm
          rw [h3]
          exact N' _ (.head _)
        · have h1' := List.mem_singleton.mp h1
          rw [h1', hlo] at h2
          have h3 : p = (l, PySem.W.listOf vs.toArray nn) := Prod.ext h1' (Option.some.inj h2).symm
          rw [h3]
          exact N' _ (.tail _ (hJl _ _ hJ'))
      · exact N' _ (.tail _ h)
  · rintro h' tk m' news' F' N' _ hJ
    exact done m' news' h' tk hJ F' N'
end
end Mine
end
namespace Mine
theorem deed_c (w : World) (mean : ExcName → Option Value) (mg mb : Str → Option Value) (rest : List (Addr × Obj)) (sl d dd : Addr) (n1 : Nat) (e : Int) (te tke : Tok) (k x y m da : Int) (tk tx ty tm td : Tok) (hk0 : 0 ≤ k) (hk7 : k ≤ 7) (hm1 : 1 ≤ m) (hm2 : m ≤ 12) (hd1 : 1 ≤ da) (hd2 : da ≤ 31) :
    Dl w mean mg mb (slotObjs w sl d dd n1 e te tke rest) [.ref sl, .int k tk, .int x tx, .int y ty, .int m tm, .int da td] := by
  have h : k = 0 ∨ k = 1 ∨ k = 2 ∨ k = 3 ∨ k = 4 ∨ k = 5 ∨ k = 6 ∨ k = 7 := by omega
  rcases h with h | h | h | h | h | h | h | h <;> subst h
  · exact deed0_c w mean mg mb rest sl d dd n1 e te tke x y m da tk tx ty tm td hm1 hm2 hd1 hd2
  · exact deed1_c w mean mg mb rest sl d dd n1 e te tke x y m da tk tx ty tm td hm1 hm2 hd1 hd2
  · exact deed2_c w mean mg mb rest sl d dd n1 e te tke x y m da tk tx ty tm td hm1 hm2 hd1 hd2
  · exact deed3_c w mean mg mb rest sl d dd n1 e te tke x y m da tk tx ty tm td hm1 hm2 hd1 hd2
  · exact deed4_c w mean mg mb rest sl d dd n1 e te tke x y m da tk tx ty tm td hm1 hm2 hd1 hd2
  · exact deed5_c w mean mg mb rest sl d dd n1 e te tke x y m da tk tx ty tm td hm1 hm2 hd1 hd2
  · exact deed6_c w mean mg mb rest sl d dd n1 e te tke x y m da tk tx ty tm td hm1 hm2 hd1 hd2
  · exact deed7_c w mean mg mb rest sl d dd n1 e te tke x y m da tk tx ty tm td hm1 hm2 hd1 hd2
theorem kind_hi {x : Int} (h : ¬ x.fmod 9 = 8) : 0 ≤ x.fmod 9 ∧ x.fmod 9 ≤ 7 := by
  rw [fmodP x (show (0 : Int) ≤ 9 by decide)] at h ⊢; omega
theorem mon_ok (r : Int) : 1 ≤ 1 + r.fmod 12 ∧ 1 + r.fmod 12 ≤ 12 := by
  rw [fmodP r (show (0 : Int) ≤ 12 by decide)]; omega
theorem day_ok (r : Int) : 1 ≤ 1 + r.fmod 31 ∧ 1 + r.fmod 31 ≤ 31 := by
  rw [fmodP r (show (0 : Int) ≤ 31 by decide)]; omega
/-- the deed on a slot of the ledger -/
theorem deed_use {w : World} {mean : ExcName → Option Value} {mg mb : Str → Option Value} {news : List (Addr × Obj)} {sl d dd : Addr} {n1 : Nat} {e : Int} {te tke : Tok} {x y r : Int} {tk tx ty tm td : Tok}
    (h1 : (sl, PySem.W.listOf #[Value.ref d, Value.int e te] n1) ∈ news) (h2 : (d, instObj 138 dd) ∈ news) (h3 : (dd, dictOf [{ hash := PyData.keyHash w.params (Str.ofString "epoch"), key := Value.str (Str.ofString "epoch") tke, val := Value.int e te }] 1) ∈ news) (hk : ¬ x.fmod 9 = 8)
    {cn : Str} {cs : Scope} {L a : Addr} {ccd : Value} {h₀ : Heap} {m : Str → Option Value} {s : Shared} {Q E : Value → Shared → Prop} (hB : Below callerA h₀ [] h₀) (hF : Fr h₀ L s.heap m) (hX : (Mine.hd.heap_39 w.params).In h₀) (hN : News h₀ L s.heap news)
    (hT : Top Mine.hd.view_39 (looseW Mine.hd.view_39
      [Str.ofString "legal_date_gregorian", Str.ofString "to_jd_gregorian", Str.ofString "from_jd_gregorian",
        Str.ofString "legal_date_julian", Str.ofString "from_jd_julian", Str.ofString "to_jd_julian"]) mean mg mb h₀) (hc : cs.kind = .function)
    (ret : ∀ (h' : Heap) (tk' : Nat), Fr h₀ L h' m → News h₀ L h' news → Q (.bool true) { s with heap := h', toks := tk' }) :
    wpAny (model PySem.Challenge.rw_aq6012_01.row.prog w) (callerA.deeper (envOf cn cs L a ccd)) (call (.ref 199) [.ref sl, .int (x.fmod 9) tk, .int x tx, .int y ty, .int (1 + r.fmod 12) tm, .int (1 + r.fmod 31) td]) Q E s := by
  refine deed_c w mean mg mb news sl d dd n1 e te tke _ x y _ _ tk tx ty tm td (kind_hi hk).1 (kind_hi hk).2 (mon_ok r).1 (mon_ok r).2 (day_ok r).1 (day_ok r).2 cn cs L a ccd h₀ m s Q E hB hF hX ?_ hT hc fun h' tk' F' N' => ret h' tk' F' fun p hp => N' p (.tail _ (.tail _ (.tail _ hp)))
  intro p hp
  rcases List.mem_cons.mp hp with rfl | hp
  · exact hN _ h1
  rcases List.mem_cons.mp hp with rfl | hp
  · exact hN _ h2
  rcases List.mem_cons.mp hp with rfl | hp
  · exact hN _ h3
  · exact hN _ hp
theorem fromjdG_z (w : World) (mean : ExcName → Option Value) (mg mb : Str → Option Value) (news : List (Addr × Obj)) (n : Int) (t : Tok) :
    Cl 4 w mean mg mb 43 news [.int (0 + n) t] (RetT news (dY 0 n) (dM 0 n) (dD 0 n)) := by
  rw [Int.zero_add]; exact fromjdG_d w mean mg mb news n t
/-- one slot: the pair, its day count, the day count's dict, and what they hold -/
structure Slot where
  sl : Addr
  d : Addr
  dd : Addr
  n1 : Nat
  e : Int
  te : Tok
  tke : Tok
def Slot.objs (w : World) (a : Slot) : List (Addr × Obj) := slotObjs w a.sl a.d a.dd a.n1 a.e a.te a.tke []
def ledOf (w : World) (D : Addr) (vs : List Value) (nn : Nat) (ls : Addr) (k : Nat) (ss : List Slot) : List (Addr × Obj) :=
  (D, PySem.W.listOf vs.toArray nn) :: (ls, PySem.W.listOf (ss.map fun a => Value.ref a.sl).toArray k) :: ss.flatMap (Slot.objs w)
/-- between two turns: one to three slots stand, the first with the first number -/
def Between (w : World) (D : Addr) (vs : List Value) (nn : Nat) (ls : Addr) (first : Int) (m : Str → Option Value) (nx : List (Addr × Obj)) : Prop :=
  ∃ (k : Nat) (t0 : Tok) (ss : List Slot), nx = ledOf w D vs nn ls k ss ∧ (∃ a r, ss = a :: r ∧ r.length ≤ 2 ∧ a.e = first) ∧ @Ne Nat ls D ∧ (∀ a ∈ ss, @Ne Nat ls a.sl ∧ @Ne Nat ls a.d ∧ @Ne Nat ls a.dd) ∧
    m (Str.ofString "slots") = some (.ref ls) ∧ m (Str.ofString "first") = some (.int first t0)
theorem Between.one {w : World} {D : Addr} {vs : List Value} {nn : Nat} {ls : Addr} {k : Nat} {sl d dd : Addr} {n1 : Nat} {e : Int} {te tke t0 : Tok} {m : Str → Option Value} (h1 : m (Str.ofString "slots") = some (.ref ls)) (h2 : m (Str.ofString "first") = some (.int e t0))
    (hD : @Ne Nat ls D) (hs : @Ne Nat ls sl ∧ @Ne Nat ls d ∧ @Ne Nat ls dd) :
    Between w D vs nn ls e m ((D, PySem.W.listOf vs.toArray nn) :: (ls, PySem.W.listOf #[Value.ref sl] k) :: slotObjs w sl d dd n1 e te tke []) :=
  ⟨k, t0, [⟨sl, d, dd, n1, e, te, tke⟩], rfl, ⟨_, [], rfl, Nat.zero_le _, rfl⟩, hD, fun a ha => by rw [List.mem_singleton.mp ha]; exact hs, h1, h2⟩
theorem Between.two {w : World} {D : Addr} {vs : List Value} {nn : Nat} {ls : Addr} {k : Nat} {sl d dd sl2 d2 dd2 : Addr} {n1 n2 : Nat} {e e2 : Int} {te tke te2 tke2 t0 : Tok} {m : Str → Option Value} (h1 : m (Str.ofString "slots") = some (.ref ls)) (h2 : m (Str.ofString "first") = some (.int e t0))
    (hD : @Ne Nat ls D) (hs : @Ne Nat ls sl ∧ @Ne Nat ls d ∧ @Ne Nat ls dd) (hs2 : @Ne Nat ls sl2 ∧ @Ne Nat ls d2 ∧ @Ne Nat ls dd2) :
    Between w D vs nn ls e m ((D, PySem.W.listOf vs.toArray nn) :: (ls, PySem.W.listOf #[Value.ref sl, Value.ref sl2] k) :: slotObjs w sl d dd n1 e te tke (slotObjs w sl2 d2 dd2 n2 e2 te2 tke2 [])) :=
  ⟨k, t0, [⟨sl, d, dd, n1, e, te, tke⟩, ⟨sl2, d2, dd2, n2, e2, te2, tke2⟩], rfl, ⟨_, [_], rfl, Nat.le_of_ble_eq_true rfl, rfl⟩, hD, fun a ha => by
    rcases List.mem_cons.mp ha with rfl | ha
    · exact hs
    · rw [List.mem_singleton.mp ha]; exact hs2, h1, h2⟩
theorem Between.three {w : World} {D : Addr} {vs : List Value} {nn : Nat} {ls : Addr} {k : Nat} {sl d dd sl2 d2 dd2 sl3 d3 dd3 : Addr} {n1 n2 n3 : Nat} {e e2 e3 : Int} {te tke te2 tke2 te3 tke3 t0 : Tok} {m : Str → Option Value} (h1 : m (Str.ofString "slots") = some (.ref ls)) (h2 : m (Str.ofString "first") = some (.int e t0))
    (hD : @Ne Nat ls D) (hs : @Ne Nat ls sl ∧ @Ne Nat ls d ∧ @Ne Nat ls dd) (hs2 : @Ne Nat ls sl2 ∧ @Ne Nat ls d2 ∧ @Ne Nat ls dd2) (hs3 : @Ne Nat ls sl3 ∧ @Ne Nat ls d3 ∧ @Ne Nat ls dd3) :
    Between w D vs nn ls e m ((D, PySem.W.listOf vs.toArray nn) :: (ls, PySem.W.listOf #[Value.ref sl, Value.ref sl2, Value.ref sl3] k) :: slotObjs w sl d dd n1 e te tke (slotObjs w sl2 d2 dd2 n2 e2 te2 tke2 (slotObjs w sl3 d3 dd3 n3 e3 te3 tke3 []))) :=
  ⟨k, t0, [⟨sl, d, dd, n1, e, te, tke⟩, ⟨sl2, d2, dd2, n2, e2, te2, tke2⟩, ⟨sl3, d3, dd3, n3, e3, te3, tke3⟩], rfl, ⟨_, [_, _], rfl, Nat.le_of_ble_eq_true rfl, rfl⟩, hD, fun a ha => by
    rcases List.mem_cons.mp ha with rfl | ha
    · exact hs
    rcases List.mem_cons.mp ha with rfl | ha
    · exact hs2
    · rw [List.mem_singleton.mp ha]; exact hs3, h1, h2⟩
theorem start_of {w : World} {D : Addr} {vs : List Value} {nn : Nat} {ls : Addr} {k : Nat} {sl d dd : Addr} {n1 : Nat} {e : Int} {te tke t0 : Tok} {m : Str → Option Value} {h₀ h : Heap} {L : Addr} (_F : Fr h₀ L h m)
    (_N : News h₀ L h ((D, PySem.W.listOf vs.toArray nn) :: (ls, PySem.W.listOf #[Value.ref sl] k) :: slotObjs w sl d dd n1 e te tke [])) (h1 : m (Str.ofString "slots") = some (.ref ls)) (h2 : m (Str.ofString "first") = some (.int e t0))
    (hD : @Ne Nat ls D) (hs : @Ne Nat ls sl ∧ @Ne Nat ls d ∧ @Ne Nat ls dd) :
    Between w D vs nn ls e m ((D, PySem.W.listOf vs.toArray nn) :: (ls, PySem.W.listOf #[Value.ref sl] k) :: slotObjs w sl d dd n1 e te tke []) := Between.one h1 h2 hD hs
theorem news_rot {h₀ h : Heap} {L : Addr} {a b c x : Addr × Obj} {rest : List (Addr × Obj)} (N : News h₀ L h (a :: b :: c :: x :: rest)) : News h₀ L h (x :: (rest ++ [a, b, c])) := fun p hp => N p (by
  rcases List.mem_cons.mp hp with rfl | hp
  · exact .tail _ (.tail _ (.tail _ (.head _)))
  rcases List.mem_append.mp hp with hp | hp
  · exact .tail _ (.tail _ (.tail _ (.tail _ hp)))
  rcases List.mem_cons.mp hp with rfl | hp
  · exact .head _
  rcases List.mem_cons.mp hp with rfl | hp
  · exact .tail _ (.head _)
  · rw [List.mem_singleton.mp hp]; exact .tail _ (.tail _ (.head _)))
theorem Between.list {w : World} {D : Addr} {vs : List Value} {nn : Nat} {ls : Addr} {first : Int} {m : Str → Option Value} {nx : List (Addr × Obj)} (h : Between w D vs nn ls first m nx) : (D, PySem.W.listOf vs.toArray nn) ∈ nx := by
  obtain ⟨k, t0, ss, rfl, _⟩ := h
  exact .head _
def AllNe (I : Addr) : List (Addr × Obj) → Prop
  | [] => True
  | p :: r => @Ne Nat p.1 I ∧ AllNe I r
theorem allNe_of {I : Addr} : ∀ {l : List (Addr × Obj)}, (∀ p ∈ l, p.1 ≠ I) → AllNe I l
  | [], _ => trivial
  | p :: _, h => ⟨h p (.head _), allNe_of fun q hq => h q (.tail _ hq)⟩
theorem of_allNe {I : Addr} {l : List (Addr × Obj)} (h : AllNe I l) : ∀ p ∈ l, p.1 ≠ I := by
  induction l with
  | nil => intro p hp; cases hp
  | cons q r ih =>
    intro p hp
    rcases List.mem_cons.mp hp with e | hp
    · rw [e]; exact h.1
    · exact ih h.2 p hp
theorem fr_form {h₀ h : Heap} {L : Addr} {m : Str → Option Value} {x y : Str} {v u : Value} (F : Fr h₀ L h m) (h1 : m x = some v) (h2 : m y = some u) : Fr h₀ L h (fun z => if z = x then some v else if z = y then some u else m z) := by
  have e : (fun z => if z = x then some v else if z = y then some u else m z) = m := by
    funext z
    by_cases a : z = x
    · rw [if_pos a, a, h1]
    · rw [if_neg a]
      by_cases b : z = y
      · rw [if_pos b, b, h2]
      · rw [if_neg b]
  rw [e]; exact F
theorem fr_form3 {h₀ h : Heap} {L : Addr} {m : Str → Option Value} {w x y : Str} {q v u : Value} (F : Fr h₀ L h (fun z => if z = w then some q else m z)) (h1 : m x = some v) (h2 : m y = some u) :
    Fr h₀ L h (fun z => if z = w then some q else if z = x then some v else if z = y then some u else m z) := by
  have e : (fun z => if z = w then some q else if z = x then some v else if z = y then some u else m z) = fun z => if z = w then some q else m z := by
    funext z
    by_cases c : z = w
    · rw [if_pos c, if_pos c]
    · rw [if_neg c, if_neg c]
      by_cases a : z = x
      · rw [if_pos a, a, h1]
      · rw [if_neg a]
        by_cases b : z = y
        · rw [if_pos b, b, h2]
        · rw [if_neg b]
  rw [e]; exact F
end Mine
open Mine
local macro_rules | `(tactic| walk_at "eval Call") => `(tactic| (k_here; (with_reducible show wpAny _ _ (eval (Expr.Call (Expr.Name _ _) _ [] _) _) _ _ _); (fail_if_success (with_reducible show wpAny _ _ (eval (Expr.Call (Expr.Name (PySem.Str.ofString "_law_cell") _) _ [] _) _) _ _ _)); k_dflt (refine Call_ ?_)))
local macro_rules | `(tactic| walk_at "storeName") => `(tactic| (k_here; (with_reducible show wpAny _ _ (storeName _ _ (Value.int _ _)) _ _ _); (first | (refine gs_add ?_; intro v' t' hv') | (refine gs_sub ?_; intro v' t' hv') | (refine gs_mul ?_; intro v' t' hv') | (refine gs_fdiv (by decide) ?_; intro v' t' hv') | (refine gs_fmod (by decide) ?_; intro v' t' hv') | (refine gs_tok ?_; intro t')); k_dflt (refine' storeX_L ?F ?N ?_ ?a ?b; (case F => k_asm); (case N => k_asm); (case a => rfl); (case b => rfl); k_whole; intro h' F' N'; (try k_sweep))))
local macro_rules | `(tactic| walk_at "call ref") => `(tactic| (k_here; k_dflt (refine' Cl.use (date_c _ _ _ _ _ _ _ _ _ ) ?k1 ?k2 ?k3 ?k4 ?k5 ?kK ?kd ?ku ?_;  (case k1 => k_asm); (case k2 => k_asm); (case k3 => k_asm); (case k4 => k_asm); (case k5 => k_asm); (case kK => first | exact rfl | assumption); (case kd => ktr_room); (case ku => ktr_units); k_whole; intro D9 t91 t92 t93 h9 tk9 F9 N9 l9; (try dsimp only); (try k_lt l9); (try k_sweep); (try k_fold))))
local macro_rules | `(tactic| walk_at "call ref") => `(tactic| (k_here; k_dflt (refine' Cl.use (fromjdG_d _ _ _ _ _ _ _ ) ?k1 ?k2 ?k3 ?k4 ?k5 ?kK ?kd ?ku ?_;  (case k1 => k_asm); (case k2 => k_asm); (case k3 => k_asm); (case k4 => k_asm); (case k5 => k_asm); (case kK => first | exact rfl | assumption); (case kd => ktr_room); (case ku => ktr_units); k_whole; intro D9 t91 t92 t93 h9 tk9 F9 N9 l9; (try dsimp only); (try k_lt l9); (try k_sweep); (try k_fold))))
local macro_rules | `(tactic| walk_at "call ref") => `(tactic| (k_here; k_dflt (refine' Cl.use (fromjdG_z _ _ _ _ _ _ _ ) ?k1 ?k2 ?k3 ?k4 ?k5 ?kK ?kd ?ku ?_;  (case k1 => k_asm); (case k2 => k_asm); (case k3 => k_asm); (case k4 => k_asm); (case k5 => k_asm); (case kK => first | exact rfl | assumption); (case kd => ktr_room); (case ku => ktr_units); k_whole; intro D9 t91 t92 t93 h9 tk9 F9 N9 l9; (try dsimp only); (try k_lt l9); (try k_sweep); (try k_fold))))
local macro_rules | `(tactic| walk_at "call ref") => `(tactic| (k_here; k_dflt (refine' deed_use ?m1 ?m2 ?m3 ?hk ?k1 ?k2 ?k3 ?k4 ?k5 ?kK ?_; (case k4 => k_asm); (case m1 => k_mem); (case m2 => k_mem); (case m3 => k_mem); (case hk => assumption); (case k1 => k_asm); (case k2 => k_asm); (case k3 => k_asm); (case k5 => k_asm); (case kK => first | exact rfl | assumption); k_whole; intro h9 tk9 F9 N9; (try dsimp only); (try k_sweep); (try k_fold))))
set_option maxRecDepth 100000 in
set_option maxHeartbeats 8000000 in
theorem PySem.Challenge.cw_aq6012_01_holds : PySem.Challenge.rw_aq6012_01.Holds := by
  refine Mine.hd ?_
  w_on
  k_go0
  all_goals (try k_fold)
  k_steps
  rename Fr _ _ _ _ => F0
  rename News _ _ _ _ => N0
  rename IntsAre _ _ => I0
  have J0 := start_of F0 N0 rfl rfl (by omega) ⟨by omega, by omega, by omega⟩
  refine iter_grow (Between _ _ _ _ _ _) rfl (List.Mem.head _) I0 F0 N0 J0 (fun m nx h => h.list) ?turn ?done
  case turn =>
    intro n t m₁ news₁ s₁ I o hJ hI F1 N1
    obtain ⟨k, t0, ss, rfl, ⟨a, r, rfl, hr, he⟩, hD, hls, hm1, hm2⟩ := hJ
    replace hI := allNe_of hI
    have F2 := fr_form3 F1 hm1 hm2
    clear F1
    rcases r with _ | ⟨b, _ | ⟨c, _ | ⟨q, r⟩⟩⟩
    · (obtain ⟨sl, d, dd, n1, e, te, tke⟩ := a; dsimp only at he; subst he)
      simp only [ledOf, Slot.objs, slotObjs, List.map_cons, List.map_nil, List.flatMap_cons, List.flatMap_nil, List.append_nil, List.cons_append, List.nil_append, List.forall_mem_cons, List.not_mem_nil, false_implies, implies_true, and_true, AllNe] at N1 hI hls
      (try k_fold)
      k_steps
      all_goals first
        | (refine GrowEnd.intro (by k_asm) (by k_asm) ?_ ?_; (refine of_allNe ?_; simp only [AllNe, and_true]; omega); (exact Between.one rfl rfl (by omega) ⟨by omega, by omega, by omega⟩))
        | (refine GrowEnd.intro (by k_asm) (news_rot (by k_asm)) ?_ ?_; (refine of_allNe ?_; simp only [List.cons_append, List.nil_append, AllNe, and_true]; omega); (simp only [List.cons_append, List.nil_append]; exact Between.two rfl rfl (by omega) ⟨by omega, by omega, by omega⟩ ⟨by omega, by omega, by omega⟩))
    · (obtain ⟨sl, d, dd, n1, e, te, tke⟩ := a; obtain ⟨sl2, d2, dd2, n2, e2, te2, tke2⟩ := b; dsimp only at he; subst he)
      simp only [ledOf, Slot.objs, slotObjs, List.map_cons, List.map_nil, List.flatMap_cons, List.flatMap_nil, List.append_nil, List.cons_append, List.nil_append, List.forall_mem_cons, List.not_mem_nil, false_implies, implies_true, and_true, AllNe] at N1 hI hls
      (try k_fold)
      k_steps
      all_goals first
        | (refine GrowEnd.intro (by k_asm) (by k_asm) ?_ ?_; (refine of_allNe ?_; simp only [AllNe, and_true]; omega); (exact Between.two rfl rfl (by omega) ⟨by omega, by omega, by omega⟩ ⟨by omega, by omega, by omega⟩))
        | (refine GrowEnd.intro (by k_asm) (news_rot (by k_asm)) ?_ ?_; (refine of_allNe ?_; simp only [List.cons_append, List.nil_append, AllNe, and_true]; omega); (simp only [List.cons_append, List.nil_append]; exact Between.three rfl rfl (by omega) ⟨by omega, by omega, by omega⟩ ⟨by omega, by omega, by omega⟩ ⟨by omega, by omega, by omega⟩))
    · (obtain ⟨sl, d, dd, n1, e, te, tke⟩ := a; obtain ⟨sl2, d2, dd2, n2, e2, te2, tke2⟩ := b; obtain ⟨sl3, d3, dd3, n3, e3, te3, tke3⟩ := c; dsimp only at he; subst he)
      simp only [ledOf, Slot.objs, slotObjs, List.map_cons, List.map_nil, List.flatMap_cons, List.flatMap_nil, List.append_nil, List.cons_append, List.nil_append, List.forall_mem_cons, List.not_mem_nil, false_implies, implies_true, and_true, AllNe] at N1 hI hls
      (try k_fold)
      k_steps
      all_goals first
        | (refine GrowEnd.intro (by k_asm) (by k_asm) ?_ ?_; (refine of_allNe ?_; simp only [AllNe, and_true]; omega); (exact Between.three rfl rfl (by omega) ⟨by omega, by omega, by omega⟩ ⟨by omega, by omega, by omega⟩ ⟨by omega, by omega, by omega⟩))
    · exact absurd hr (by simp only [List.length_cons]; omega)
  case done =>
    intro m₁ news₁ h tk hJ F1 N1
    obtain ⟨k, t0, ss, rfl, ⟨a, r, rfl, hr, he⟩, hD, hls, hm1, hm2⟩ := hJ
    have F2 := fr_form F1 hm1 hm2
    clear F1
    rcases r with _ | ⟨b, _ | ⟨c, _ | ⟨q, r⟩⟩⟩
    · (obtain ⟨sl, d, dd, n1, e, te, tke⟩ := a; dsimp only at he; subst he)
      simp only [ledOf, Slot.objs, slotObjs, List.map_cons, List.map_nil, List.flatMap_cons, List.flatMap_nil, List.append_nil, List.cons_append, List.nil_append, List.forall_mem_cons, List.not_mem_nil, false_implies, implies_true, and_true, AllNe] at N1
      (try k_fold)
      k_steps
    · (obtain ⟨sl, d, dd, n1, e, te, tke⟩ := a; obtain ⟨sl2, d2, dd2, n2, e2, te2, tke2⟩ := b; dsimp only at he; subst he)
      simp only [ledOf, Slot.objs, slotObjs, List.map_cons, List.map_nil, List.flatMap_cons, List.flatMap_nil, List.append_nil, List.cons_append, List.nil_append, List.forall_mem_cons, List.not_mem_nil, false_implies, implies_true, and_true, AllNe] at N1
      (try k_fold)
      k_steps
    · (obtain ⟨sl, d, dd, n1, e, te, tke⟩ := a; obtain ⟨sl2, d2, dd2, n2, e2, te2, tke2⟩ := b; obtain ⟨sl3, d3, dd3, n3, e3, te3, tke3⟩ := c; dsimp only at he; subst he)
      simp only [ledOf, Slot.objs, slotObjs, List.map_cons, List.map_nil, List.flatMap_cons, List.flatMap_nil, List.append_nil, List.cons_append, List.nil_append, List.forall_mem_cons, List.not_mem_nil, false_implies, implies_true, and_true, AllNe] at N1
      (try k_fold)
      k_steps
    · exact absurd hr (by simp only [List.length_cons]; omega)
