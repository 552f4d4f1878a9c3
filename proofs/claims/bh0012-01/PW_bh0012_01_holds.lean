import PyProof.Rows.All
import Wide.All
import OpenK.AllK
import Wide.FinOn
import PySem.Challenge.RW_bh0012_01
open PySem PySem.Spec PySem.Calls PySem.W PyProof.Rows
set_option Elab.async false
set_option maxRecDepth 100000
namespace Mine
set_option maxHeartbeats 8000000 in
open_top hd for PySem.Challenge.rw_bh0012_01
theorem fdivE (a : Int) {b : Int} (h : 0 ≤ b) : a.fdiv b = a / b := Int.fdiv_eq_ediv_of_nonneg a h
theorem fmodE (a : Int) {b : Int} (h : 0 ≤ b) : a.fmod b = a % b := Int.fmod_eq_emod_of_nonneg a h
def leap (y : Int) : Bool := decide (y % 4 = 0) && (decide (y % 100 ≠ 0) || decide (y % 400 = 0))
def ml (y m : Int) : Int := if m = 2 then (if leap y then 29 else 28) else if m = 4 ∨ m = 6 ∨ m = 9 ∨ m = 11 then 30 else 31
def J (y m d : Int) : Int :=
  1721425 + 365 * (y - 1) + (y - 1) / 4 - (y - 1) / 100 + (y - 1) / 400 + ((367 * m - 362) / 12 + (if m ≤ 2 then 0 else if leap y then -1 else -2) + d)
def Legal (y m d : Int) : Prop := 1 ≤ d ∧ d ≤ ml y m
theorem months {m : Int} (h1 : 1 ≤ m) (h2 : m ≤ 12) : m = 1 ∨ m = 2 ∨ m = 3 ∨ m = 4 ∨ m = 5 ∨ m = 6 ∨ m = 7 ∨ m = 8 ∨ m = 9 ∨ m = 10 ∨ m = 11 ∨ m = 12 := by omega
theorem ml_28 (y m : Int) : 28 ≤ ml y m := by
  unfold ml; split
  · split <;> omega
  · split <;> omega
def cent (n : Int) : Int := ((n - 1721426).fmod 146097).fdiv 36524
def yix (n : Int) : Int := ((((n - 1721426).fmod 146097).fmod 36524).fmod 1461).fdiv 365
def y0 (n : Int) : Int := (n - 1721426).fdiv 146097 * 400 + ((n - 1721426).fmod 146097).fdiv 36524 * 100 + (((n - 1721426).fmod 146097).fmod 36524).fdiv 1461 * 4 + ((((n - 1721426).fmod 146097).fmod 36524).fmod 1461).fdiv 365
def gY (n : Int) : Int := if cent n = 4 ∨ yix n = 4 then y0 n else y0 n + 1
def gAof (n Y : Int) : Int := if n - J Y 1 1 < 58 + (if leap Y = true then 1 else 0) then 0 else if leap Y = true then 1 else 2
def gM (n : Int) : Int := ((n - J (gY n) 1 1 + gAof n (gY n)) * 12 + 373).fdiv 367
def gD (n : Int) : Int := n - J (gY n) (gM n) 1 + 1
theorem legal1 (y m : Int) : Legal y m 1 := ⟨Int.le_refl 1, Int.le_trans (by decide) (ml_28 y m)⟩
def G (y : Int) : Int := J y 1 1
def wpy (y : Int) : Int := if G y % 7 = 3 ∨ (G y % 7 = 2 ∧ leap y = true) then 53 else 52
def W (y : Int) : Int := if G y % 7 > 3 then G y - G y % 7 + 7 else G y - G y % 7
theorem ml_12 (y : Int) : 31 = ml y 12 := by simp [ml]
def pY (n : Int) : Int := if yix n = 4 then y0 n - 1 - 1789 + 2 else y0 n - 1789 + 2
def pD (n : Int) : Int := if yix n = 4 then 365 else
  n - 1721426 - (n - 1721426).fdiv 146097 * 146097 - ((n - 1721426).fmod 146097).fdiv 36524 * 36524 - (((n - 1721426).fmod 146097).fmod 36524).fdiv 1461 * 1461 - ((((n - 1721426).fmod 146097).fmod 36524).fmod 1461).fdiv 365 * 365
def isoA (y t : Int) : Int := (t - W y).fdiv 7
def isoY (y t : Int) : Int := if isoA y t < 0 then y - 1 else if 52 ≤ isoA y t ∧ W (y + 1) ≤ t then y + 1 else y
def isoW (y t : Int) : Int := if isoA y t < 0 then (t - W (y - 1)).fdiv 7 + 1 else if 52 ≤ isoA y t ∧ W (y + 1) ≤ t then 1 else (t - W y).fdiv 7 + 1
def isoD (y t : Int) : Int := if isoA y t < 0 then (t - W (y - 1)).fmod 7 + 1 else (t - W y).fmod 7 + 1
def IJ (y m d : Int) : Int :=
  if m = 1 then J (y + 78) 3 (22 - (if leap (y + 78) = true then 1 else 0)) + (d - 1)
  else J (y + 78) 3 (22 - (if leap (y + 78) = true then 1 else 0)) + (if leap (y + 78) = true then 31 else 30) + (if 5 < m - 2 then 5 else m - 2) * 31 + (if 8 ≤ m then (m - 7) * 30 else 0) + (d - 1)
theorem legal3 (y : Int) (b : Bool) : Legal y 3 (22 - (if b = true then 1 else 0)) := by
  unfold Legal ml; cases b <;> simp <;> omega
def iC (n : Int) : Int := if leap (gY n) = true then 31 else 30
def iT (n : Int) : Int := n - J (gY n) 1 1
def iU (n : Int) : Int := if iT n < 80 then iT n + (iC n + 31 * 5 + 30 * 3 + 10 + 80) - 80 else iT n - 80
def iY (n : Int) : Int := if iT n < 80 then gY n - 78 - 1 else gY n - 78
def iM (n : Int) : Int := if iU n < iC n then 1 else if iU n - iC n < 31 * 5 then (iU n - iC n).fdiv 31 + 2 else (iU n - iC n - 31 * 5).fdiv 30 + 7
def iD (n : Int) : Int := if iU n < iC n then iU n + 1 else if iU n - iC n < 31 * 5 then (iU n - iC n).fmod 31 + 1 else (iU n - iC n - 31 * 5).fmod 30 + 1
def my1 (n : Int) : Int := (n - 584283).fdiv 144000
def my2 (n : Int) : Int := ((n - 584283).fmod 144000).fdiv 7200
def my3 (n : Int) : Int := (((n - 584283).fmod 144000).fmod 7200).fdiv 360
def my4 (n : Int) : Int := ((((n - 584283).fmod 144000).fmod 7200).fmod 360).fdiv 20
def my5 (n : Int) : Int := ((((n - 584283).fmod 144000).fmod 7200).fmod 360).fmod 20
theorem from_back (n : Int) (h : 1721426 ≤ n) : J (gY n) (gM n) (gD n) = n := by
  unfold gD J; omega

theorem G_eq (y : Int) : G y = 1721426 + 365 * (y - 1) + (y - 1) / 4 - (y - 1) / 100 + (y - 1) / 400 := by
  simp only [G, J, show ((1 : Int) ≤ 2) = True by decide, if_true]; omega
def lp (y : Int) : Int := if leap y = true then 1 else 0
theorem lp_cases (y : Int) : (lp y = 1 ∧ leap y = true ∧ y % 4 = 0 ∧ (y % 100 ≠ 0 ∨ y % 400 = 0)) ∨ (lp y = 0 ∧ leap y = false ∧ (y % 4 ≠ 0 ∨ (y % 100 = 0 ∧ y % 400 ≠ 0))) := by
  unfold lp
  cases h : leap y
  · right
    refine ⟨by simp, rfl, ?_⟩
    simp [leap] at h
    omega
  · left
    refine ⟨by simp, rfl, ?_⟩
    simp [leap] at h
    omega
theorem G_succ (y : Int) : G (y + 1) = G y + 365 + lp y := by
  rw [G_eq, G_eq]
  rcases lp_cases y with ⟨h, -, h2, h3⟩ | ⟨h, -, h2⟩ <;> rw [h] <;> omega

/-- the year: its first day lies at or before n, the next one's behind it -/
theorem year_parts (n : Int) (h : 1721426 ≤ n) : ∃ q c k i r : Int, 0 ≤ q ∧ 0 ≤ c ∧ c ≤ 4 ∧ 0 ≤ k ∧ k ≤ 24 ∧ 0 ≤ i ∧ i ≤ 4 ∧ 0 ≤ r ∧ r < 365 ∧ n = 1721426 + 146097 * q + 36524 * c + 1461 * k + 365 * i + r ∧
    cent n = c ∧ yix n = i ∧ y0 n = 400 * q + 100 * c + 4 * k + i ∧ (c = 4 → k = 0 ∧ i = 0 ∧ r = 0) ∧ (i = 4 → k ≤ 23 ∧ r = 0) ∧ 1461 * k + 365 * i + r < 36524 ∧ 365 * i + r < 1461 := by
  have e : ∀ (a b : Int), 0 ≤ b → a.fdiv b = a / b := fun a b h => fdivE a h
  have f : ∀ (a b : Int), 0 ≤ b → a.fmod b = a % b := fun a b h => fmodE a h
  simp only [cent, yix, y0, fdivE, fmodE, Int.reduceLE]
  generalize hd : n - 1721426 = d
  have h0 : 0 ≤ d := by omega
  generalize hq : d / 146097 = q
  generalize hr : d % 146097 = r1
  generalize hc : r1 / 36524 = c
  generalize hr2 : r1 % 36524 = r2
  generalize hk : r2 / 1461 = k
  generalize hr3 : r2 % 1461 = r3
  generalize hi : r3 / 365 = i
  exact ⟨q, c, k, i, r3 % 365, by omega, by omega, by omega, by omega, by omega, by omega, by omega, by omega, by omega, by omega, rfl, rfl, by omega, by omega, by omega, by omega, by omega⟩

theorem year_of (n : Int) (h : 1721426 ≤ n) : 1 ≤ gY n ∧ G (gY n) ≤ n ∧ n < G (gY n + 1) := by
  obtain ⟨q, c, k, i, r, hq, hc0, hc, hk0, hk, hi0, hi, hr0, hr, hn, h1, h2, h3, h4, h5, h6, h7⟩ := year_parts n h
  by_cases hc4 : c = 4
  · have e : gY n = y0 n := if_pos (.inl (h1.trans hc4))
    rw [e, h3]
    obtain ⟨k0, i0, r0⟩ := h4 hc4
    rw [G_succ, G_eq]
    rcases lp_cases (400 * q + 100 * c + 4 * k + i) with ⟨l, -, l2, l3⟩ | ⟨l, -, l2⟩ <;> rw [l] <;> subst hc4 <;> subst k0 <;> subst i0 <;> omega
  · by_cases hi4 : i = 4
    · have e : gY n = y0 n := if_pos (.inr (h2.trans hi4))
      rw [e, h3]
      obtain ⟨k1, r0⟩ := h5 hi4
      rw [G_succ, G_eq]
      rcases lp_cases (400 * q + 100 * c + 4 * k + i) with ⟨l, -, l2, l3⟩ | ⟨l, -, l2⟩ <;> rw [l] <;> subst hi4 <;> omega
    · have e : gY n = y0 n + 1 := if_neg fun hh => hh.elim (fun a => hc4 (h1.symm.trans a)) fun a => hi4 (h2.symm.trans a)
      rw [e, h3]
      rw [G_succ (400 * q + 100 * c + 4 * k + i + 1), G_eq (400 * q + 100 * c + 4 * k + i + 1), show 400 * q + 100 * c + 4 * k + i + 1 - 1 = 400 * q + 100 * c + 4 * k + i by omega,
        show (400 * q + 100 * c + 4 * k + i) / 4 = 100 * q + 25 * c + k by omega, show (400 * q + 100 * c + 4 * k + i) / 100 = 4 * q + c by omega, show (400 * q + 100 * c + 4 * k + i) / 400 = q by omega]
      clear h h1 h2 h3 e
      rcases lp_cases (400 * q + 100 * c + 4 * k + i + 1) with ⟨l, -, l2, l3⟩ | ⟨l, -, l2⟩ <;> rw [l] <;> omega

theorem J_month (y m d : Int) : J y m d = G y - 1 + ((367 * m - 362) / 12 + (if m ≤ 2 then 0 else lp y - 2) + d) := by
  have h : (if m ≤ 2 then 0 else if leap y then -1 else -2 : Int) = if m ≤ 2 then 0 else lp y - 2 := by
    unfold lp
    split
    · rfl
    · split <;> omega
  rw [G_eq]
  unfold J
  rw [h]
  omega
theorem ml_eq (y m : Int) : ml y m = if m = 2 then 28 + lp y else if m = 4 ∨ m = 6 ∨ m = 9 ∨ m = 11 then 30 else 31 := by
  unfold ml lp
  split
  · split <;> omega
  · rfl
theorem gA_eq (n y : Int) : gAof n y = if n - G y < 58 + lp y then 0 else 2 - lp y := by
  unfold gAof
  show (if n - G y < 58 + lp y then _ else _) = _
  split
  · rfl
  · unfold lp; split <;> omega
theorem from_all (n : Int) (h : 1721426 ≤ n) : (1 ≤ gM n ∧ gM n ≤ 12) ∧ Legal (gY n) (gM n) (gD n) := by
  obtain ⟨hy, h1, h2⟩ := year_of n h
  rw [G_succ] at h2
  unfold Legal gD gM
  rw [show J (gY n) 1 1 = G (gY n) from rfl, gA_eq, fdivE _ (by decide)]
  generalize gY n = y at *
  generalize hx : n - G y = x
  have hn : n = G y + x := by omega
  have hb : 0 ≤ x ∧ x < 365 + lp y := by omega
  rw [ml_eq, J_month]
  have hl : lp y = 0 ∨ lp y = 1 := by rcases lp_cases y with ⟨l, _⟩ | ⟨l, _⟩ <;> omega
  generalize hm : ((x + if x < 58 + lp y then 0 else 2 - lp y) * 12 + 373) / 367 = m
  have hm2 : 1 ≤ m ∧ m ≤ 12 := by
    split at hm <;> omega
  refine ⟨hm2, ?_⟩
  rw [hn]
  rcases months hm2.1 hm2.2 with e | e | e | e | e | e | e | e | e | e | e | e <;> subst e <;> simp (config := { decide := true }) only [if_true, if_false] <;> split at hm <;> omega
theorem from_month (n : Int) (h : 1721426 ≤ n) : 1 ≤ gM n ∧ gM n ≤ 12 := (from_all n h).1
theorem from_legal (n : Int) (h : 1721426 ≤ n) : (1 ≤ gM n ∧ gM n ≤ 12) ∧ Legal (gY n) (gM n) (gD n) := from_all n h
theorem from_year (n : Int) (h1 : 1721426 ≤ n) (h2 : n ≤ 5373484) : 1 ≤ gY n ∧ gY n ≤ 9999 := by
  obtain ⟨hy, h3, h4⟩ := year_of n h1
  refine ⟨hy, ?_⟩
  rw [G_eq] at h3
  omega

theorem uniq (S : Int → Int) (hs : ∀ y, S y < S (y + 1)) {y z n : Int} (h1 : S y ≤ n) (h2 : n < S (y + 1)) (h3 : S z ≤ n) (h4 : n < S (z + 1)) : y = z := by
  have mono : ∀ (k : Nat) (a : Int), S a ≤ S (a + k) := by
    intro k
    induction k with
    | zero => intro a; simp
    | succ k ih =>
      intro a
      have := ih a
      have h := hs (a + k)
      rw [show a + ((k + 1 : Nat) : Int) = a + k + 1 by omega]
      omega
  have le : ∀ a b : Int, a ≤ b → S a ≤ S b := by
    intro a b h
    have := mono (b - a).toNat a
    rw [show a + ((b - a).toNat : Int) = b by omega] at this
    exact this
  rcases Int.lt_trichotomy y z with h | h | h
  · have := le (y + 1) z (by omega); omega
  · exact h
  · have := le (z + 1) y (by omega); omega

theorem W_near (y : Int) : G y - 3 ≤ W y ∧ W y ≤ G y + 3 := by
  unfold W; split <;> omega
theorem W_succ (y : Int) : W (y + 1) = W y + 7 * wpy y := by
  have h := G_succ y
  unfold W wpy
  rw [h]
  generalize G y = g
  rcases lp_cases y with ⟨l, l1, -⟩ | ⟨l, l1, -⟩ <;> rw [l, l1] <;> simp only [and_true, and_false, or_false, Bool.false_eq_true]
  · split <;> split <;> split <;> omega
  · split <;> split <;> split <;> omega
theorem wpy_two (y : Int) : wpy y = 52 ∨ wpy y = 53 := by unfold wpy; split <;> simp

theorem iso_all (n : Int) (h : 1721426 ≤ n) : W (isoY (gY n) n) ≤ n ∧ n < W (isoY (gY n) n + 1) ∧ isoW (gY n) n = (n - W (isoY (gY n) n)) / 7 + 1 ∧ isoD (gY n) n = (n - W (isoY (gY n) n)) % 7 + 1 := by
  obtain ⟨-, h1, h2⟩ := year_of n h
  generalize gY n = y at *
  have a := W_near y
  have b := W_near (y + 1)
  have c := W_succ (y - 1)
  have d := W_succ y
  have e := W_succ (y + 1)
  rw [show y - 1 + 1 = y by omega] at c
  have c2 := wpy_two (y - 1)
  have d2 := wpy_two y
  have e2 := wpy_two (y + 1)
  unfold isoY isoW isoD isoA
  simp only [fdivE, fmodE, Int.reduceLE]
  by_cases h3 : (n - W y) / 7 < 0
  · rw [if_pos h3, if_pos h3, if_pos h3]
    refine ⟨by omega, ?_, rfl, rfl⟩
    rw [show y - 1 + 1 = y by omega]
    omega
  · rw [if_neg h3, if_neg h3, if_neg h3]
    by_cases h4 : 52 ≤ (n - W y) / 7 ∧ W (y + 1) ≤ n
    · rw [if_pos h4, if_pos h4]
      exact ⟨by omega, by omega, by omega, by omega⟩
    · rw [if_neg h4, if_neg h4]
      refine ⟨by omega, ?_, rfl, rfl⟩
      by_cases h5 : W (y + 1) ≤ n
      · have : ¬ 52 ≤ (n - W y) / 7 := fun q => h4 ⟨q, h5⟩
        omega
      · omega

theorem pos_all (n : Int) (h : 1721426 ≤ n) (ho : ¬ (gY n % 400 = 0 ∧ gM n = 12 ∧ gD n = 31)) : pY n = gY n - 1788 ∧ pD n = n - G (gY n) := by
  obtain ⟨q, c, k, i, r, hq, hc0, hc, hk0, hk, hi0, hi, hr0, hr, hn, h1, h2, h3, h4, h5, h6, h7⟩ := year_parts n h
  by_cases hc4 : c = 4
  · exfalso
    have e : gY n = y0 n := if_pos (.inl (h1.trans hc4))
    obtain ⟨k0, i0, r0⟩ := h4 hc4
    obtain ⟨hy, g1, g2⟩ := year_of n h
    have ey : gY n = 400 * q + 400 := by rw [e, h3]; omega
    have gx := G_eq (400 * q + 400)
    have hx : n = G (400 * q + 400) + 365 := by omega
    have hm := from_all n h
    have hb := from_back n h
    rw [J_month] at hb
    unfold Legal at hm
    rw [ml_eq] at hm
    rw [ey] at ho hb hm
    obtain ⟨⟨m1, m2⟩, d1, d2⟩ := hm
    have hl : lp (400 * q + 400) = 1 := by rcases lp_cases (400 * q + 400) with ⟨l, _⟩ | ⟨l, _, l2⟩ <;> omega
    rw [hl] at hb d2
    generalize gM n = m at *
    generalize gD n = d at *
    apply ho
    rcases months m1 m2 with e | e | e | e | e | e | e | e | e | e | e | e <;> subst e <;> simp (config := { decide := true }) only [if_true, if_false] at hb d2 <;> omega
  · have hp : pD n = if i = 4 then 365 else r := by
      have f0 : (n - 1721426) / 146097 = q := by omega
      have f1 : (n - 1721426) % 146097 = 36524 * c + 1461 * k + 365 * i + r := by omega
      have f2 : (36524 * c + 1461 * k + 365 * i + r) / 36524 = c := by omega
      have f3 : (36524 * c + 1461 * k + 365 * i + r) % 36524 = 1461 * k + 365 * i + r := by omega
      have f4 : (1461 * k + 365 * i + r) / 1461 = k := by omega
      have f5 : (1461 * k + 365 * i + r) % 1461 = 365 * i + r := by omega
      have f6 : (365 * i + r) / 365 = i := by omega
      unfold pD
      rw [h2]
      split
      · rfl
      · simp only [fdivE, fmodE, Int.reduceLE]
        rw [f0, f1, f2, f3, f4, f5, f6]
        omega
    have hpy : pY n = if i = 4 then y0 n - 1788 else y0 n - 1787 := by
      unfold pY; rw [h2]; split <;> omega
    rw [hp, hpy]
    by_cases hi4 : i = 4
    · have e : gY n = y0 n := if_pos (.inr (h2.trans hi4))
      obtain ⟨k1, r0⟩ := h5 hi4
      simp only [hi4, if_true]
      rw [e, h3, G_eq, hn, hi4, r0]
      rw [show (400 * q + 100 * c + 4 * k + 4 - 1) / 4 = 100 * q + 25 * c + k by omega, show (400 * q + 100 * c + 4 * k + 4 - 1) / 100 = 4 * q + c by omega, show (400 * q + 100 * c + 4 * k + 4 - 1) / 400 = q by omega]
      omega
    · have e : gY n = y0 n + 1 := if_neg fun hh => hh.elim (fun a => hc4 (h1.symm.trans a)) fun a => hi4 (h2.symm.trans a)
      simp only [hi4, if_false]
      rw [e, h3, G_eq, hn, show 400 * q + 100 * c + 4 * k + i + 1 - 1 = 400 * q + 100 * c + 4 * k + i by omega]
      rw [show (400 * q + 100 * c + 4 * k + i) / 4 = 100 * q + 25 * c + k by omega, show (400 * q + 100 * c + 4 * k + i) / 100 = 4 * q + c by omega, show (400 * q + 100 * c + 4 * k + i) / 400 = q by omega]
      omega

/-- the first day of a month of the Indian year -/
theorem IJ_eq (y m d : Int) (h1 : 1 ≤ m) (h2 : m ≤ 12) : IJ y m d = G (y + 78) + 80 + (if m = 1 then 0 else 30 + lp (y + 78) + (if m ≤ 7 then (m - 2) * 31 else 155 + (m - 7) * 30)) + (d - 1) := by
  unfold IJ
  rw [J_month]
  rw [show (if leap (y + 78) = true then 31 else 30 : Int) = 30 + lp (y + 78) by unfold lp; split <;> rfl, show (if leap (y + 78) = true then 1 else 0 : Int) = lp (y + 78) from rfl]
  rcases months h1 h2 with e | e | e | e | e | e | e | e | e | e | e | e <;> subst e <;> simp (config := { decide := true }) only [if_true, if_false] <;> omega
/-- the months in a row: month m of the year y has the number 12 y + m - 1 -/
def Im (z : Int) : Int := IJ (z / 12) (z % 12 + 1) 1
def Il (y m : Int) : Int := if m < 12 then IJ y (m + 1) 1 - IJ y m 1 else 30
theorem Im_at (y m : Int) (h1 : 1 ≤ m) (h2 : m ≤ 12) : Im (12 * y + m - 1) = IJ y m 1 := by
  unfold Im
  rw [show (12 * y + m - 1) / 12 = y by omega, show (12 * y + m - 1) % 12 + 1 = m by omega]
theorem lp_01 (y : Int) : 0 ≤ lp y ∧ lp y ≤ 1 := by rcases lp_cases y with ⟨l, _⟩ | ⟨l, _⟩ <;> omega
theorem Im_next (y m : Int) (h1 : 1 ≤ m) (h2 : m ≤ 12) : Im (12 * y + m - 1 + 1) = IJ y m 1 + Il y m := by
  unfold Il
  split
  · rename_i h
    rw [show 12 * y + m - 1 + 1 = 12 * y + (m + 1) - 1 by omega, Im_at y (m + 1) (by omega) (by omega)]
    omega
  · have e : m = 12 := by omega
    subst e
    rw [show 12 * y + 12 - 1 + 1 = 12 * (y + 1) + 1 - 1 by omega, Im_at (y + 1) 1 (by omega) (by omega), IJ_eq _ _ _ (by omega) (by omega), IJ_eq _ _ _ (by omega) (by omega)]
    have := G_succ (y + 78)
    rw [show y + 78 + 1 = y + 1 + 78 by omega] at this
    simp (config := { decide := true }) only [if_true, if_false]
    omega
theorem Il_val (y m : Int) (h1 : 1 ≤ m) (h2 : m ≤ 12) : Il y m = if m = 1 then 30 + lp (y + 78) else if m ≤ 6 then 31 else 30 := by
  unfold Il
  split
  · rw [IJ_eq _ _ _ (by omega) (by omega), IJ_eq _ _ _ (by omega) (by omega)]
    rcases months h1 h2 with e | e | e | e | e | e | e | e | e | e | e | e <;> subst e <;> simp (config := { decide := true }) only [if_true, if_false] <;> omega
  · rw [if_neg (by omega), if_neg (by omega)]
theorem Il_30 (y m : Int) (h1 : 1 ≤ m) (h2 : m ≤ 12) : 30 ≤ Il y m := by
  have := lp_01 (y + 78)
  rw [Il_val y m h1 h2]
  split
  · omega
  · split <;> omega
theorem Im_lt (z : Int) : Im z < Im (z + 1) := by
  have e : z = 12 * (z / 12) + (z % 12 + 1) - 1 := by omega
  have a := Im_next (z / 12) (z % 12 + 1) (by omega) (by omega)
  have b := Im_at (z / 12) (z % 12 + 1) (by omega) (by omega)
  have c := Il_30 (z / 12) (z % 12 + 1) (by omega) (by omega)
  rw [← e] at a b
  omega
theorem ind_uniq {y m d y' m' d' : Int} (h1 : 1 ≤ m) (h2 : m ≤ 12) (h3 : 1 ≤ d) (h4 : d ≤ Il y m) (h1' : 1 ≤ m') (h2' : m' ≤ 12) (h3' : 1 ≤ d') (h4' : d' ≤ Il y' m')
    (e : IJ y m 1 + d = IJ y' m' 1 + d') : y = y' ∧ m = m' ∧ d = d' := by
  have a := Im_at y m h1 h2
  have b := Im_at y' m' h1' h2'
  have c := Im_next y m h1 h2
  have c' := Im_next y' m' h1' h2'
  have q := uniq Im Im_lt (y := 12 * y + m - 1) (z := 12 * y' + m' - 1) (n := IJ y m 1 + d - 1) (by omega) (by omega) (by omega) (by omega)
  have hy : y = y' := by omega
  have hm : m = m' := by omega
  subst hy; subst hm
  exact ⟨rfl, rfl, by omega⟩
theorem ind_all (n : Int) (h : 1721426 ≤ n) : (1 ≤ iM n ∧ iM n ≤ 12) ∧ 1 ≤ iD n ∧ iD n ≤ Il (iY n) (iM n) ∧ IJ (iY n) (iM n) 1 + iD n = n + 1 := by
  obtain ⟨-, h1, h2⟩ := year_of n h
  have hl := lp_01 (gY n)
  have hg := G_succ (gY n)
  have hg0 := G_succ (gY n - 1)
  rw [show gY n - 1 + 1 = gY n by omega] at hg0
  have hl0 := lp_01 (gY n - 1)
  have hc : iC n = 30 + lp (gY n) := by unfold iC lp; split <;> rfl
  have ht : iT n = n - G (gY n) := rfl
  by_cases hs : iT n < 80
  · have hu : iU n = iT n + 255 + iC n := by unfold iU; rw [if_pos hs]; omega
    have hm : iM n = (iT n + 100) / 30 + 7 := by
      unfold iM; rw [if_neg (by omega), if_neg (by omega), fdivE _ (by decide), hu]; omega
    have hd : iD n = (iT n + 100) % 30 + 1 := by
      unfold iD; rw [if_neg (by omega), if_neg (by omega), fmodE _ (by decide), hu]; omega
    have hy : iY n = gY n - 78 - 1 := by unfold iY; rw [if_pos hs]
    have hm2 : 10 ≤ iM n ∧ iM n ≤ 12 := by omega
    have k : IJ (iY n) (iM n) 1 + iD n = n + 1 := by
      rw [IJ_eq _ _ _ (by omega) (by omega), hy, show gY n - 78 - 1 + 78 = gY n - 1 by omega, if_neg (by omega), if_neg (by omega)]
      omega
    refine ⟨by omega, by omega, ?_, k⟩
    have := Il_30 (iY n) (iM n) (by omega) (by omega)
    omega
  · have hu : iU n = iT n - 80 := by unfold iU; rw [if_neg hs]
    have hy : iY n = gY n - 78 := by unfold iY; rw [if_neg hs]
    by_cases ha : iU n < iC n
    · have hm : iM n = 1 := by unfold iM; rw [if_pos ha]
      have hd : iD n = iU n + 1 := by unfold iD; rw [if_pos ha]
      have k : IJ (iY n) (iM n) 1 + iD n = n + 1 := by
        rw [hm, IJ_eq _ _ _ (by decide) (by decide), hy, show gY n - 78 + 78 = gY n by omega, if_pos rfl]
        omega
      refine ⟨by omega, by omega, ?_, k⟩
      rw [hm, Il_val _ _ (by decide) (by decide), if_pos rfl, hy, show gY n - 78 + 78 = gY n by omega]
      omega
    · by_cases hb : iU n - iC n < 31 * 5
      · have hm : iM n = (iU n - iC n) / 31 + 2 := by unfold iM; rw [if_neg ha, if_pos hb, fdivE _ (by decide)]
        have hd : iD n = (iU n - iC n) % 31 + 1 := by unfold iD; rw [if_neg ha, if_pos hb, fmodE _ (by decide)]
        have hm2 : 2 ≤ iM n ∧ iM n ≤ 6 := by omega
        have k : IJ (iY n) (iM n) 1 + iD n = n + 1 := by
          rw [IJ_eq _ _ _ (by omega) (by omega), hy, show gY n - 78 + 78 = gY n by omega, if_neg (by omega), if_pos (by omega)]
          omega
        refine ⟨by omega, by omega, ?_, k⟩
        rw [Il_val _ _ (by omega) (by omega), if_neg (by omega), if_pos (by omega)]
        omega
      · have hm : iM n = (iU n - iC n - 31 * 5) / 30 + 7 := by unfold iM; rw [if_neg ha, if_neg hb, fdivE _ (by decide)]
        have hd : iD n = (iU n - iC n - 31 * 5) % 30 + 1 := by unfold iD; rw [if_neg ha, if_neg hb, fmodE _ (by decide)]
        have hm2 : 7 ≤ iM n ∧ iM n ≤ 12 := by omega
        have k : IJ (iY n) (iM n) 1 + iD n = n + 1 := by
          rw [IJ_eq _ _ _ (by omega) (by omega), hy, show gY n - 78 + 78 = gY n by omega, if_neg (by omega)]
          split <;> omega
        refine ⟨by omega, by omega, ?_, k⟩
        have := Il_30 (iY n) (iM n) (by omega) (by omega)
        omega


theorem mod_parts (x : Int) : x % 144000 % 7200 % 360 % 20 = x % 20 ∧ x % 144000 % 7200 % 360 / 20 = x / 20 % 18 ∧ x % 144000 % 7200 / 360 = x / 20 / 18 % 20 ∧ x % 144000 / 7200 = x / 20 / 18 / 20 % 20 ∧ x / 144000 = x / 20 / 18 / 20 / 20 := by
  have e1 : x % 144000 % 7200 = x % 7200 := Int.emod_emod_of_dvd x (by decide)
  have e2 : x % 7200 % 360 = x % 360 := Int.emod_emod_of_dvd x (by decide)
  have e3 : x % 360 % 20 = x % 20 := Int.emod_emod_of_dvd x (by decide)
  have d1 : x / 20 / 18 = x / 360 := by omega
  have d2 : x / 360 / 20 = x / 7200 := by omega
  have d3 : x / 7200 / 20 = x / 144000 := by omega
  have f1 : x % 360 / 20 = x / 20 % 18 := by omega
  have f2 : x % 7200 / 360 = x / 360 % 20 := by omega
  have f3 : x % 144000 / 7200 = x / 7200 % 20 := by omega
  rw [e1, e2, e3, d1, d2, d3]
  exact ⟨rfl, f1, f2, f3, rfl⟩
theorem carry (x p b : Int) (hb : 0 < b) : (x + p) / b = x / b + (p + x % b) / b ∧ (x + p) % b = (p + x % b) % b := by
  have h := Int.mul_ediv_add_emod x b
  have e : x + p = (p + x % b) + b * (x / b) := by omega
  rw [e, Int.add_mul_ediv_left _ _ (by omega), Int.add_mul_emod_self_left]
  exact ⟨Int.add_comm _ _, rfl⟩
theorem mayan_all (n d : Int) :
    my5 (n + d) = (d + my5 n) % 20 ∧ my4 (n + d) = ((d + my5 n) / 20 + my4 n) % 18 ∧ my3 (n + d) = (((d + my5 n) / 20 + my4 n) / 18 + my3 n) % 20 ∧
    my2 (n + d) = ((((d + my5 n) / 20 + my4 n) / 18 + my3 n) / 20 + my2 n) % 20 ∧ my1 (n + d) = (((((d + my5 n) / 20 + my4 n) / 18 + my3 n) / 20 + my2 n) / 20 + my1 n) := by
  unfold my1 my2 my3 my4 my5
  simp only [fdivE, fmodE, Int.reduceLE]
  rw [show n + d - 584283 = n - 584283 + d by omega]
  generalize n - 584283 = x
  obtain ⟨a1, a2, a3, a4, a5⟩ := mod_parts x
  obtain ⟨b1, b2, b3, b4, b5⟩ := mod_parts (x + d)
  rw [a1, a2, a3, a4, a5, b1, b2, b3, b4, b5]
  obtain ⟨c1, c2⟩ := carry x d 20 (by decide)
  rw [c1, c2, Int.add_comm d]
  generalize (x % 20 + d) / 20 = p
  generalize x / 20 = y
  obtain ⟨c1, c2⟩ := carry y p 18 (by decide)
  rw [c1, c2]
  generalize (p + y % 18) / 18 = p2
  generalize y / 18 = y2
  obtain ⟨c1, c2⟩ := carry y2 p2 20 (by decide)
  rw [c1, c2]
  generalize (p2 + y2 % 20) / 20 = p3
  generalize y2 / 20 = y3
  obtain ⟨c1, c2⟩ := carry y3 p3 20 (by decide)
  rw [c1, c2]
  exact ⟨rfl, rfl, rfl, rfl, Int.add_comm _ _⟩

/-- a call's contract: `n` frames of room, `pre` is asked, `Ret` is what the caller goes on with -/
abbrev Claim (w : World) (mean : ExcName → Option Value) (mg mb : Str → Option Value) (n : Nat) (f : Addr) (vs : List Value) (pre : Prop)
    (Ret : Heap → Addr → (Str → Option Value) → List (Addr × Obj) → Shared → (Value → Shared → Prop) → Prop) : Prop :=
  ∀ (dp un : Nat) (gd : Option (List Code)) (cn : Str) (cs : Scope) (a : Addr) (ccd : Value) (cl : List (Str × Addr)) (outer : List Env) (A₀ : Around) (base h₀ : Heap) (L : Addr) (m : Str → Option Value) (news : List (Addr × Obj)) (s : Shared) (Q E : Value → Shared → Prop),
    Below A₀ base outer h₀ → Fr h₀ L s.heap m → (hd.heap_39 w.params).In h₀ → News h₀ L s.heap news →
    Top hd.view_39 (looseW hd.view_39 [Str.ofString "legal_date_gregorian", Str.ofString "to_jd_gregorian", Str.ofString "from_jd_gregorian", Str.ofString "from_jd_iso", Str.ofString "to_jd_indian_civil", Str.ofString "from_jd_indian_civil", Str.ofString "from_jd_mayan", Str.ofString "to_jd_ordinal", Str.ofString "from_jd_ordinal", Str.ofString "legal_date_positivist", Str.ofString "to_jd_positivist", Str.ofString "from_jd_positivist"]) mean mg mb h₀ → cs.kind = .function →
    pre → dp + n < recursionLimit → un + 20 * n < cLine → Ret h₀ L m news s Q →
    wpAny (model PySem.Challenge.rw_bh0012_01.row.prog w) (ktrTop dp un gd cn cs L a ccd cl outer) (call (.ref f) vs) Q E s

theorem useC {w : World} {mean : ExcName → Option Value} {mg mb : Str → Option Value} {n : Nat} {f : Addr} {vs : List Value} {pre : Prop} {Ret : Heap → Addr → (Str → Option Value) → List (Addr × Obj) → Shared → (Value → Shared → Prop) → Prop}
    (C : Claim w mean mg mb n f vs pre Ret) {dp un : Nat} {gd : Option (List Code)} {cn : Str} {cs : Scope} {a : Addr} {ccd : Value} {cl : List (Str × Addr)} {outer : List Env} {A₀ : Around} {base h₀ : Heap} {L : Addr} {m : Str → Option Value} {news : List (Addr × Obj)} {s : Shared} {Q E : Value → Shared → Prop}
    (B : Below A₀ base outer h₀) (F : Fr h₀ L s.heap m) (X : (hd.heap_39 w.params).In h₀) (N : News h₀ L s.heap news)
    (T : Top hd.view_39 (looseW hd.view_39 [Str.ofString "legal_date_gregorian", Str.ofString "to_jd_gregorian", Str.ofString "from_jd_gregorian", Str.ofString "from_jd_iso", Str.ofString "to_jd_indian_civil", Str.ofString "from_jd_indian_civil", Str.ofString "from_jd_mayan", Str.ofString "to_jd_ordinal", Str.ofString "from_jd_ordinal", Str.ofString "legal_date_positivist", Str.ofString "to_jd_positivist", Str.ofString "from_jd_positivist"]) mean mg mb h₀)
    (hk : cs.kind = .function) (hp : pre) (hd : dp + n < recursionLimit) (hu : un + 20 * n < cLine) (hr : Ret h₀ L m news s Q) :
    wpAny (model PySem.Challenge.rw_bh0012_01.row.prog w) (ktrTop dp un gd cn cs L a ccd cl outer) (call (.ref f) vs) Q E s :=
  C _ _ _ _ _ _ _ _ _ _ _ _ _ _ _ _ _ _ B F X N T hk hp hd hu hr

abbrev RetI (r : Int) (h₀ : Heap) (L : Addr) (m : Str → Option Value) (news : List (Addr × Obj)) (s : Shared) (Q : Value → Shared → Prop) : Prop :=
  ∀ (t : Tok) (h' : Heap) (tk' : Nat), Fr h₀ L h' m → News h₀ L h' news → Q (.int r t) { s with heap := h', toks := tk' }
abbrev RetB (r : Bool) (h₀ : Heap) (L : Addr) (m : Str → Option Value) (news : List (Addr × Obj)) (s : Shared) (Q : Value → Shared → Prop) : Prop :=
  ∀ (h' : Heap) (tk' : Nat), Fr h₀ L h' m → News h₀ L h' news → Q (.bool r) { s with heap := h', toks := tk' }
def AllNe (d : Addr) : List (Addr × Obj) → Prop
  | [] => True
  | p :: r => @Ne Nat p.1 d ∧ AllNe d r
theorem allNe_of {d : Addr} : ∀ {l : List (Addr × Obj)}, (∀ p ∈ l, p.1 ≠ d) → AllNe d l
  | [], _ => trivial
  | p :: _, h => ⟨h p (.head _), allNe_of fun q hq => h q (.tail _ hq)⟩
section
variable {prog : Program} {w : World} {A A₀ : Around} {s : Shared} {K : Frag} {L : Addr} {h₀ base : Heap} {m mg mb : Str → Option Value} {news : List (Addr × Obj)} {p : Program} {loose : List Str} {mean : ExcName → Option Value}
/-- a call that leaves the ledger as it is: the body is walked over an empty one -/
theorem code_pure {env : Env} {outer : List Env} {R : Result → Shared → Prop} {name qual : Str} {params : Arguments} {body : List Stmt} {scope : Scope} {dV kV doc pm cdv ct oc : Value} {an od : Option Addr} {osl : Array (Option Value)} {f : Addr} {args : Args} {binds : List (Str × Value)}
    (B : Below A₀ base outer h₀) (F : Fr h₀ L s.heap m) (X₀ : K.In h₀) (N : News h₀ L s.heap news) (T : Top p loose mean mg mb h₀) (hA : A.frames = some (env :: outer)) (hf : env.frame = some L) (hke : env.scope.kind = .function)
    (ho : K.lookup f = some ⟨oc, od, .func (fnOf name qual params body scope dV kV doc pm an cdv ct), osl⟩) (hcd : codeIn K cdv qual = true) (hroom : A.depth < recursionLimit)
    (hbind : BindsTo s (fnOf name qual params body scope dV kV doc pm an cdv ct) args binds) (hloc : ∀ y ∈ binds, scope.names.lookup y.1 = some .local)
    (h : ∀ g L' h₁, News h₀ L g news → Fr h₀ L g m → Fr g L' h₁ (fun y => binds.reverse.lookup y) → News g L' h₁ [] → Below A base (env :: outer) g → K.In g → Top p loose mean mg mb g →
      wpAny (model prog w) (A.deeper (envOf qual scope L' f cdv)) (execs body (envOf qual scope L' f cdv))
        (fun fl s' => LeaveK h₀ L m g R (match fl with | .ret v => v | _ => .none) s')
        (fun e s' => wpAny (model prog w) (A.deeper (envOf qual scope L' f cdv)) (leaving (envOf qual scope L' f cdv) e) (fun _ s'' => R (.error e) s'') (fun e' s'' => R (.error e') s'') s')
        { s with heap := h₁, toks := s.toks + binds.length })
    (hco : scope.isCoroutine = false) (hgen : scope.isGenerator = false) (hk : scope.kind = .function)
    (hcell : ∀ x ∈ scope.names, x.2 ≠ .cell) : codeAny (model prog w) A (.call (.ref f) args) R s := by
  have X := X₀.keeps F.keep
  obtain ⟨FG, BG, st, lv⟩ := groundX (R := R) (news := []) B F News.nil hA hf hke
  refine codeAny_call_def (fd := fnOf name qual params body scope dV kV doc pm an cdv ct) (body := body) (binds := binds) hroom (X _ _ ho) rfl (T.nolimit.keeps F.keep) (codeRec_of X hcd) rfl hbind hcell hloc (fun h₁ hns hk₁ => ?_) hco hgen hk
  exact wpAny_mono (h s.heap s.heap.objs.size h₁ N FG ⟨hns, fun b o e => hk₁ b o e, Nat.le_refl _⟩ News.nil BG (X₀.keeps st) (T.keeps st)) (fun fl s' hl => lv _ _ hl) fun _ _ y => y
end
theorem news_on {h₀ g h : Heap} {L L' : Addr} {m : Str → Option Value} {news : List (Addr × Obj)} (N : News h₀ L g news) (F : Fr g L' h m) : News h₀ L h news := N.grown F.keep


theorem on_more {h₀ g h : Heap} {L L' D : Addr} {o : Obj} {m : Str → Option Value} {news nn : List (Addr × Obj)} (NG : News h₀ L g news) (F' : Fr g L' h m) (N : News h₀ L h nn) (hm : (D, o) ∈ nn) : News h₀ L h ((D, o) :: news) := fun p hp =>
  (List.mem_cons.mp hp).elim (fun e => by subst e; exact N _ hm) fun hp => news_on NG F' p hp
theorem ne_more {h₀ g h : Heap} {L L' D : Addr} {o : Obj} {news nn : List (Addr × Obj)} (NG : News h₀ L g news) (N' : News g L' h nn) (hm : (D, o) ∈ nn) : AllNe D news := allNe_of fun p hp e => by
  have a := (NG p hp).1
  have b := (N' _ hm).2.2
  rw [e] at a
  rw [a] at b
  cases b

abbrev RetT2 (x y : Int) (h₀ : Heap) (L : Addr) (m : Str → Option Value) (news : List (Addr × Obj)) (s : Shared) (Q : Value → Shared → Prop) : Prop :=
  ∀ (D : Addr) (t1 t2 : Tok) (c : Nat) (h' : Heap) (tk' : Nat), Fr h₀ L h' m → News h₀ L h' ((D, ({ cls := .type "tuple", data := .seq #[.int x t1, .int y t2] c } : Obj)) :: news) → AllNe D news → Q (.ref D) { s with heap := h', toks := tk' }
abbrev RetT3 (x y z : Int) (h₀ : Heap) (L : Addr) (m : Str → Option Value) (news : List (Addr × Obj)) (s : Shared) (Q : Value → Shared → Prop) : Prop :=
  ∀ (D : Addr) (t1 t2 t3 : Tok) (c : Nat) (h' : Heap) (tk' : Nat), Fr h₀ L h' m → News h₀ L h' ((D, ({ cls := .type "tuple", data := .seq #[.int x t1, .int y t2, .int z t3] c } : Obj)) :: news) → AllNe D news → Q (.ref D) { s with heap := h', toks := tk' }
abbrev RetT5 (x y z u v : Int) (h₀ : Heap) (L : Addr) (m : Str → Option Value) (news : List (Addr × Obj)) (s : Shared) (Q : Value → Shared → Prop) : Prop :=
  ∀ (D : Addr) (t1 t2 t3 t4 t5 : Tok) (c : Nat) (h' : Heap) (tk' : Nat), Fr h₀ L h' m → News h₀ L h' ((D, ({ cls := .type "tuple", data := .seq #[.int x t1, .int y t2, .int z t3, .int u t4, .int v t5] c } : Obj)) :: news) → AllNe D news → Q (.ref D) { s with heap := h', toks := tk' }

section
variable {h₀ h' : Heap} {L : Addr} {m : Str → Option Value} {news news' : List (Addr × Obj)} {s : Shared} {Q : Value → Shared → Prop} {t : Tok} {tk' : Nat}
theorem endI {x y : Int} {g : Heap} {L' : Addr} {m' : Str → Option Value} (hret : RetI x h₀ L m news s Q) (NG : News h₀ L g news) (F' : Fr g L' h' m') (F : Fr h₀ L h' m) (e : y = x) : Q (.int y t) { s with heap := h', toks := tk' } := by
  subst e; exact hret t h' tk' F (news_on NG F')
theorem endB {x y : Bool} {g : Heap} {L' : Addr} {m' : Str → Option Value} (hret : RetB x h₀ L m news s Q) (NG : News h₀ L g news) (F' : Fr g L' h' m') (F : Fr h₀ L h' m) (e : y = x) : Q (.bool y) { s with heap := h', toks := tk' } := by
  subst e; exact hret h' tk' F (news_on NG F')
theorem endT2 {x y x' y' : Int} {D : Addr} {t1 t2 : Tok} {c : Nat} {g : Heap} {L' : Addr} {m' : Str → Option Value} {nn : List (Addr × Obj)} (hret : RetT2 x y h₀ L m news s Q) (NG : News h₀ L g news) (F' : Fr g L' h' m') (N' : News g L' h' nn) (F : Fr h₀ L h' m) (N : News h₀ L h' nn)
    (hm : (D, ({ cls := .type "tuple", data := .seq #[.int x' t1, .int y' t2] c } : Obj)) ∈ nn) (e1 : x' = x) (e2 : y' = y) : Q (.ref D) { s with heap := h', toks := tk' } := by
  subst e1; subst e2
  exact hret D _ _ _ h' tk' F (on_more NG F' N hm) (ne_more NG N' hm)
theorem endT3 {x y z x' y' z' : Int} {D : Addr} {t1 t2 t3 : Tok} {c : Nat} {g : Heap} {L' : Addr} {m' : Str → Option Value} {nn : List (Addr × Obj)} (hret : RetT3 x y z h₀ L m news s Q) (NG : News h₀ L g news) (F' : Fr g L' h' m') (N' : News g L' h' nn) (F : Fr h₀ L h' m) (N : News h₀ L h' nn)
    (hm : (D, ({ cls := .type "tuple", data := .seq #[.int x' t1, .int y' t2, .int z' t3] c } : Obj)) ∈ nn) (e1 : x' = x) (e2 : y' = y) (e3 : z' = z) : Q (.ref D) { s with heap := h', toks := tk' } := by
  subst e1; subst e2; subst e3
  exact hret D _ _ _ _ h' tk' F (on_more NG F' N hm) (ne_more NG N' hm)
theorem endT5 {x y z u v x' y' z' u' v' : Int} {D : Addr} {t1 t2 t3 t4 t5 : Tok} {c : Nat} {g : Heap} {L' : Addr} {m' : Str → Option Value} {nn : List (Addr × Obj)} (hret : RetT5 x y z u v h₀ L m news s Q) (NG : News h₀ L g news) (F' : Fr g L' h' m') (N' : News g L' h' nn) (F : Fr h₀ L h' m) (N : News h₀ L h' nn)
    (hm : (D, ({ cls := .type "tuple", data := .seq #[.int x' t1, .int y' t2, .int z' t3, .int u' t4, .int v' t5] c } : Obj)) ∈ nn) (e1 : x' = x) (e2 : y' = y) (e3 : z' = z) (e4 : u' = u) (e5 : v' = v) : Q (.ref D) { s with heap := h', toks := tk' } := by
  subst e1; subst e2; subst e3; subst e4; subst e5
  exact hret D _ _ _ _ _ _ h' tk' F (on_more NG F' N hm) (ne_more NG N' hm)
end
local macro_rules | `(tactic| walk_at "enter pure") => `(tactic| (refine wpAny_call ?_; k_dflt (refine' code_pure ?k1 ?k2 ?k3 ?k4 ?k5 ?kA ?kF ?kK ?k6 ?k7 ?k8 ?k9 ?kB ?_ ?c2 ?c3 ?c4 ?c5; (case kA => exact rfl); (case kF => exact rfl); (case kK => assumption); (case k1 => k_asm); (case k2 => k_asm); (case k3 => k_asm); (case k4 => k_asm); (case k5 => k_asm); (case k6 => k_is); (case k7 => k_is); (case k8 => ktr_room); (case k9 => exact BindsTo.of_eq rfl); (case c5 => decide); (case kB => exact locs rfl); (case c2 => exact rfl); (case c3 => exact rfl); (case c4 => exact rfl); k_whole; intro g' L' h' NG FG' F' N' B' X' T'; (try dsimp only); (try k_fold))))
local macro_rules | `(tactic| walk_at "end int") => `(tactic| (refine endI (by assumption) (by assumption) (by assumption) (by k_asm) ?_))
local macro_rules | `(tactic| walk_at "end bool") => `(tactic| (refine endB (by assumption) (by assumption) (by assumption) (by k_asm) ?_))
local macro_rules | `(tactic| walk_at "end T2") => `(tactic| (refine endT2 (by assumption) (by assumption) (by assumption) (by assumption) (by k_asm) (by k_asm) (by k_mem) ?_ ?_))
local macro_rules | `(tactic| walk_at "end T3") => `(tactic| (refine endT3 (by assumption) (by assumption) (by assumption) (by assumption) (by k_asm) (by k_asm) (by k_mem) ?_ ?_ ?_))
local macro_rules | `(tactic| walk_at "end T5") => `(tactic| (refine endT5 (by assumption) (by assumption) (by assumption) (by assumption) (by k_asm) (by k_asm) (by k_mem) ?_ ?_ ?_ ?_ ?_))

/-! The iterators: a reversed tuple, a tuple: what a step of each gives, and the end of the first. -/
theorem owner_rev : PySem.Manifest.owners.lookup (String.ofList ['d', 'e', 's', 'r', 'e', 'v', 'e', 'r'].reverse) = some PySem.Manifest.sig_reversed := by kernel_rfl
theorem slot_rev_next : Slot "reversed" "__next__" "reversed.__next__" :=
  .of (owner := "reversed") (n := "__next__") (by rw [typeLookup_type, builtinLookup_eq_fast]; kernel_rfl) (by decide +kernel) (by decide +kernel) (by decide +kernel)
    (by first | exact .inl (by decide +kernel) | exact .inr (by decide +kernel)) (by rw [isSubtype_type]; kernel_rfl)
theorem entry_rev_next : entryFor table "reversed.__next__" = some Builtin.«reversed.__next__» := entryFor_of_tree (by kernel_rfl)
theorem args_rev_next (a : Value) : argsOk "reversed.__next__" ⟨[a], []⟩ := by
  unfold argsOk; rw [signature?_of (id := "reversed.__next__") (n := ['_', '_', 't', 'x', 'e', 'n', '_', '_']) (o := ['d', 'e', 's', 'r', 'e', 'v', 'e', 'r']) (by kernel_rfl) owner_rev]; kernel_rfl
theorem slot_rev_iter : Slot "reversed" "__iter__" "reversed.__iter__" :=
  .of (owner := "reversed") (n := "__iter__") (by rw [typeLookup_type, builtinLookup_eq_fast]; kernel_rfl) (by decide +kernel) (by decide +kernel) (by decide +kernel)
    (by first | exact .inl (by decide +kernel) | exact .inr (by decide +kernel)) (by rw [isSubtype_type]; kernel_rfl)
theorem args_rev_iter (a : Value) : argsOk "reversed.__iter__" ⟨[a], []⟩ := by
  unfold argsOk; rw [signature?_of (id := "reversed.__iter__") (n := ['_', '_', 'r', 'e', 't', 'i', '_', '_']) (o := ['d', 'e', 's', 'r', 'e', 'v', 'e', 'r']) (by kernel_rfl) owner_rev]; kernel_rfl
theorem entry_rev_iter : entryFor table "reversed.__iter__" = some Builtin.«dict_keyiterator.__iter__» :=
  entryFor_alias (id' := "dict_keyiterator.__iter__") (by kernel_rfl) (by first | rfl | decide +kernel | (unfold String.splitOn; simp +decide [String.splitOnAux])) (by decide +kernel) (by kernel_rfl)
theorem slot_rev_init : Slot "reversed" "__init__" "object.__init__" :=
  .of (owner := "object") (n := "__init__") (by rw [typeLookup_type, builtinLookup_eq_fast]; kernel_rfl) (by decide +kernel) (by decide +kernel) (by decide +kernel)
    (by first | exact .inl (by decide +kernel) | exact .inr (by decide +kernel)) (by rw [isSubtype_type]; kernel_rfl)
theorem called_rev : TypeCalled "reversed" "reversed.__new__" "object.__init__" :=
  ⟨by decide +kernel, by decide +kernel, ⟨_, _, F.mro_reversed⟩, F.made_reversed, by decide +kernel, F.sub_reversed_self, slot_rev_init⟩
theorem tup_norev : typeLookup (.type "tuple") "__reversed__" = pure none := by rw [typeLookup_type, builtinLookup_eq_fast]; kernel_rfl
theorem tup_nodict : isSubtype (.type "tuple") (.type "dict") = pure false := by rw [isSubtype_type]; kernel_rfl
abbrev revO (t : Addr) (i : Int) : Obj := { cls := .type "reversed", dict := none, data := .fields #[.ref t, rawInt i], slots := #[] }
abbrev titO (t : Addr) (i : Nat) : Obj := { cls := .type "tuple_iterator", data := .fields #[.ref t, .int i 0] }
section
variable {prog : Program} {w : World} {A : Around} {E : Value → Shared → Prop} {hp : Heap} {g : Array GenState} {d : Drawn} {tk : Nat} {os : OsState}
/-- a step of a built-in iterator is its own `__next__` -/
theorem nextBy {s : Shared} {a : Addr} {T id : String} {b : Builtin} {Q : Value → Shared → Prop} (S : Slot T "__next__" id) (e : entryFor table id = some b) (ar : argsOk id ⟨[.ref a], []⟩)
    (hT : s.TypeIs (.ref a) T) (h : wpAny (model prog w) A.in1 (b ⟨[.ref a], []⟩) (fun fin s' => ∃ v, fin = .done (.ret v) ∧ Q v s') E s) :
    wpAny (model prog w) A (Builtin.SmallTypes.nextOf (.ref a)) Q E s :=
  wpAny_bind (wpAny_callSpecial?_slot (name := Str.ofString "__next__") hT S (wpAny_call_entry S hT e (wpAny_mono h (fun _ _ ⟨v, p, q⟩ => ⟨v, p, wpAny_pure q⟩) fun _ _ q => q) ar))

/-- `o` with `v` in its field `k` -/
abbrev fld (k : Nat) (v : Value) : Obj → Obj := Obj.mapFields fun x => x.setIfInBounds k v

theorem tit_gives {it t : Addr} {i : Nat} {items : Array Value} {x : Value} {Q : Value → Shared → Prop} (hi : hp.get? it = some (titO t i))
    (ht : hp.IsTuple t items) (hx : items[i]? = some x) (hQ : Q x ⟨hp.update it (fld 1 (rawInt (i + 1))), g, d, tk, os⟩) :
    wpAny (model prog w) A (Builtin.SmallTypes.nextOf (.ref it)) Q E ⟨hp, g, d, tk, os⟩ := by
  refine nextBy F.slot_tuple_iterator_next F.entry_tuple_iterator_next (F.args_tuple_iterator_next_1 _) ⟨_, hi, rfl⟩ ?_
  obtain ⟨⟨c, di, da, sl⟩, hot, rfl, nt, rfl⟩ := ht
  wp_walk
  simp only [Int.toNat_natCast, hx]
  wp_walk
  exact ⟨_, rfl, hQ⟩

theorem rev_gives {a t : Addr} {i : Nat} {items : Array Value} {x : Value} {Q : Value → Shared → Prop} (hi : hp.get? a = some (revO t i))
    (ht : hp.IsTuple t items) (hb : (i : Int) < 2 ^ 63) (hx : items[i]? = some x) (hQ : Q x ⟨hp.update a (fld 1 (rawInt ((i : Int) - 1))), g, d, tk + 1, os⟩) :
    wpAny (model prog w) A (Builtin.SmallTypes.nextOf (.ref a)) Q E ⟨hp, g, d, tk, os⟩ := by
  refine nextBy slot_rev_next entry_rev_next (args_rev_next _) ⟨_, hi, rfl⟩ ?_
  have hT : IsTup hp t items := ht
  have ty : Shared.TypeIs ⟨hp, g, d, tk, os⟩ (.ref t) "tuple" := ht.typeIs (s := ⟨hp, g, d, tk, os⟩)
  have lk := slot_tuple_getitem.lookup
  have hj : seqIndex? (i : Int) items.size = some i := by
    have : i < items.size := (Array.getElem?_eq_some_iff.mp hx).1
    simp [seqIndex?]; omega
  have hn : ¬ (i : Int) < 0 := by omega
  have f0 {tk : Nat} {R : Value → Shared → Prop} (h : R (.ref t) ⟨hp, g, d, tk, os⟩) : wpAny (model prog w) A.in1 (field (.ref a) 0) R E ⟨hp, g, d, tk, os⟩ := wpAny_field (s := ⟨hp, g, d, tk, os⟩) hi rfl rfl h
  have f1 {tk : Nat} {R : Value → Shared → Prop} (h : R (rawInt i) ⟨hp, g, d, tk, os⟩) : wpAny (model prog w) A.in1 (field (.ref a) 1) R E ⟨hp, g, d, tk, os⟩ := wpAny_field (s := ⟨hp, g, d, tk, os⟩) hi rfl rfl h
  have gi {K : Value → Shared → Prop} {E : Value → Shared → Prop} (q : K x ⟨hp, g, d, tk + 1, os⟩) := getItem_tuple (prog := prog) (w := w) (A := A.in1) (E := E) (s := ⟨hp, g, d, tk + 1, os⟩) (u := tk) hT (by omega) hb hj hx q
  repeat (first | with_reducible refine wpAny_pure ?_ | with_reducible refine wpAny_bind ?_ | with_reducible refine f0 ?_ | with_reducible refine f1 ?_ | with_reducible refine wpAny_specialOf ty lk ?_ | with_reducible refine wpAny_mkInt' ?_ | with_reducible refine wpAny_attempt ?_ | with_reducible refine gi ?_ | wp_delta | wp_step)
  exact ⟨_, rfl, hQ⟩

/-- at its end it tells so, and keeps nothing -/
theorem rev_ends {a t : Addr} {Q : Value → Shared → Prop} (hh : A.handled = none) (hi : hp.get? a = some (revO t (-1)))
    (hE : ∀ h' e o, (∀ c o, c ≠ a → hp.get? c = some o → h'.get? c = some o) → h'.get? e = some o → o.cls = .type "StopIteration" → E (.ref e) ⟨h', g, d, tk, os⟩) :
    wpAny (model prog w) A (Builtin.SmallTypes.nextOf (.ref a)) Q E ⟨hp, g, d, tk, os⟩ := by
  refine nextBy slot_rev_next entry_rev_next (args_rev_next _) ⟨_, hi, rfl⟩ ?_
  have f0 {tk : Nat} {R : Value → Shared → Prop} (h : R (.ref t) ⟨hp, g, d, tk, os⟩) : wpAny (model prog w) A.in1 (field (.ref a) 0) R E ⟨hp, g, d, tk, os⟩ := wpAny_field (s := ⟨hp, g, d, tk, os⟩) hi rfl rfl h
  have f1 {tk : Nat} {R : Value → Shared → Prop} (h : R (rawInt (-1)) ⟨hp, g, d, tk, os⟩) : wpAny (model prog w) A.in1 (field (.ref a) 1) R E ⟨hp, g, d, tk, os⟩ := wpAny_field (s := ⟨hp, g, d, tk, os⟩) hi rfl rfl h
  have hA : A.in1.handled = none := hh
  repeat (first | with_reducible refine wpAny_pure ?_ | with_reducible refine wpAny_bind ?_ | with_reducible refine wpAny_rule ?_ | with_reducible refine wpAny_throw ?_ | with_reducible refine f0 ?_ | with_reducible refine f1 ?_ | wp_step)
  unfold raiseNew
  wp_walk
  exact hE _ _ _ (fun c o hc e => by heap_get) (by heap_get) rfl
end

/-! zip(R, C): one turn, and the end. -/
section
variable {prog : Program} {w : World} {A : Around} {E : Value → Shared → Prop} {hp : Heap} {g : Array GenState} {d : Drawn} {tk : Nat} {os : OsState}
abbrev itm (k : Nat) (v : Value) : Obj → Obj := Obj.mapSeq fun x => x.setIfInBounds k v

theorem changed {h : Heap} {a : Addr} {o : Obj} (f : Obj → Obj) (o' : Obj) (e : h.get? a = some o) (ef : f o = o') (al : o'.isFreed = false) :
    ∃ h', h.update a f = h' ∧ h'.get? a = some o' ∧ ∀ b q, b ≠ a → h.get? b = some q → h'.get? b = some q :=
  ⟨_, rfl, ef ▸ Heap.get?_update_self f e (ef ▸ al), fun _ _ n x => Heap.get?_update_of_ne f n.symm x⟩
theorem held {h h' : Heap} {t : Addr} {xs : Array Value} (x : h.IsTuple t xs) (k : ∀ q, h.get? t = some q → h'.get? t = some q) : h'.IsTuple t xs :=
  let ⟨o, e, r⟩ := x; ⟨o, k _ e, r⟩

theorem pnextBy {s : Shared} {a : Addr} {T id : String} {b : Builtin} {Q : Option Value → Shared → Prop} (S : Slot T "__next__" id) (e : entryFor table id = some b) (ar : argsOk id ⟨[.ref a], []⟩)
    (hT : s.TypeIs (.ref a) T) (h : wpAny (model prog w) A.in1 (b ⟨[.ref a], []⟩) (fun fin s' => ∃ v, fin = .done (.ret v) ∧ Q (some v) s')
      (fun e s' => s'.TypeIs e "StopIteration" ∧ Q none s') s) :
    wpAny (model prog w) A (pyNext (.ref a)) Q E s :=
  wpAny_bind (wpAny_attempt (wpAny_callSpecial?_slot (name := Str.ofString "__next__") hT S (wpAny_call_entry S hT e (wpAny_mono h (fun _ _ ⟨v, p, q⟩ => ⟨v, p, wpAny_pure q⟩)
    fun _ _ ⟨x, q⟩ => wpAny_bind (wpAny_isInstance (T := "StopIteration") (b := true) x isSubtype_stop (wpAny_pure q))) ar)))

set_option maxHeartbeats 2000000 in
theorem zip_gives {z P O R I t C : Addr} {xs ys : Array Value} {i k : Nat} {x y a b : Value} {Q : Option Value → Shared → Prop} (D : ZipApart z P O R I t C)
    (hz : IsZip hp z P O .none) (hP : IsPair hp P (.ref R) (.ref I)) (hO : IsPair hp O a b) (hR : hp.get? R = some (revO t (i : Int))) (hI : hp.get? I = some (titO C k))
    (ht : hp.IsTuple t xs) (hC : hp.IsTuple C ys) (hb : (i : Int) < 2 ^ 63) (hx : xs[i]? = some x) (hy : ys[k]? = some y) 
    (hQ : ∀ h' tk', IsZip h' z P O (rawInt hp.objs.size) → IsPair h' O x y → h'.get? R = some (revO t ((i : Int) - 1)) → h'.get? I = some (titO C (k + 1)) → IsPair h' hp.objs.size x y →
      (∀ c o, c ≠ z → c ≠ O → c ≠ R → c ≠ I → hp.get? c = some o → h'.get? c = some o) → Q (some (.ref hp.objs.size)) ⟨h', g, d, tk', os⟩) :
    wpAny (model prog w) A (pyNext (.ref z)) Q E ⟨hp, g, d, tk, os⟩ := by
  refine pnextBy F.slot_zip_next F.entry_zip_next (F.args_zip_next_1 _) ⟨_, hz, rfl⟩ ?_
  have fz (j : Nat) (v : Value) (e : (#[Value.none, .bool false, .bool false, .ref P, .ref O] : Array Value)[j]? = some v) {tk : Nat} {R : Value → Shared → Prop} {E : Value → Shared → Prop} (h : R v ⟨hp, g, d, tk, os⟩) : wpAny (model prog w) A.in1 (field (.ref z) j) R E ⟨hp, g, d, tk, os⟩ :=
    wpAny_field (s := ⟨hp, g, d, tk, os⟩) hz rfl e h
  have f0 := @fz 0 .none rfl
  have f2 := @fz 2 (.bool false) rfl
  have f3 := @fz 3 (.ref P) rfl
  have f4 := @fz 4 (.ref O) rfl
  have put {h h' : Heap} {a : Addr} {o : Obj} {vs : Array Value} {k : Nat} {v : Value} (e : h.get? a = some o) (ed : o.data = .fields vs) (ek : k < vs.size) (eh : h.update a (fld k v) = h')
      {tk : Nat} {R : Unit → Shared → Prop} {E : Value → Shared → Prop} (q : R () ⟨h', g, d, tk, os⟩) : wpAny (model prog w) A.in1 (setField (.ref a) k v) R E ⟨h, g, d, tk, os⟩ :=
    wpAny_setField e ed ek (eh ▸ q)
  have look {h : Heap} {u v : Value} (e : IsPair h O u v) {tk : Nat} {R : Option (Array Value) → Shared → Prop} {E : Value → Shared → Prop} (q : R (some #[u, v]) ⟨h, g, d, tk, os⟩) :
      wpAny (model prog w) A.in1 (seqItems? (.ref O)) R E ⟨h, g, d, tk, os⟩ := wpAny_seqItems e rfl q
  have lay {h h' : Heap} {u v : Value} {k : Nat} {n : Value} (e : IsPair h O u v) (eh : h.update O (itm k n) = h') {tk : Nat} {R : Unit → Shared → Prop} {E : Value → Shared → Prop} (q : R () ⟨h', g, d, tk, os⟩) :
      wpAny (model prog w) A.in1 (updateSeq O fun x => x.setIfInBounds k n) R E ⟨h, g, d, tk, os⟩ := wpAny_updateSeq e rfl (eh ▸ q)
  obtain ⟨h1, e1, z1, k1⟩ := changed (fld 0 .ellipsis) { cls := .type "zip", dict := none, data := .fields #[.ellipsis, .bool false, .bool false, .ref P, .ref O], slots := #[] } hz rfl rfl
  obtain ⟨h2, e2, r2, k2⟩ := changed (fld 1 (rawInt ((i : Int) - 1))) (revO t ((i : Int) - 1)) (k1 _ _ D.i1z hR) rfl rfl
  have o2 : IsPair h2 O a b := k2 _ _ D.TOi1 (k1 _ _ D.TOz hO)
  obtain ⟨h3, e3, o3, k3⟩ := changed (itm 0 x) { cls := .type "tuple", data := .seq #[x, b] } o2 rfl rfl
  have i3 : h3.get? I = some (titO C k) := k3 _ _ D.TOi2.symm (k2 _ _ D.i12.symm (k1 _ _ D.i2z hI))
  obtain ⟨h4, e4, i4, k4⟩ := changed (fld 1 (rawInt (k + 1))) (titO C (k + 1)) i3 rfl rfl
  have o4 : IsPair h4 O x b := k4 _ _ D.TOi2 o3
  obtain ⟨h5, e5, o5, k5⟩ := changed (itm 1 y) { cls := .type "tuple", data := .seq #[x, y] } o4 rfl rfl
  have g1 {tk : Nat} {K : Value → Shared → Prop} {E : Value → Shared → Prop} (q : K x ⟨h2, g, d, tk + 1, os⟩) : wpAny (model prog w) A.in1 (Builtin.SmallTypes.nextOf (.ref R)) K E ⟨h1, g, d, tk, os⟩ :=
    rev_gives (k1 _ _ D.i1z hR) (held ht fun _ e => k1 _ _ D.l1z e) hb hx (e2 ▸ q)
  have g3 {tk : Nat} {K : Value → Shared → Prop} {E : Value → Shared → Prop} (q : K y ⟨h4, g, d, tk, os⟩) : wpAny (model prog w) A.in1 (Builtin.SmallTypes.nextOf (.ref I)) K E ⟨h3, g, d, tk, os⟩ :=
    tit_gives i3 (held hC fun _ e => k3 _ _ D.l2TO (k2 _ _ D.l2i1 (k1 _ _ D.l2z e))) hy (e4 ▸ q)
  have z5 := k5 _ _ D.TOz.symm (k4 _ _ D.i2z.symm (k3 _ _ D.TOz.symm (k2 _ _ D.i1z.symm z1)))
  have n5 : h5.objs.size = hp.objs.size := by rw [← e5, ← e4, ← e3, ← e2, ← e1]; simp only [Heap.size_after_update]
  have l5 := Nat.ne_of_gt (Heap.lt_size z5)
  obtain ⟨h7, e7, z7, k7⟩ := changed (fld 0 (rawInt h5.objs.size)) { cls := .type "zip", dict := none, data := .fields #[rawInt h5.objs.size, .bool false, .bool false, .ref P, .ref O], slots := #[] }
    (Heap.get?_push_of_some { cls := .type "tuple", data := .seq #[x, y] } z5) rfl rfl
  obtain ⟨h8, e8, z8, k8⟩ := changed (fld 1 (.bool false)) { cls := .type "zip", dict := none, data := .fields #[rawInt h5.objs.size, .bool false, .bool false, .ref P, .ref O], slots := #[] } z7 rfl rfl
  have k9 : ∀ c o, c ≠ z → h5.get? c = some o → h8.get? c = some o := fun c o n e => k8 _ _ n (k7 _ _ n (Heap.get?_push_of_some _ e))
  have p1 := @put _ _ z _ _ 0 .ellipsis hz rfl (Nat.zero_lt_succ _) e1
  have p7 := @put _ _ z _ _ 0 (rawInt h5.objs.size) (Heap.get?_push_of_some _ z5) rfl (Nat.zero_lt_succ _) e7
  have p8 := @put _ _ z _ _ 1 (.bool false) z7 rfl (Nat.succ_lt_succ (Nat.zero_lt_succ _)) e8
  repeat (first | with_reducible refine wpAny_pure ?_ | with_reducible refine wpAny_bind ?_ | with_reducible refine wpAny_rule ?_ | with_reducible refine wpAny_letGo ?_ | with_reducible refine f0 ?_ | with_reducible refine f2 ?_ | with_reducible refine f3 ?_ | with_reducible refine f4 ?_ | with_reducible refine p1 ?_ | with_reducible refine wpAny_onRaise ?_ | with_reducible refine g1 ?_ | with_reducible refine look o2 ?_ | with_reducible refine lay o2 e3 ?_ | with_reducible refine g3 ?_ | with_reducible refine look o4 ?_ | with_reducible refine lay o4 e5 ?_ | with_reducible refine look o5 ?_ | with_reducible refine p7 ?_ | with_reducible refine p8 ?_ | wp_delta | wp_step)
  have t8 : IsPair h8 h5.objs.size x y := k8 _ _ l5 (k7 _ _ l5 (Heap.get?_push_size _ rfl))
  rw [n5] at z8 t8 ⊢
  exact ⟨_, rfl, hQ h8 _ z8 (k9 _ _ D.TOz o5) (k9 _ _ D.i1z (k5 _ _ D.TOi1.symm (k4 _ _ D.i12 (k3 _ _ D.TOi1.symm r2)))) (k9 _ _ D.i2z (k5 _ _ D.TOi2.symm i4)) t8
    fun c o a1 a2 a3 a4 e => k9 c o a1 (k5 _ _ a2 (k4 _ _ a4 (k3 _ _ a2 (k2 _ _ a3 (k1 _ _ a1 e)))))⟩

theorem zip_ends {z P O R I t C : Addr} {a b : Value} {Q : Option Value → Shared → Prop} (hh : A.handled = none) (D : ZipApart z P O R I t C)
    (hz : IsZip hp z P O .none) (hP : IsPair hp P (.ref R) (.ref I)) (hO : IsPair hp O a b) (hR : hp.get? R = some (revO t (-1)))
    (hQ : ∀ h', (∀ c o, c ≠ z → c ≠ O → c ≠ R → c ≠ I → hp.get? c = some o → h'.get? c = some o) → Q none ⟨h', g, d, tk, os⟩) :
    wpAny (model prog w) A (pyNext (.ref z)) Q E ⟨hp, g, d, tk, os⟩ := by
  refine pnextBy F.slot_zip_next F.entry_zip_next (F.args_zip_next_1 _) ⟨_, hz, rfl⟩ ?_
  have fz (j : Nat) (v : Value) (e : (#[Value.none, .bool false, .bool false, .ref P, .ref O] : Array Value)[j]? = some v) {tk : Nat} {R : Value → Shared → Prop} {E : Value → Shared → Prop} (h : R v ⟨hp, g, d, tk, os⟩) : wpAny (model prog w) A.in1 (field (.ref z) j) R E ⟨hp, g, d, tk, os⟩ :=
    wpAny_field (s := ⟨hp, g, d, tk, os⟩) hz rfl e h
  have f0 := @fz 0 .none rfl
  have f2 := @fz 2 (.bool false) rfl
  have f3 := @fz 3 (.ref P) rfl
  have f4 := @fz 4 (.ref O) rfl
  have put {h : Heap} {a : Addr} {o : Obj} {vs : Array Value} {k : Nat} {v : Value} (e : h.get? a = some o) (ed : o.data = .fields vs) (ek : k < vs.size)
      {tk : Nat} {R : Unit → Shared → Prop} {E : Value → Shared → Prop} (q : R () ⟨h.update a (fld k v), g, d, tk, os⟩) : wpAny (model prog w) A.in1 (setField (.ref a) k v) R E ⟨h, g, d, tk, os⟩ :=
    wpAny_setField e ed ek q
  obtain ⟨h1, e1, z1, k1⟩ := changed (fld 0 .ellipsis) { cls := .type "zip", dict := none, data := .fields #[.ellipsis, .bool false, .bool false, .ref P, .ref O], slots := #[] } hz rfl rfl
  have p1 := @put _ z _ _ 0 .ellipsis hz rfl (Nat.zero_lt_succ _)
  rw [e1] at p1
  have p2 (h : Heap) (hz : IsZip h z P O .ellipsis) := @put h z _ _ 0 .none hz rfl (Nat.zero_lt_succ _)
  have hA : A.in1.handled = none := hh
  repeat (first | with_reducible refine wpAny_pure ?_ | with_reducible refine wpAny_bind ?_ | with_reducible refine wpAny_rule ?_ | with_reducible refine wpAny_letGo ?_ | with_reducible refine f0 ?_ | with_reducible refine f2 ?_ | with_reducible refine f3 ?_ | with_reducible refine f4 ?_ | with_reducible refine p1 ?_ | with_reducible refine wpAny_onRaise ?_ | with_reducible refine rev_ends hA (k1 _ _ D.i1z hR) ?_ | wp_delta | wp_step)
  intro h2 e o k2 he hc
  have p2 := @put h2 z _ _ 0 .none (k2 _ _ D.i1z.symm z1) rfl (Nat.zero_lt_succ _)
  have hez : z ≠ e := fun q => by subst q; rw [k2 _ _ D.i1z.symm z1] at he; cases he; simp at hc
  repeat (first | with_reducible refine wpAny_pure ?_ | with_reducible refine wpAny_bind ?_ | with_reducible refine p2 ?_ | wp_delta | wp_step)
  exact ⟨⟨o, Heap.get?_update_of_ne _ hez he, hc⟩, hQ _ fun c o a1 a2 a3 a4 x => Heap.get?_update_of_ne _ a1.symm (k2 _ _ a3 (k1 _ _ a1 x))⟩
end

/-! zip(R, C) in a for statement. -/
section
variable {prog : Program} {w : World} {A : Around} {E : Value → Shared → Prop} {s : Shared}

theorem iter_rev {a t : Addr} {i : Int} {Q : Value → Shared → Prop} (hi : s.heap.get? a = some (revO t i)) (h : Q (.ref a) s) : wpAny (model prog w) A (pyIter (.ref a)) Q E s := by
  have ty : s.TypeIs (.ref a) "reversed" := ⟨_, hi, rfl⟩
  exact wpAny_pyIter_slot ty slot_rev_iter (wpAny_call_entry slot_rev_iter ty entry_rev_iter (wpAny_pure ⟨_, rfl, "reversed", _, ty, slot_rev_next.lookup, h⟩) (args_rev_iter _))

/-- the heap once `zip(R, C)` is made -/
abbrev zipped (h : Heap) (R C : Addr) : Heap :=
  (((h.push (titO C 0)).push { cls := .type "tuple", data := .seq #[.ref R, .ref h.objs.size] }).push { cls := .type "tuple", data := .seq #[.none, .none] }).push
    { cls := .type "zip", data := .fields #[.none, .bool false, .bool false, .ref (h.objs.size + 1), .ref (h.objs.size + 2)] }

theorem zip_made (R t C : Addr) (i : Int) (ys : Array Value) :
    Meets (Builtin.«zip.__new__» ⟨[.type "zip", .ref R, .ref C], []⟩) (fun _ K s => s.heap.get? R = some (revO t i) ∧ s.heap.IsTuple C ys ∧
      K (.ok (.ret (.ref (s.heap.objs.size + 3)))) { s with heap := zipped s.heap R C }) :=
  .of_wp fun prog w A K s h => by
    obtain ⟨hp, g, d, tk, os⟩ := s
    obtain ⟨hr, hc, h⟩ := h
    have hsub := sub_zip
    have e1 : Heap.get? (Shared.heap ⟨hp, g, d, tk, os⟩) R = some (revO t i) := hr
    have e2 : Heap.IsTuple (Shared.heap ⟨hp, g, d, tk, os⟩) C ys := hc
    wp_walk using iter_rev e1, wpAny_pyIter_tuple e2
    refine ⟨_, rfl, ?_⟩
    simp only [Heap.size_push] 
    exact h

theorem zip_called {R t C : Addr} {i : Int} {ys : Array Value} {Q : Value → Shared → Prop} (hr : s.heap.get? R = some (revO t i)) (hc : s.heap.IsTuple C ys)
    (h : Q (.ref (s.heap.objs.size + 3)) { s with heap := zipped s.heap R C }) : wpAny (model prog w) A (call (.type "zip") [.ref R, .ref C]) Q E s := by
  refine callType_new F.called_zip (by decide) (F.typeCall_zip_2 _ _) (F.newCall_zip_2 _ _) (fun obj => F.args_object_init_3 obj _ _) F.entry_zip_new (zip_made R t C i ys) ⟨hr, hc, ?_⟩
  refine ⟨⟨_, Heap.get?_push_at (by simp only [Heap.size_push]) rfl, rfl⟩, h⟩
end

/-- a zip of a reversed tuple and a tuple, `i` turns on -/
def OnZip (z P O R I t C : Addr) (xs ys : Array Value) (i : Nat) (f : Value) (h : Heap) : Prop :=
  i ≤ xs.size ∧ IsZip h z P O f ∧ IsPair h P (.ref R) (.ref I) ∧ (∃ a b, IsPair h O a b) ∧ h.get? R = some (revO t ((xs.size : Int) - 1 - i)) ∧ h.get? I = some (titO C i) ∧ h.IsTuple t xs ∧ h.IsTuple C ys
theorem OnZip.at {z P O R I t C : Addr} {xs ys : Array Value} {i : Nat} {f : Value} {h h' : Heap} (x : OnZip z P O R I t C xs ys i f h)
    (k : ∀ b ∈ [z, P, O, R, I, t, C], ∀ o, h.get? b = some o → h'.get? b = some o) : OnZip z P O R I t C xs ys i f h' := by
  obtain ⟨x1, x2, x3, ⟨a, b, x4⟩, x5, x6, x7, x8⟩ := x
  exact ⟨x1, k _ (by simp) _ x2, k _ (by simp) _ x3, ⟨a, b, k _ (by simp) _ x4⟩, k _ (by simp) _ x5, k _ (by simp) _ x6, held x7 (k _ (by simp)), held x8 (k _ (by simp))⟩
theorem OnZip.zipped {R t C : Addr} {xs ys : Array Value} {h : Heap} (hr : h.get? R = some (revO t ((xs.size : Int) - 1))) (ht : h.IsTuple t xs) (hc : h.IsTuple C ys) :
    OnZip (h.objs.size + 3) (h.objs.size + 1) (h.objs.size + 2) R h.objs.size t C xs ys 0 .none (zipped h R C) := by
  have up : ∀ b o, h.get? b = some o → (Mine.zipped h R C).get? b = some o := fun b o e => by heap_get
  refine ⟨Nat.zero_le _, ?_, ?_, ⟨.none, .none, ?_⟩, ?_, ?_, held ht (up _), held hc (up _)⟩
  · exact Heap.get?_push_at (by simp only [Heap.size_push]) rfl
  · exact Heap.get?_push_of_some _ (Heap.get?_push_of_some _ (Heap.get?_push_at (by simp only [Heap.size_push]) rfl))
  · exact Heap.get?_push_of_some _ (Heap.get?_push_at (by simp only [Heap.size_push]) rfl)
  · rw [show (xs.size : Int) - 1 - ((0 : Nat) : Int) = (xs.size : Int) - 1 by omega]; exact up _ _ hr
  · heap_get

section
variable {prog : Program} {w : World} {A : Around} {E : Value → Shared → Prop} {s : Shared} {env : Env} {h₀ : Heap} {body : List Stmt} {Q : Flow → Shared → Prop}
/-- the turns of the walk over such a zip -/
theorem zip_turns {elts : List Expr} {k : Nat} {pos : Pos} (hh : A.handled = none) {z P O R I t C : Addr} (D : ZipApart z P O R I t C) {xs ys : Array Value} (hn : xs.size = ys.size) (hb : (xs.size : Int) < 2 ^ 63) :
    KTurns prog w A (.Tuple elts k pos) z [z, P, O, R, I, t, C] [z, O, R, I] xs.size
      (fun i v h => ∃ T x y, v = .ref T ∧ xs[xs.size - 1 - i]? = some x ∧ ys[i]? = some y ∧ IsPair h T x y)
      (fun i v h => ∃ T x y, v = .ref T ∧ xs[xs.size - 1 - i]? = some x ∧ ys[i]? = some y ∧ IsPair h T x y ∧ T ≠ z ∧ OnZip z P O R I t C xs ys (i + 1) (rawInt T) h)
      (fun i h => OnZip z P O R I t C xs ys i .none h) where
  sub := fun b hb => by grind
  frame := fun i h h' st hk => st.at hk
  item := fun i s Q E hi st hQ => by
    obtain ⟨hp, g, d, tk, os⟩ := s
    obtain ⟨_, hz, hP, ⟨a, b, hO⟩, hR, hI, ht, hC⟩ := st
    have e : (xs.size : Int) - 1 - (i : Int) = ((xs.size - 1 - i : Nat) : Int) := by omega
    rw [e] at hR
    have hx := Array.getElem?_eq_getElem (show xs.size - 1 - i < xs.size by omega)
    have hy := Array.getElem?_eq_getElem (show i < ys.size by omega)
    refine zip_gives D hz hP hO hR hI ht hC (by omega) hx hy fun h' tk' b1 b2 b3 b4 b5 kk => ?_
    rw [show ((xs.size - 1 - i : Nat) : Int) - 1 = (xs.size : Int) - 1 - ((i + 1 : Nat) : Int) by omega] at b3
    refine hQ _ h' tk' ⟨_, _, _, rfl, hx, hy, b5, Nat.ne_of_gt (Heap.lt_size hz), hi, b1, kk _ _ D.TIz D.TITO D.TIi1 D.TIi2 hP, ⟨_, _, b2⟩, b3, b4, held ht fun o => kk _ o D.l1z D.l1TO D.l1i1 D.l1i2, held hC fun o => kk _ o D.l2z D.l2TO D.l2i1 D.l2i2⟩
      fun b o nb => kk b o (fun q => nb (by simp [q])) (fun q => nb (by simp [q])) (fun q => nb (by simp [q])) (fun q => nb (by simp [q]))
  go := fun i v s Q E md hQ => by
    obtain ⟨T, x, y, rfl, hx, hy, hT, nT, hi, hz, hP, ⟨a, b, hO⟩, hR, hI, ht, hC⟩ := md
    refine wpAny_letOwnedTupleGo_zip hz fun h' hz' ks => ?_
    have kk := ks.extBut
    exact hQ h' ⟨T, x, y, rfl, hx, hy, kk _ _ nT hT⟩ ⟨hi, hz', kk _ _ D.TIz hP, ⟨a, b, kk _ _ D.TOz hO⟩, kk _ _ D.i1z hR, kk _ _ D.i2z hI, held ht fun o => kk _ o D.l1z, held hC fun o => kk _ o D.l2z⟩
      fun b o nb => kk b o fun q => nb (by simp [q])
  done := fun s Q E st hQ => by
    obtain ⟨hp, g, d, tk, os⟩ := s
    obtain ⟨_, hz, hP, ⟨a, b, hO⟩, hR, _⟩ := st
    rw [show (xs.size : Int) - 1 - (xs.size : Int) = -1 by omega] at hR
    exact zip_ends hh D hz hP hO hR fun h' kk => hQ h' tk fun b o nb => kk b o (fun q => nb (by simp [q])) (fun q => nb (by simp [q])) (fun q => nb (by simp [q])) (fun q => nb (by simp [q]))

theorem objs_nil {h : Heap} : ∃ its, Objs [] its ∧ ∀ p ∈ its, h.get? p.1 = some p.2 := ⟨[], trivial, fun _ q => nomatch q⟩
theorem objs_cons {h : Heap} {a : Addr} {T : String} {o : Obj} {ws : List (Addr × String)} (e : h.get? a = some o) (c : o.cls = .type T) (r : ∃ its, Objs ws its ∧ ∀ p ∈ its, h.get? p.1 = some p.2) :
    ∃ its, Objs ((a, T) :: ws) its ∧ ∀ p ∈ its, h.get? p.1 = some p.2 :=
  let ⟨its, x, y⟩ := r
  ⟨(a, o) :: its, ⟨⟨rfl, c⟩, x⟩, fun p hp => (List.mem_cons.mp hp).elim (fun q => by rw [q]; exact e) (y p)⟩
theorem zipr_apart (I R t C : Nat) (h1 : R < I) (h2 : t < I) (h3 : C < I) (h4 : t ≠ R) (h5 : C ≠ R) : ZipApart (I + 3) (I + 1) (I + 2) R I t C := by
  constructor <;> (refine neN ?_; omega)

/-- `for a, b in zip(R, C)`, R a reversed tuple of the ledger that the loop uses up, C a tuple as long -/
theorem ktu_zipr {elts : List Expr} {k : Nat} {pos : Pos} {R t C : Addr} {lo1 lo2 : Obj} {xs ys : List Value} {n1 n2 : Nat} {i0 : Int} {m₀ : Str → Option Value} {news all : List (Addr × Obj)}
    (hh : A.handled = none) (F : Fr h₀ env.locals s.heap m₀) (Na : News h₀ env.locals s.heap all)
    (hR : (R, ({ cls := .type "reversed", dict := none, data := .fields #[.ref t, rawInt i0], slots := #[] } : Obj)) ∈ all) (hi0 : i0 = (xs.length : Int) - 1) (hsub : ∀ p ∈ news, p ∈ all) (hnR : ∀ p ∈ news, p.1 ≠ R)
    (hm1 : (t, lo1) ∈ news) (hc1 : lo1.cls = .type "tuple") (hd1 : lo1.data = .seq xs.toArray n1) (hm2 : (C, lo2) ∈ news) (hc2 : lo2.cls = .type "tuple") (hd2 : lo2.data = .seq ys.toArray n2) (hlen : xs.length = ys.length) (hsz : (xs.length : Int) < 2 ^ 63)
    (rest₀ : ∀ I : Addr, (∀ p ∈ all, p.1 < I) → ItemsRest prog w A E h₀ env (.Tuple elts k pos) body Q s [(I + 3, "zip"), (I + 1, "tuple"), (I + 2, "tuple"), (R, "reversed"), (I, "tuple_iterator")] [(t, lo1), (C, lo2)] (zipItems xs.reverse ys) m₀ news) :
    wpAny (model prog w) A (call (.type "zip") [.ref R, .ref C]) (fun xv s₁ => wpAny (model prog w) A (pyIter xv) (fun it s₂ => TurnsAt prog w A h₀ env (.Tuple elts k pos) body Q E it s₂) E s₁) E s := by
  subst hi0
  have hr := Na _ hR
  have h1 := Na _ (hsub _ hm1)
  have h2 := Na _ (hsub _ hm2)
  have lt {p : Addr × Obj} (hp : p ∈ all) : p.1 < s.heap.objs.size := Heap.lt_size (Na p hp).1
  have gt {b : Addr} (hb : s.heap.objs.size ≤ b) : h₀.get? b = none := Heap.get?_none_of_le (Nat.le_trans F.above (Nat.le_trans (Nat.le_of_lt F.ns.lt) hb))
  have r1 : s.heap.get? R = some (revO t ((xs.toArray.size : Int) - 1)) := by rw [List.size_toArray]; exact hr.1
  have o1 : s.heap.IsTuple t xs.toArray := ⟨lo1, h1.1, hc1, n1, hd1⟩
  have o2 : s.heap.IsTuple C ys.toArray := ⟨lo2, h2.1, hc2, n2, hd2⟩
  have nL {b : Addr} (hb : s.heap.objs.size ≤ b) : env.locals ≠ b := Nat.ne_of_lt (Nat.lt_of_lt_of_le F.ns.lt hb)
  have D := zipr_apart _ _ _ _ (lt hR) (lt (hsub _ hm1)) (lt (hsub _ hm2)) (hnR _ hm1) (hnR _ hm2)
  have up : ∀ b o, s.heap.get? b = some o → (zipped s.heap R C).get? b = some o := fun b o e => by heap_get
  have st := OnZip.zipped (R := R) (C := C) r1 o1 o2
  refine zip_called r1 o2 (wpAny_pyIter_zip st.2.1 ?_)
  refine ktu_core (tk0 := s.toks) (keep := [(t, lo1), (C, lo2)]) (zip_turns hh D (by simpa using hlen) (by simpa using hsz)) (by simp [zipItems_length, hlen]) ?_ ?_ ?_ ?_ ?_ ?_ ?_ st (F.keeps up) (News.grown (fun p hp => Na p (hsub p hp)) up) (And.intro hm1 (And.intro hm2 trivial)) (rest₀ _ fun p hp => lt hp)
  · rintro i v h ⟨T, x, y, rfl, hx, hy, hT⟩
    have hi : i < xs.length := by
      have := (Array.getElem?_eq_some_iff.mp hy).1
      simp at this; omega
    exact ⟨_, zipItems_get xs.reverse ys i (x := x) (y := y) (by rw [List.getElem?_reverse hi]; simpa using hx) (by simpa using hy), T, 0, rfl, _, hT, rfl, _, rfl⟩
  · rintro i h ⟨_, hz, hP, ⟨a, b, hO⟩, hR, hI, _⟩
    exact objs_cons hz rfl (objs_cons hP rfl (objs_cons hO rfl (objs_cons hR rfl (objs_cons hI rfl objs_nil))))
  · intro b hb
    refine ⟨by grind, ?_⟩
    have hb : b = s.heap.objs.size + 3 ∨ b = s.heap.objs.size + 1 ∨ b = s.heap.objs.size + 2 ∨ b = R ∨ b = s.heap.objs.size := by simpa using hb
    rcases hb with rfl | rfl | rfl | rfl | rfl
    all_goals first | exact hr.2.2 | exact gt (by omega)
  · intro b hb; grind
  · intro b hb; grind
  · intro hb
    have hb : env.locals = s.heap.objs.size + 3 ∨ env.locals = s.heap.objs.size + 1 ∨ env.locals = s.heap.objs.size + 2 ∨ env.locals = R ∨ env.locals = s.heap.objs.size ∨ env.locals = t ∨ env.locals = C := by simpa using hb
    rcases hb with q | q | q | q | q | q | q
    all_goals first | exact nL (by omega) q | exact hr.2.1 q.symm | exact h1.2.1 q.symm | exact h2.2.1 q.symm
  · intro p hp hb
    have hb : p.1 = s.heap.objs.size + 3 ∨ p.1 = s.heap.objs.size + 2 ∨ p.1 = R ∨ p.1 = s.heap.objs.size := by simpa using hb
    have l := lt (hsub p hp)
    rcases hb with q | q | q | q
    all_goals first | exact hnR p hp q | exact Nat.ne_of_lt (Nat.lt_of_lt_of_le l (by omega)) q
end

/-! reversed(t) of a tuple, tuple(I) of a reversed list. -/
theorem nolen_lri : typeLookup (.type "list_reverseiterator") "__len__" = pure none := by rw [typeLookup_type, builtinLookup_eq_fast]; kernel_rfl
theorem hint_lri : typeLookup (.type "list_reverseiterator") "__length_hint__" = pure (some (.builtin "list_reverseiterator.__length_hint__")) := by rw [typeLookup_type, builtinLookup_eq_fast]; kernel_rfl
theorem self_lri : isSubtype (.type "list_reverseiterator") (.type "list_reverseiterator") = pure true := by rw [isSubtype_type]; kernel_rfl
theorem rev_acc {items acc : Array Value} (h : ItemsOf (fun i v => items[items.size - 1 - i]? = some v) acc items.size) : acc.toList = items.toList.reverse := by
  refine List.ext_getElem (by simp [h.1]) fun j j1 j2 => ?_
  have q := h.2 j _ (Array.getElem?_eq_getElem (by simpa using j1))
  rw [List.getElem_reverse]
  simp only [Array.getElem_toList, Array.length_toList]
  exact ((Array.getElem?_eq_some_iff.mp q).2).symm
section
variable {prog : Program} {w : World} {A : Around} {E : Value → Shared → Prop} {s : Shared}
theorem collect_rev {I l : Addr} {items : Array Value} {Q : List Value → Shared → Prop} (hh : A.handled = none) (hit : s.heap.IsRevIter I l ((items.size : Int) - 1)) (hl : s.heap.IsList l items) (hne : l ≠ I) (hn : items.size ≤ sizeLine)
    (hQ : ∀ h' tk, (∀ b o, b ≠ I → s.heap.get? b = some o → h'.get? b = some o) → Q items.toList.reverse { s with heap := h', toks := tk }) : wpAny (model prog w) A (collect (.ref I)) Q E s := by
  obtain ⟨hp, g, d, tk, os⟩ := s
  have hit' : (hp.push { cls := .type "list", data := .seq #[] }).IsRevIter I l ((items.size : Int) - 1) := hit.at fun _ => Heap.get?_push_of_some _
  have ty : Shared.TypeIs ⟨hp.push { cls := .type "list", data := .seq #[] }, g, d, tk, os⟩ (.ref I) "list_reverseiterator" := hit'.typeIs (s := ⟨_, g, d, tk, os⟩)
  have fresh : hp.objs.size ≠ I := by obtain ⟨o, e, _⟩ := hit; exact Nat.ne_of_gt (Heap.lt_size e)
  have one : Builtin.List.listSameRef (.ref hp.objs.size) (.ref I) = false := by simp [Builtin.List.listSameRef, fresh]
  have sp : splitId "list_reverseiterator.__length_hint__" = some ("list_reverseiterator", "__length_hint__") := by decide +kernel
  unfold collect
  refine wpAny_bind (wpAny_runValue (codeAny_builtin F.entry_proto_collect ?_))
  rw [Around.under_plainId F.plain_proto_collect _]
  repeat (first | with_reducible refine wpAny_pure ?_ | with_reducible refine wpAny_bind ?_ | wp_delta | wp_step)
  refine ⟨plainId_quiet F.plain_list_iadd _, codeAny_builtin F.entry_list_iadd ?_⟩
  rw [Around.under_plainId F.plain_list_iadd _]
  repeat (first | with_reducible refine wpAny_pure ?_ | with_reducible refine wpAny_bind ?_ | with_reducible refine wpAny_typeOf ty ?_ | with_reducible refine wpAny_specialOf ty nolen_lri ?_ | with_reducible refine wpAny_specialOf ty hint_lri ?_ | with_reducible refine wpAny_isInstance ty self_lri ?_ | with_reducible refine wpAny_holding ?_ | with_reducible refine wpAny_pyIter_revIter hit' ?_ | (rw [if_neg (by rw [one]; decide)]) | (simp only [sp]) | wp_delta | wp_step)
  refine ⟨plainId_quiet F.plain_extend_loop _, codeAny_extend_loopS (Walks.listRev (A := A.in1) hh I l hne items).toS hn hp.objs.size ?_ _ items.size 0 _ #[] 0 rfl (Nat.zero_le _) ⟨Nat.zero_le _, ?_, hl.at fun _ => Heap.get?_push_of_some _⟩ (Heap.get?_push_size _ rfl) (ItemsOf.nil _) ?_⟩
  · obtain ⟨o, e, _⟩ := hl
    have := Heap.lt_size e
    simp only [List.mem_cons, List.not_mem_nil, or_false, not_or]
    exact ⟨fresh, Nat.ne_of_gt this⟩
  · rw [show (items.size : Int) - 1 - ((0 : Nat) : Int) = (items.size : Int) - 1 by omega]; exact hit'
  · rintro ⟨h', g', d', tk', os'⟩ acc c ⟨mv, eg, ed, eo, _⟩ hS ha
    obtain rfl : g' = g := eg
    obtain rfl : d' = d := ed
    obtain rfl : os' = os := eo
    have er := rev_acc ha
    wp_walk
    rw [er]
    exact hQ h' tk' fun b o hb e => mv b o (by simp only [List.mem_cons, List.not_mem_nil, or_false, not_or]; exact ⟨Nat.ne_of_lt (Heap.lt_size e), hb⟩) (Heap.get?_push_of_some _ e)
end
theorem rev_made (t : Addr) (items : Array Value) (hsz : (items.size : Int) < 2 ^ 63) :
    Meets (Builtin.«reversed.__new__» ⟨[.type "reversed", .ref t], []⟩) (fun _ R s => s.heap.IsTuple t items ∧ ∀ tk, R (.ok (.ret (.ref s.heap.objs.size))) { s with heap := s.heap.push (revO t ((items.size : Int) - 1)), toks := tk }) :=
  .of_wp fun prog w A R s h => by
    obtain ⟨hp, g, d, tk, os⟩ := s
    obtain ⟨ht, h⟩ := h
    have ty : Shared.TypeIs ⟨hp, g, d, tk, os⟩ (.ref t) "tuple" := ht.typeIs (s := ⟨hp, g, d, tk, os⟩)
    have tt : IsTup hp t items := ht
    have lg := slot_tuple_getitem.lookup
    have sub := F.sub_reversed_self
    have nc := newClass_reversed (.ref t)
    repeat (first | with_reducible refine wpAny_pure ?_ | with_reducible refine wpAny_bind ?_ | with_reducible refine wpAny_specialOf ty tup_norev ?_ | with_reducible refine wpAny_isInstance ty tup_nodict ?_ | with_reducible refine wpAny_specialOf ty lg ?_ | with_reducible refine wpAny_of_eq nc ?_ | with_reducible refine len_tuple (s := ⟨hp, g, d, tk, os⟩) tt hsz ?_ | wp_delta | wp_step)
    exact ⟨_, rfl, h _⟩

section
variable {prog : Program} {w : World} {A : Around} {E : Value → Shared → Prop} {s : Shared} {h₀ : Heap} {L : Addr} {m : Str → Option Value} {news : List (Addr × Obj)} {vs : List Value} {Q : Value → Shared → Prop}
/-- reversed(t) of a tuple: the object onto the ledger -/
theorem rev_tup_K {t : Addr} (F : Fr h₀ L s.heap m) (N : News h₀ L s.heap news) (ht : IsTup s.heap t vs.toArray) (hsz : (vs.length : Int) < 2 ^ 63)
    (h : ∀ D h' tk, Fr h₀ L h' m → News h₀ L h' ((D, ({ cls := .type "reversed", dict := none, data := .fields #[.ref t, rawInt ((vs.length : Int) - 1)], slots := #[] } : Obj)) :: news) → (∀ p ∈ news, p.1 < D) → Q (.ref D) { s with heap := h', toks := tk }) :
    wpAny (model prog w) A (call (.type "reversed") [.ref t]) Q E s := by
  have sz : (vs.toArray.size : Int) = vs.length := by rw [List.size_toArray]
  refine callType_new called_rev (by decide) (PySem.F.typeCall_reversed_1 _) (PySem.F.newCall_reversed_1 _) (fun obj => PySem.F.args_object_init_2 obj _) PySem.F.entry_reversed_new (rev_made t vs.toArray (sz ▸ hsz)) ⟨ht, fun tk => ⟨⟨_, Heap.get?_push_size _ rfl, rfl⟩, ?_⟩⟩
  rw [sz]
  exact h _ _ tk (F.push _) (N.push F _) fun p hp => Heap.lt_size (N p hp).1

theorem tuple_made (I l : Addr) (items : Array Value) (hne : l ≠ I) (hn : items.size ≤ sizeLine) :
    Meets (Builtin.«tuple.__new__» ⟨[.type "tuple", .ref I], []⟩)
      (fun A R s => A.handled = none ∧ s.heap.IsRevIter I l ((items.size : Int) - 1) ∧ s.heap.IsList l items ∧ ∀ (h' : Heap) (tk : Nat), (∀ b o', b ≠ I → s.heap.get? b = some o' → h'.get? b = some o') →
        R (.ok (.ret (.ref h'.objs.size))) { s with heap := h'.push { cls := .type "tuple", data := .seq items.toList.reverse.toArray }, toks := tk }) :=
  .of_wp fun prog w A R s h => by
    obtain ⟨hp, g, d, tk, os⟩ := s
    obtain ⟨hh, hit, hl, h⟩ := h
    have hsub := sub_tuple_self
    have hinit := init_tuple_lookup
    have hmh := madeHere_tuple
    have ty : Shared.TypeIs ⟨hp, g, d, tk, os⟩ (.ref I) "list_reverseiterator" := hit.typeIs (s := ⟨hp, g, d, tk, os⟩)
    obtain ⟨o, ho, hc, hd⟩ := id hit
    wp_walk using PySem.AutoSeq1.wpAny_loadPart' ho, wpAny_typeOf ty, collect_rev (A := A.in1) (s := ⟨hp, g, d, tk, os⟩) hh hit hl hne hn
    intro h' tk' hk
    have fits : items.toList.reverse.toArray.size ≤ sizeLine := by simpa using hn
    refine wpAny_bind (wpAny_pure (wpAny_bind (m := Builtin.Tuple.tupleExact _) (wpAny_newObj_type (wpAny_pure ⟨_, rfl, h h' tk' hk⟩) fits)))

/-- tuple(I) of a reversed list of the ledger, which it uses up -/
theorem tuple_rev_K {I l : Addr} {lo : Obj} {all : List (Addr × Obj)} {zs : List Value} {n : Nat} {i : Int}
    (hh : A.handled = none) (F : Fr h₀ L s.heap m) (Na : News h₀ L s.heap all) (hI : (I, revObj l i) ∈ all) (hi : i = (vs.length : Int) - 1) (hsub : ∀ p ∈ news, p ∈ all) (hnI : ∀ p ∈ news, p.1 ≠ I)
    (hm : (l, lo) ∈ news) (hc : lo.cls = .type "list") (hd : lo.data = .seq vs.toArray n) (hz : vs.reverse = zs) (hn : vs.length ≤ sizeLine)
    (h : ∀ D h' tk, Fr h₀ L h' m → News h₀ L h' ((D, ({ cls := .type "tuple", data := .seq zs.toArray } : Obj)) :: news) → (∀ p ∈ news, p.1 < D) → Q (.ref D) { s with heap := h', toks := tk }) :
    wpAny (model prog w) A (call (.type "tuple") [.ref I]) Q E s := by
  subst hi hz
  obtain ⟨i1, i2, i3⟩ := Na _ hI
  have sz : (vs.toArray.size : Int) - 1 = (vs.length : Int) - 1 := by rw [List.size_toArray]
  refine callType_new PySem.F.called_tuple (by decide) (PySem.F.typeCall_tuple_1 _) (PySem.F.newCall_tuple_1 _) (fun obj => PySem.F.args_object_init_2 obj _) PySem.F.entry_tuple_new
    (tuple_made I l vs.toArray (hnI _ hm) (by simpa using hn)) ⟨hh, sz ▸ ⟨_, i1, rfl, rfl⟩, ⟨lo, (Na _ (hsub _ hm)).1, hc, n, hd⟩, fun h' tk hk => ⟨⟨_, Heap.get?_push_size _ rfl, rfl⟩, ?_⟩⟩
  have F' : Fr h₀ L h' m := ⟨F.ns.at' fun o => hk L o fun q => i2 q.symm, fun b o e => hk b o (fun q => by rw [q, i3] at e; cases e) (F.keep b o e), F.above⟩
  have N' : News h₀ L h' news := fun p hp => let ⟨a, b⟩ := Na p (hsub p hp); ⟨hk _ _ (hnI p hp) a, b⟩
  exact h _ _ tk (F'.push _) (N'.push F' _) fun p hp => Heap.lt_size (N' p hp).1
end

local macro_rules | `(tactic| walk_at "compareOp In int ref") => `(tactic| (k_here; k_dflt (refine' in_tuple_ints (tupK ?X ?l) ?i ?_; (case X => k_in); (case l => k_is); (case i => repeat constructor); k_whole)))
set_option maxHeartbeats 4000000 in
theorem c_isleap (w : World) (mean mg mb) (y : Int) (t : Tok) : Claim w mean mg mb 1 22 [.int y t] True (RetB (leap y)) := by
  unfold Claim
  k_fill
  intro dp un gd cn cs a ccd cl outer A₀ base h₀ L m news s Q E B F X N T hk hpre hd hu hret
  walk_at "enter pure"
  k_steps
  all_goals (walk_at "end bool"; unfold leap; (try simp only [fmodE, Int.reduceLE] at *); rw [Bool.eq_iff_iff]; (try simp [*]); (try omega))
local macro_rules | `(tactic| walk_at "call ref") => `(tactic| (k_here; (with_reducible show wpAny _ _ (call (Value.ref 22) _) _ _ _); k_dflt (refine' useC (c_isleap _ _ _ _ _ _) ?k1 ?k2 ?k3 ?k4 ?k5 ?kK ?kp ?kd ?ku ?_; (case k1 => k_asm); (case k2 => k_asm); (case k3 => k_asm); (case k4 => k_asm); (case k5 => k_asm); (case kK => first | exact rfl | assumption); (case kp => first | trivial | assumption | omega | ((refine ⟨?_, ?_⟩) <;> first | assumption | omega | fail) | walk_at "pre c_isleap"); (case kd => ktr_room); (case ku => ktr_units); intro h9 tk9 F9 N9; (try k_sweep); (try dsimp only); (try k_fold))))


set_option maxHeartbeats 4000000 in
theorem c_jwday (w : World) (mean mg mb) (y : Int) (t : Tok) : Claim w mean mg mb 1 36 [.int y t] True (RetI (y % 7)) := by
  unfold Claim
  k_fill
  intro dp un gd cn cs a ccd cl outer A₀ base h₀ L m news s Q E B F X N T hk hpre hd hu hret
  walk_at "enter pure"
  k_steps
  all_goals (walk_at "end int"; simp only [fmodE, Int.reduceLE])
local macro_rules | `(tactic| walk_at "call ref") => `(tactic| (k_here; (with_reducible show wpAny _ _ (call (Value.ref 36) _) _ _ _); k_dflt (refine' useC (c_jwday _ _ _ _ _ _) ?k1 ?k2 ?k3 ?k4 ?k5 ?kK ?kp ?kd ?ku ?_; (case k1 => k_asm); (case k2 => k_asm); (case k3 => k_asm); (case k4 => k_asm); (case k5 => k_asm); (case kK => first | exact rfl | assumption); (case kp => first | trivial | assumption | omega | ((refine ⟨?_, ?_⟩) <;> first | assumption | omega | fail) | walk_at "pre c_jwday"); (case kd => ktr_room); (case ku => ktr_units); intro t9 h9 tk9 F9 N9; (try k_sweep); (try dsimp only); (try k_fold))))


set_option maxHeartbeats 4000000 in
theorem c_legal (w : World) (mean mg mb) (y m d : Int) (t1 t2 t3 : Tok) : Claim w mean mg mb 2 44 [.int y t1, .int m t2, .int d t3] ((1 ≤ m ∧ m ≤ 12) ∧ Legal y m d) (RetB true) := by
  unfold Claim
  k_fill
  intro dp un gd cn cs a ccd cl outer A₀ base h₀ L m' news s Q E B F X N T hk hpre hd hu hret
  obtain ⟨⟨hm1, hm2⟩, hp1, hp2⟩ := hpre
  rcases months hm1 hm2 with h | h | h | h | h | h | h | h | h | h | h | h
  all_goals (
    subst h
    clear hm1 hm2
    first
      | (simp (config := { decide := true }) only [ml, if_true, if_false] at hp2
         fail_if_success (have : d ≤ (if leap y = true then 29 else 28) := hp2)
         walk_at "enter pure"
         k_steps
         all_goals first
           | (exfalso; omega)
           | (walk_at "end bool"; first | rfl | (simp; done) | (simp [*]; done)))
      | (cases hy : leap y
         all_goals (
           simp (config := { decide := true }) only [ml, hy, if_true, if_false] at hp2
           walk_at "enter pure"
           k_steps
           all_goals first
             | (exfalso; omega)
             | (walk_at "end bool"; first | rfl | (simp; done) | (simp [*]; done)))))
local macro_rules | `(tactic| walk_at "call ref") => `(tactic| (k_here; (with_reducible show wpAny _ _ (call (Value.ref 44) _) _ _ _); k_dflt (refine' useC (c_legal _ _ _ _ _ _ _ _ _ _) ?k1 ?k2 ?k3 ?k4 ?k5 ?kK ?kp ?kd ?ku ?_; (case k1 => k_asm); (case k2 => k_asm); (case k3 => k_asm); (case k4 => k_asm); (case k5 => k_asm); (case kK => first | exact rfl | assumption); (case kp => first | trivial | assumption | omega | ((refine ⟨?_, ?_⟩) <;> first | assumption | omega | fail) | walk_at "pre c_legal"); (case kd => ktr_room); (case ku => ktr_units); intro h9 tk9 F9 N9; (try k_sweep); (try dsimp only); (try k_fold))))


set_option maxHeartbeats 4000000 in
theorem c_to_jd (w : World) (mean mg mb) (y m d : Int) (t1 t2 t3 : Tok) : Claim w mean mg mb 3 51 [.int y t1, .int m t2, .int d t3] ((1 ≤ m ∧ m ≤ 12) ∧ Legal y m d) (RetI (J y m d)) := by
  unfold Claim
  k_fill
  intro dp un gd cn cs a ccd cl outer A₀ base h₀ L m' news s Q E B F X N T hk hpre hd hu hret
  walk_at "enter pure"
  k_steps
  all_goals (walk_at "end int"; (try simp only [fdivE, fmodE, Int.reduceLE] at *); simp [J, *] <;> omega)
local macro_rules | `(tactic| walk_at "call ref") => `(tactic| (k_here; (with_reducible show wpAny _ _ (call (Value.ref 51) _) _ _ _); k_dflt (refine' useC (c_to_jd _ _ _ _ _ _ _ _ _ _) ?k1 ?k2 ?k3 ?k4 ?k5 ?kK ?kp ?kd ?ku ?_; (case k1 => k_asm); (case k2 => k_asm); (case k3 => k_asm); (case k4 => k_asm); (case k5 => k_asm); (case kK => first | exact rfl | assumption); (case kp => first | trivial | assumption | omega | ((refine ⟨?_, ?_⟩) <;> first | assumption | omega | fail) | walk_at "pre c_to_jd"); (case kd => ktr_room); (case ku => ktr_units); intro t9 h9 tk9 F9 N9; (try k_sweep); (try dsimp only); (try k_fold))))


section
variable {prog : Program} {w : World} {A : Around} {E : Value → Shared → Prop} {s : Shared} {h₀ : Heap} {L : Addr} {m : Str → Option Value} {news : List (Addr × Obj)}
/-! t[:k] of a tuple of more than k items -/
theorem upto_ends (k n : Nat) (hk : k < n) : Builtin.Slice.sliceAdjust none (some (k : Int)) 1 (n : Int) = (0, (k : Int)) := by
  simp [Builtin.Slice.sliceAdjust]; omega
theorem upto_count (k : Nat) : Builtin.Slice.slicePlaces 0 (k : Int) 1 = k := by
  rcases k with _ | k <;> simp [Builtin.Slice.slicePlaces] <;> omega
theorem upto_items (xs : Array Value) (k : Nat) : ((List.range k).filterMap fun (j : Nat) => xs[((0 : Int) + (j : Int) * 1).toNat]?) = xs.toList.take k := by
  induction k with
  | zero => simp
  | succ k ih =>
    rw [List.range_succ, List.filterMap_append, ih, List.take_add_one]
    congr 1
    simp only [List.filterMap_cons, List.filterMap_nil, Int.zero_add, Int.mul_one, Int.toNat_natCast, Array.getElem?_toList]
    cases xs[k]? <;> rfl

abbrev uptoO (k : Nat) (u : Tok) : Obj := { cls := .type "slice", data := .fields #[.none, .int k u, .none] }
theorem getItem_upto {hp : Heap} {g : Array GenState} {d : Drawn} {tk : Nat} {os : OsState} {t sl : Addr} {items : Array Value} {k : Nat} {u : Tok} {Q : Value → Shared → Prop} (ht : IsTup hp t items) (hs : hp.get? sl = some (uptoO k u)) (hk : k < items.size) (hsz : items.size ≤ sizeLine)
    (h : Q (.ref hp.objs.size) ⟨hp.push { cls := .type "tuple", data := .seq (items.toList.take k).toArray }, g, d, tk, os⟩) : wpAny (model prog w) A (getItem (.ref t) (.ref sl)) Q E ⟨hp, g, d, tk, os⟩ := by
  have fits : (items.toList.take k).toArray.size ≤ sizeLine := by simp; omega
  have ts : Shared.TypeIs ⟨hp, g, d, tk, os⟩ (.ref sl) "slice" := ⟨_, hs, rfl⟩
  have tt : Shared.TypeIs ⟨hp, g, d, tk, os⟩ (.ref t) "tuple" := let ⟨o, a, b, _⟩ := ht; ⟨o, a, b⟩
  have part (j : Nat) (v : Value) (e : (#[Value.none, .int k u, .none] : Array Value)[j]? = some v) {A : Around} {R E : Value → Shared → Prop} (q : R v ⟨hp, g, d, tk, os⟩) : wpAny (model prog w) A (field (.ref sl) j) R E ⟨hp, g, d, tk, os⟩ :=
    wpAny_field (s := ⟨hp, g, d, tk, os⟩) hs rfl e q
  have p0 := @part 0 .none rfl
  have p1 := @part 1 (.int k u) rfl
  have p2 := @part 2 .none rfl
  have ne : (k == items.size) = false := by simp; omega
  unfold getItem
  repeat (first | with_reducible refine wpAny_pure ?_ | with_reducible refine wpAny_bind ?_ | with_reducible refine wpAny_holding ?_ | with_reducible refine wpAny_sequenceKey tt (by decide) ?_ | with_reducible refine wpAny_callSpecial?_slot (name := Str.ofString "__getitem__") tt slot_tuple_getitem (wpAny_call_entry slot_tuple_getitem tt entry_tuple_getitem ?_ (args_tuple_getitem _ _)) | with_reducible refine tupleItemsOf_ (s := ⟨hp, g, d, tk, os⟩) ht ?_ | with_reducible refine wpAny_typeOf ts ?_ | with_reducible refine p0 ?_ | with_reducible refine p1 ?_ | with_reducible refine p2 ?_ | with_reducible refine slicePart_none ?_ | with_reducible refine slicePart_int ?_ | wp_delta | wp_step)
  simp only [Option.getD_none, upto_ends k items.size hk, upto_count, upto_items, ne, Bool.and_false, Bool.false_eq_true, if_false]
  refine wpAny_bind (m := Builtin.Tuple.tupleExact _) (wpAny_newObj_type ?_ fits)
  repeat (first | with_reducible refine wpAny_pure ?_ | with_reducible refine wpAny_bind ?_ | wp_delta)
  exact ⟨_, rfl, wpAny_pure h⟩

theorem slice_upto {value slice : Expr} {t : Addr} {items : Array Value} {zs : List Value} {i : Int} {u : Tok} {Q : Value → Shared → Prop}
    (F : Fr h₀ L s.heap m) (N : News h₀ L s.heap news) (ht : IsTup s.heap t items) (hi : 0 ≤ i) (hk : i.toNat < items.size) (e : items.toList.take i.toNat = zs)
    (h : ∀ D h', Fr h₀ L h' m → News h₀ L h' ((D, { cls := .type "tuple", data := .seq zs.toArray }) :: news) → (∀ p ∈ news, p.1 < D) → Q (.ref D) { s with heap := h' })
    (hs : subscripted slice false (.ref t) (.ref s.heap.objs.size) = operate [.ref s.heap.objs.size, .ref t] (getItem (.ref t) (.ref s.heap.objs.size)))
    (hg : ∀ r, letTemporaryGo value (.ref t) r = pure ()) (hsz : items.size ≤ sizeLine) :
    wpAny (model prog w) A (subscriptTail value slice (.ref t) (.ref s.heap.objs.size)) Q E { s with heap := s.heap.push { cls := .type "slice", data := .fields #[.none, .int i u, .none] } } := by
  obtain ⟨k, rfl⟩ := Int.eq_ofNat_of_zero_le hi
  subst e
  have up : ∀ b o, s.heap.get? b = some o → (s.heap.push (uptoO k u)).get? b = some o := fun _ _ => Heap.get?_push_of_some _
  have tt : IsTup (s.heap.push (uptoO k u)) t items := ht.keeps up
  have FF := F.push (uptoO k u)
  exact subscriptTail_ops (s := { s with heap := s.heap.push (uptoO k u) }) tt.typeIs slot_tuple_getitem.lookup
    (getItem_upto tt (Heap.get?_push_size _ rfl) hk hsz (h _ _ (FF.push _) (News.push FF (N.grown up) _) fun p hp => Heap.lt_size (up _ _ (N p hp).1))) hs hg
end
/-! The loop over the months ahead: it adds to one int, whatever it adds. -/
def RestIs (R : (Str → Option Value) → List (Addr × Obj) → Prop) (M : Int → Tok → (Str → Option Value)) (news : List (Addr × Obj)) : Prop := ∀ f' tf', R (M f' tf') news
theorem RestIs.out {R : (Str → Option Value) → List (Addr × Obj) → Prop} {M : Int → Tok → (Str → Option Value)} {news : List (Addr × Obj)} (h : RestIs R M news) (f' : Int) (tf' : Tok) : R (M f' tf') news := h f' tf'
theorem over_days {y m f' : Int} {ty tm tf' : Tok} {B X : Value} {u : Str → Option Value} :
    (fun z => if z = Str.ofString "first" then some (Value.int f' tf') else if z = Str.ofString "days" then some B else if z = Str.ofString "first" then some X else if z = Str.ofString "year" then some (.int y ty) else if z = Str.ofString "month" then some (.int m tm) else u z) =
    fun z => if z = Str.ofString "first" then some (Value.int f' tf') else if z = Str.ofString "year" then some (.int y ty) else if z = Str.ofString "month" then some (.int m tm) else if z = Str.ofString "days" then some B else u z := by
  funext z
  by_cases h1 : z = Str.ofString "first"
  · simp only [h1, if_true]
  · by_cases h2 : z = Str.ofString "days"
    · have d1 : ¬ Str.ofString "days" = Str.ofString "first" := by decide
      have d2 : ¬ Str.ofString "days" = Str.ofString "year" := by decide
      have d3 : ¬ Str.ofString "days" = Str.ofString "month" := by decide
      simp only [h2, d1, d2, d3, if_true, if_false]
    · simp only [h1, h2, if_false]
theorem over_start {y m f : Int} {ty tm tf : Tok} {u : Str → Option Value} (hf : u (Str.ofString "first") = some (.int f tf)) (hy : u (Str.ofString "year") = some (.int y ty)) (hm : u (Str.ofString "month") = some (.int m tm)) :
    (fun z => if z = Str.ofString "first" then some (Value.int f tf) else if z = Str.ofString "year" then some (.int y ty) else if z = Str.ofString "month" then some (.int m tm) else u z) = u := by
  funext z
  by_cases h1 : z = Str.ofString "first"
  · rw [if_pos h1, h1, hf]
  · rw [if_neg h1]
    by_cases h3 : z = Str.ofString "year"
    · rw [if_pos h3, h3, hy]
    · rw [if_neg h3]
      by_cases h4 : z = Str.ofString "month"
      · rw [if_pos h4, h4, hm]
      · rw [if_neg h4]
theorem items_sum {prog : Program} {w : World} {A : Around} {E : Value → Shared → Prop} {h₀ : Heap} {env : Env} {body : List Stmt} {Q : Flow → Shared → Prop} {s : Shared} {I : Addr} {keep news : List (Addr × Obj)} {p : Pos} {y m : Int} {ty tm : Tok}
    (step : ∀ (f : Int) (tf : Tok) (d : Int) (td : Tok) (u : Str → Option Value) (R : (Str → Option Value) → List (Addr × Obj) → Prop) (o : Obj) (h : Heap) (tk : Nat), o.cls = .type "tuple_iterator" →
      Fr h₀ env.locals h (fun z => if z = Str.ofString "first" then some (.int f tf) else if z = Str.ofString "year" then some (.int y ty) else if z = Str.ofString "month" then some (.int m tm) else u z) → News h₀ env.locals h ((I, o) :: news) →
      RestIs R (fun f' tf' => fun z => if z = Str.ofString "first" then some (.int f' tf') else if z = Str.ofString "days" then some (.int d td) else if z = Str.ofString "first" then some (.int f tf) else if z = Str.ofString "year" then some (.int y ty) else if z = Str.ofString "month" then some (.int m tm) else u z) news →
      wpAny (model prog w) A (assign (.Name (Str.ofString "days") p) env (.int d td)) (fun _ s₂ => wpAny (model prog w) A (execs body env) (UnrPostW h₀ env.locals { s with heap := h, toks := tk } [(I, o)] (fun m' n' => SubL keep n' ∧ R m' n') Q) E s₂) E { s with heap := h, toks := tk })
    (done : ∀ (f : Int) (tf : Tok) (u : Str → Option Value) (h : Heap) (tk : Nat),
      Fr h₀ env.locals h (fun z => if z = Str.ofString "first" then some (.int f tf) else if z = Str.ofString "year" then some (.int y ty) else if z = Str.ofString "month" then some (.int m tm) else u z) → News h₀ env.locals h news → Q .next { s with heap := h, toks := tk }) :
    ∀ (vs : List Value), (∀ v ∈ vs, ∃ d t, v = Value.int d t) → ∀ (f : Int) (tf : Tok) (u : Str → Option Value), ItemsRest prog w A E h₀ env (.Name (Str.ofString "days") p) body Q s [(I, "tuple_iterator")] keep (vs.map .val)
      (fun z => if z = Str.ofString "first" then some (.int f tf) else if z = Str.ofString "year" then some (.int y ty) else if z = Str.ofString "month" then some (.int m tm) else u z) news := by
  intro vs
  induction vs with
  | nil => exact fun _ f tf u => ItemsRest.zero fun h tk F N => done f tf u h tk F N
  | cons v r ih =>
    intro hv f tf u
    obtain ⟨d, td, rfl⟩ := hv _ (.head _)
    refine ItemsRest.val fun h tk F => AllObj.cons fun o ho => AllObj.nil fun N => ?_
    refine step f tf d td u (fun m' n' => ItemsRest prog w A E h₀ env (.Name (Str.ofString "days") p) body Q s [(I, "tuple_iterator")] keep (r.map .val) m' n') o h tk ho F N fun f' tf' => ?_
    have q := ih (fun v hm => hv v (.tail _ hm)) f' tf' (fun z => if z = Str.ofString "days" then some (Value.int d td) else u z)
    rw [← over_days (X := .int f tf)] at q
    exact q
theorem items_at {prog : Program} {w : World} {A : Around} {E : Value → Shared → Prop} {h₀ : Heap} {env : Env} {target : Expr} {body : List Stmt} {Q : Flow → Shared → Prop} {s : Shared} {ws : List (Addr × String)} {keep news : List (Addr × Obj)} {vs : List Value} {f y m : Int} {tf ty tm : Tok} {u : Str → Option Value}
    (hf : u (Str.ofString "first") = some (.int f tf)) (hy : u (Str.ofString "year") = some (.int y ty)) (hm : u (Str.ofString "month") = some (.int m tm))
    (h : ItemsRest prog w A E h₀ env target body Q s ws keep (vs.map .val) (fun z => if z = Str.ofString "first" then some (.int f tf) else if z = Str.ofString "year" then some (.int y ty) else if z = Str.ofString "month" then some (.int m tm) else u z) news) :
    ItemsRest prog w A E h₀ env target body Q s ws keep (vs.map .val) u news := by
  rw [over_start hf hy hm] at h
  exact h
theorem ints_take {vs : List Value} {k : Nat} (h : ∀ v ∈ vs, ∃ d t, v = Value.int d t) : ∀ v ∈ vs.take k, ∃ d t, v = Value.int d t := fun v hv => h v (List.mem_of_mem_take hv)

abbrev RetM (y : Int) (h₀ : Heap) (L : Addr) (m : Str → Option Value) (news : List (Addr × Obj)) (s : Shared) (Q : Value → Shared → Prop) : Prop :=
  ∀ (x : Int) (D : Addr) (t1 t2 : Tok) (c : Nat) (h' : Heap) (tk' : Nat), Fr h₀ L h' m → News h₀ L h' ((D, ({ cls := .type "tuple", data := .seq #[.int x t1, .int y t2] c } : Obj)) :: news) → Q (.ref D) { s with heap := h', toks := tk' }
theorem endM {h₀ h' : Heap} {L : Addr} {m : Str → Option Value} {news : List (Addr × Obj)} {s : Shared} {Q : Value → Shared → Prop} {tk' : Nat} {y x' y' : Int} {D : Addr} {t1 t2 : Tok} {c : Nat} {g : Heap} {L' : Addr} {mm : Str → Option Value} {nn : List (Addr × Obj)} (hret : RetM y h₀ L m news s Q) (NG : News h₀ L g news) (F' : Fr g L' h' mm) (F : Fr h₀ L h' m) (N : News h₀ L h' nn)
    (hm : (D, ({ cls := .type "tuple", data := .seq #[.int x' t1, .int y' t2] c } : Obj)) ∈ nn) (e2 : y' = y) : Q (.ref D) { s with heap := h', toks := tk' } := by
  subst e2
  exact hret _ D _ _ _ h' tk' F (on_more NG F' N hm)


local macro_rules | `(tactic| walk_at "subscriptTail Name Slice ref ref") => `(tactic| (k_here; (with_reducible show wpAny _ _ (subscriptTail _ (PySem.Expr.Slice none _ none _) (Value.ref _) (Value.ref _)) _ _ _); k_dflt (refine' slice_upto ?F ?N (tupK ?X ?l) ?p ?q ?e ?_ ?s ?t ?z; (case F => k_asm); (case N => k_asm); (case X => k_in); (case l => k_is); (case p => omega); (case q => (show Int.toNat _ < 13; omega)); (case e => rfl); (case s => with_unfolding_all rfl); (case t => kmk_pure); (case z => decide)); intro D' h' F' N' l1; (try k_lt l1); (try k_sweep)))
local macro_rules | `(tactic| walk_at "exec For Name Subscript cons nil") => `(tactic| (k_here; (rename Fr _ _ _ _ => lF'); (with_unfolding_all refine' For_turns lF' ?_; k_whole)))
local macro_rules | `(tactic| walk_at "pyIter ref") => `(tactic| (k_here; (with_reducible show wpAny _ _ (pyIter (Value.ref _)) (fun it s₂ => TurnsAt _ _ _ _ _ _ _ _ _ it s₂) _ _); ((rename Fr _ _ _ _ => lF'); (rename News _ _ _ _ => lN')); k_dflt (refine' iter_tupTurns ?q1 lF' lN' ?q2 ?q3 ?q4 ?_; (case q1 => rfl); (case q2 => k_mem); (case q3 => rfl); (case q4 => rfl)); clear lF' lN'; intro i' l1; (try k_lt l1); k_dflt (refine' items_at ?q5 ?q6 ?q7 ?_; (case q5 => rfl); (case q6 => rfl); (case q7 => rfl)); k_dflt (refine' items_sum ?_ ?_ _ ?q8 _ _ _; (case q8 => (refine ints_take ?_; (repeat (first | exact List.forall_mem_nil _ | refine List.forall_mem_cons.mpr ⟨⟨_, _, rfl⟩, ?_⟩))))); first | (intro f9 tf9 d9 td9 u9 R9 o9 h9 tk9 ho9 F9 N9 hR9) | skip))
local macro_rules | `(tactic| walk_at "subscriptTail Name Name ref int") => `(tactic| (k_here; (rcases months (by assumption) (by assumption) with h | h | h | h | h | h | h | h | h | h | h | h); all_goals (subst h; first | (exfalso; omega) | skip)))

set_option maxHeartbeats 4000000 in
theorem c_monthrange (w : World) (mean mg mb) (y m : Int) (t1 t2 : Tok) : Claim w mean mg mb 2 29 [.int y t1, .int m t2] (1 ≤ m ∧ m ≤ 12) (RetM (ml y m)) := by
  unfold Claim
  k_fill
  intro dp un gd cn cs a ccd cl outer A₀ base h₀ L m' news s Q E B F X N T hk hpre hd hu hret
  obtain ⟨hm1, hm2⟩ := hpre
  walk_at "enter pure"
  k_steps
  all_goals first
    | (rename RestIs _ _ _ => hR; exact hR.out _ _)
    | (refine endM (by assumption) (by assumption) (by assumption) (by k_asm) (by k_asm) (by k_mem) ?_; simp (config := { decide := true }) [ml, *])

local macro_rules | `(tactic| walk_at "call ref") => `(tactic| (k_here; (with_reducible show wpAny _ _ (call (Value.ref 29) _) _ _ _); k_dflt (refine' useC (c_monthrange _ _ _ _ _ _ _ _) ?k1 ?k2 ?k3 ?k4 ?k5 ?kK ?kp ?kd ?ku ?_; (case k1 => k_asm); (case k2 => k_asm); (case k3 => k_asm); (case k4 => k_asm); (case k5 => k_asm); (case kK => first | exact rfl | assumption); (case kp => first | trivial | assumption | omega | ((refine ⟨?_, ?_⟩) <;> first | assumption | omega | fail) | walk_at "pre c_monthrange"); (case kd => ktr_room); (case ku => ktr_units); intro x9 D9 t91 t92 c9 h9 tk9 F9 N9; (try k_sweep); (try dsimp only); (try k_fold))))

theorem c_month_length (w : World) (mean mg mb) (y m : Int) (t1 t2 : Tok) : Claim w mean mg mb 3 65 [.int y t1, .int m t2] (1 ≤ m ∧ m ≤ 12) (RetI (ml y m)) := by
  unfold Claim
  k_fill
  intro dp un gd cn cs a ccd cl outer A₀ base h₀ L m' news s Q E B F X N T hk hpre hd hu hret
  walk_at "enter pure"
  k_steps
  all_goals (walk_at "end int"; rfl)
local macro_rules | `(tactic| walk_at "call ref") => `(tactic| (k_here; (with_reducible show wpAny _ _ (call (Value.ref 65) _) _ _ _); k_dflt (refine' useC (c_month_length _ _ _ _ _ _ _ _) ?k1 ?k2 ?k3 ?k4 ?k5 ?kK ?kp ?kd ?ku ?_; (case k1 => k_asm); (case k2 => k_asm); (case k3 => k_asm); (case k4 => k_asm); (case k5 => k_asm); (case kK => first | exact rfl | assumption); (case kp => first | trivial | assumption | omega | ((refine ⟨?_, ?_⟩) <;> first | assumption | omega | fail) | walk_at "pre c_month_length"); (case kd => ktr_room); (case ku => ktr_units); intro t9 h9 tk9 F9 N9; (try k_sweep); (try dsimp only); (try k_fold))))


theorem gM_eq {n Y A : Int} (hY : gY n = Y) (hA : gAof n Y = A) : ((n - J Y 1 1 + A) * 12 + 373).fdiv 367 = gM n := by subst hY; subst hA; rfl
theorem gD_eq {n Y M : Int} (hY : gY n = Y) (hM : M = gM n) : n - J Y M 1 + 1 = gD n := by subst hY; subst hM; rfl
theorem gY_a {n : Int} (h : cent n = 4) : gY n = y0 n := if_pos (.inl h)
theorem gY_b {n : Int} (h : yix n = 4) : gY n = y0 n := if_pos (.inr h)
theorem gY_c {n : Int} (h1 : cent n ≠ 4) (h2 : yix n ≠ 4) : gY n = y0 n + 1 := if_neg fun h => h.elim h1 h2
theorem gA_a {n Y : Int} (h : n - J Y 1 1 < 58 + (if leap Y = true then 1 else 0)) : gAof n Y = 0 := if_pos h
theorem gA_b {n Y : Int} (h : ¬ n - J Y 1 1 < 58 + (if leap Y = true then 1 else 0)) (h2 : leap Y = true) : gAof n Y = 1 := (if_neg h).trans (if_pos h2)
theorem gA_c {n Y : Int} (h : ¬ n - J Y 1 1 < 58 + (if leap Y = true then 1 else 0)) (h2 : leap Y = false) : gAof n Y = 2 := (if_neg h).trans (if_neg (ne_true_of_eq_false h2))

theorem pre_month {n x : Int} (e : x = gM n) (h : 1721426 ≤ n) : 1 ≤ x ∧ x ≤ 12 := e ▸ from_month n h

local macro_rules | `(tactic| walk_at "pre c_to_jd") => `(tactic| exact ⟨⟨by decide, by decide⟩, legal1 _ _⟩)
local macro_rules | `(tactic| walk_at "gY") => `(tactic| first | exact gY_a (by assumption) | exact gY_b (by assumption) | exact gY_c (by assumption) (by assumption))
local macro_rules | `(tactic| walk_at "gM") => `(tactic| (refine gM_eq (n := by assumption) (by walk_at "gY") ?_; first | exact gA_a (by assumption) | exact gA_b (by assumption) (by assumption) | exact gA_c (by assumption) (by assumption)))
local macro_rules | `(tactic| walk_at "pre c_to_jd") => `(tactic| (refine ⟨pre_month (n := by assumption) ?_ (by assumption), legal1 _ _⟩; walk_at "gM"))
set_option maxHeartbeats 4000000 in
theorem c_from_jd (w : World) (mean mg mb) (n : Int) (t1 : Tok) : Claim w mean mg mb 4 58 [.int n t1] (1721426 ≤ n) (RetT3 (gY n) (gM n) (gD n)) := by
  unfold Claim
  k_fill
  intro dp un gd cn cs a ccd cl outer A₀ base h₀ L m' news s Q E B F X N T hk hpre hd hu hret
  walk_at "enter pure"
  k_steps
  all_goals (walk_at "end T3"; all_goals first | (symm; walk_at "gY") | walk_at "gM" | (refine gD_eq (by walk_at "gY") ?_; walk_at "gM"))
local macro_rules | `(tactic| walk_at "call ref") => `(tactic| (k_here; (with_reducible show wpAny _ _ (call (Value.ref 58) _) _ _ _); k_dflt (refine' useC (c_from_jd _ _ _ _ _ _) ?k1 ?k2 ?k3 ?k4 ?k5 ?kK ?kp ?kd ?ku ?_; (case k1 => k_asm); (case k2 => k_asm); (case k3 => k_asm); (case k4 => k_asm); (case k5 => k_asm); (case kK => first | exact rfl | assumption); (case kp => first | trivial | assumption | omega | ((refine ⟨?_, ?_⟩) <;> first | assumption | omega | fail) | walk_at "pre c_from_jd"); (case kd => ktr_room); (case ku => ktr_units); intro D9 t90 t91 t92 c9 h9 tk9 F9 N9 l9; (try simp only [AllNe, and_true] at l9); (try k_sweep); (try dsimp only); (try k_fold))))


set_option maxHeartbeats 4000000 in
theorem c_wpy (w : World) (mean mg mb) (y : Int) (t : Tok) : Claim w mean mg mb 4 79 [.int y t] True (RetI (wpy y)) := by
  unfold Claim
  k_fill
  intro dp un gd cn cs a ccd cl outer A₀ base h₀ L m' news s Q E B F X N T hk hpre hd hu hret
  walk_at "enter pure"
  k_steps
  all_goals (walk_at "end int"; simp [wpy, G, *])
local macro_rules | `(tactic| walk_at "call ref") => `(tactic| (k_here; (with_reducible show wpAny _ _ (call (Value.ref 79) _) _ _ _); k_dflt (refine' useC (c_wpy _ _ _ _ _ _) ?k1 ?k2 ?k3 ?k4 ?k5 ?kK ?kp ?kd ?ku ?_; (case k1 => k_asm); (case k2 => k_asm); (case k3 => k_asm); (case k4 => k_asm); (case k5 => k_asm); (case kK => first | exact rfl | assumption); (case kp => first | trivial | assumption | omega | ((refine ⟨?_, ?_⟩) <;> first | assumption | omega | fail) | walk_at "pre c_wpy"); (case kd => ktr_room); (case ku => ktr_units); intro t9 h9 tk9 F9 N9; (try k_sweep); (try dsimp only); (try k_fold))))


set_option maxHeartbeats 4000000 in
theorem c_week1 (w : World) (mean mg mb) (y : Int) (t : Tok) : Claim w mean mg mb 4 86 [.int y t] True (RetI (W y)) := by
  unfold Claim
  k_fill
  intro dp un gd cn cs a ccd cl outer A₀ base h₀ L m' news s Q E B F X N T hk hpre hd hu hret
  walk_at "enter pure"
  k_steps
  all_goals (walk_at "end int"; simp [W, G, *])
local macro_rules | `(tactic| walk_at "call ref") => `(tactic| (k_here; (with_reducible show wpAny _ _ (call (Value.ref 86) _) _ _ _); k_dflt (refine' useC (c_week1 _ _ _ _ _ _) ?k1 ?k2 ?k3 ?k4 ?k5 ?kK ?kp ?kd ?ku ?_; (case k1 => k_asm); (case k2 => k_asm); (case k3 => k_asm); (case k4 => k_asm); (case k5 => k_asm); (case kK => first | exact rfl | assumption); (case kp => first | trivial | assumption | omega | ((refine ⟨?_, ?_⟩) <;> first | assumption | omega | fail) | walk_at "pre c_week1"); (case kd => ktr_room); (case ku => ktr_units); intro t9 h9 tk9 F9 N9; (try k_sweep); (try dsimp only); (try k_fold))))


set_option maxHeartbeats 4000000 in
theorem c_to_jd_ord (w : World) (mean mg mb) (y d : Int) (t1 t2 : Tok) : Claim w mean mg mb 4 121 [.int y t1, .int d t2] True (RetI (G y + d - 1)) := by
  unfold Claim
  k_fill
  intro dp un gd cn cs a ccd cl outer A₀ base h₀ L m' news s Q E B F X N T hk hpre hd hu hret
  walk_at "enter pure"
  k_steps
  all_goals (walk_at "end int"; rfl)
local macro_rules | `(tactic| walk_at "call ref") => `(tactic| (k_here; (with_reducible show wpAny _ _ (call (Value.ref 121) _) _ _ _); k_dflt (refine' useC (c_to_jd_ord _ _ _ _ _ _ _ _) ?k1 ?k2 ?k3 ?k4 ?k5 ?kK ?kp ?kd ?ku ?_; (case k1 => k_asm); (case k2 => k_asm); (case k3 => k_asm); (case k4 => k_asm); (case k5 => k_asm); (case kK => first | exact rfl | assumption); (case kp => first | trivial | assumption | omega | ((refine ⟨?_, ?_⟩) <;> first | assumption | omega | fail) | walk_at "pre c_to_jd_ord"); (case kd => ktr_room); (case ku => ktr_units); intro t9 h9 tk9 F9 N9; (try k_sweep); (try dsimp only); (try k_fold))))


set_option maxHeartbeats 4000000 in
theorem c_legal_pos (w : World) (mean mg mb) (y : Int) (t1 t2 t3 : Tok) : Claim w mean mg mb 2 135 [.int y t1, .int 1 t2, .int 1 t3] (1 ≤ y) (RetB true) := by
  unfold Claim
  k_fill
  intro dp un gd cn cs a ccd cl outer A₀ base h₀ L m' news s Q E B F X N T hk hpre hd hu hret
  walk_at "enter pure"
  k_steps
  all_goals (walk_at "end bool"; first | rfl | (simp; done))
local macro_rules | `(tactic| walk_at "call ref") => `(tactic| (k_here; (with_reducible show wpAny _ _ (call (Value.ref 135) _) _ _ _); k_dflt (refine' useC (c_legal_pos _ _ _ _ _ _ _ _) ?k1 ?k2 ?k3 ?k4 ?k5 ?kK ?kp ?kd ?ku ?_; (case k1 => k_asm); (case k2 => k_asm); (case k3 => k_asm); (case k4 => k_asm); (case k5 => k_asm); (case kK => first | exact rfl | assumption); (case kp => first | trivial | assumption | omega | ((refine ⟨?_, ?_⟩) <;> first | assumption | omega | fail) | walk_at "pre c_legal_pos"); (case kd => ktr_room); (case ku => ktr_units); intro h9 tk9 F9 N9; (try k_sweep); (try dsimp only); (try k_fold))))

set_option maxHeartbeats 4000000 in
theorem c_to_jd_pos (w : World) (mean mg mb) (y : Int) (t1 t2 t3 : Tok) : Claim w mean mg mb 4 142 [.int y t1, .int 1 t2, .int 1 t3] (1 ≤ y) (RetI (G (y + 1788))) := by
  unfold Claim
  k_fill
  intro dp un gd cn cs a ccd cl outer A₀ base h₀ L m' news s Q E B F X N T hk hpre hd hu hret
  walk_at "enter pure"
  k_steps
  all_goals (walk_at "end int"; (try simp only [fdivE, fmodE, Int.reduceLE] at *); simp [G, J]; omega)
local macro_rules | `(tactic| walk_at "call ref") => `(tactic| (k_here; (with_reducible show wpAny _ _ (call (Value.ref 142) _) _ _ _); k_dflt (refine' useC (c_to_jd_pos _ _ _ _ _ _ _ _) ?k1 ?k2 ?k3 ?k4 ?k5 ?kK ?kp ?kd ?ku ?_; (case k1 => k_asm); (case k2 => k_asm); (case k3 => k_asm); (case k4 => k_asm); (case k5 => k_asm); (case kK => first | exact rfl | assumption); (case kp => first | trivial | assumption | omega | ((refine ⟨?_, ?_⟩) <;> first | assumption | omega | fail) | walk_at "pre c_to_jd_pos"); (case kd => ktr_room); (case ku => ktr_units); intro t9 h9 tk9 F9 N9; (try k_sweep); (try dsimp only); (try k_fold))))

theorem pY_a {n : Int} (h : yix n = 4) : y0 n - 1 - 1789 + 2 = pY n := (if_pos h).symm
theorem pY_b {n : Int} (h : yix n ≠ 4) : y0 n - 1789 + 2 = pY n := (if_neg h).symm
theorem pD_a {n : Int} (h : yix n = 4) : 365 = pD n := (if_pos h).symm
theorem pD_b {n : Int} (h : yix n ≠ 4) : n - 1721426 - (n - 1721426).fdiv 146097 * 146097 - ((n - 1721426).fmod 146097).fdiv 36524 * 36524 - (((n - 1721426).fmod 146097).fmod 36524).fdiv 1461 * 1461 - ((((n - 1721426).fmod 146097).fmod 36524).fmod 1461).fdiv 365 * 365 = pD n := (if_neg h).symm
theorem pM_eq {n d : Int} (h : d = pD n) : d.fdiv 28 + 1 = (pD n).fdiv 28 + 1 := by rw [h]
theorem pE_eq {n d : Int} (h : d = pD n) : d - d.fdiv 28 * 28 + 1 = pD n - (pD n).fdiv 28 * 28 + 1 := by rw [h]
local macro_rules | `(tactic| walk_at "pD") => `(tactic| first | exact pD_a (by assumption) | exact pD_b (by assumption))
set_option maxHeartbeats 4000000 in
theorem c_from_jd_pos (w : World) (mean mg mb) (n : Int) (t1 : Tok) : Claim w mean mg mb 4 149 [.int n t1] (2374480 ≤ n) (RetT3 (pY n) ((pD n).fdiv 28 + 1) (pD n - (pD n).fdiv 28 * 28 + 1)) := by
  unfold Claim
  k_fill
  intro dp un gd cn cs a ccd cl outer A₀ base h₀ L m' news s Q E B F X N T hk hpre hd hu hret
  walk_at "enter pure"
  k_steps
  all_goals (walk_at "end T3"; all_goals first | exact pY_a (by assumption) | exact pY_b (by assumption) | (refine pM_eq ?_; walk_at "pD") | (refine pE_eq ?_; walk_at "pD"))
local macro_rules | `(tactic| walk_at "call ref") => `(tactic| (k_here; (with_reducible show wpAny _ _ (call (Value.ref 149) _) _ _ _); k_dflt (refine' useC (c_from_jd_pos _ _ _ _ _ _) ?k1 ?k2 ?k3 ?k4 ?k5 ?kK ?kp ?kd ?ku ?_; (case k1 => k_asm); (case k2 => k_asm); (case k3 => k_asm); (case k4 => k_asm); (case k5 => k_asm); (case kK => first | exact rfl | assumption); (case kp => first | trivial | assumption | omega | ((refine ⟨?_, ?_⟩) <;> first | assumption | omega | fail) | walk_at "pre c_from_jd_pos"); (case kd => ktr_room); (case ku => ktr_units); intro D9 t90 t91 t92 c9 h9 tk9 F9 N9 l9; (try simp only [AllNe, and_true] at l9); (try k_sweep); (try dsimp only); (try k_fold))))


set_option maxHeartbeats 4000000 in
theorem c_iso_of (w : World) (mean mg mb) (y m d : Int) (t1 t2 t3 : Tok) : Claim w mean mg mb 5 93 [.int y t1, .int m t2, .int d t3] (((1 ≤ y ∧ y ≤ 9999) ∧ (1 ≤ m ∧ m ≤ 12)) ∧ Legal y m d) (RetT3 (isoY y (J y m d)) (isoW y (J y m d)) (isoD y (J y m d))) := by
  unfold Claim
  k_fill
  intro dp un gd cn cs a ccd cl outer A₀ base h₀ L m' news s Q E B F X N T hk hpre hd hu hret
  obtain ⟨⟨⟨hy1, hy2⟩, hm⟩, hl⟩ := hpre
  have hl1 := hl.1
  have hl2 := hl.2
  walk_at "enter pure"
  k_steps
  all_goals first | (exfalso; omega) | (walk_at "end T3"; all_goals ((try simp only [fdivE, fmodE, Int.reduceLE] at *); simp only [isoY, isoW, isoD, isoA, fdivE, fmodE, Int.reduceLE]; (repeat' split) <;> omega))
local macro_rules | `(tactic| walk_at "call ref") => `(tactic| (k_here; (with_reducible show wpAny _ _ (call (Value.ref 93) _) _ _ _); k_dflt (refine' useC (c_iso_of _ _ _ _ _ _ _ _ _ _) ?k1 ?k2 ?k3 ?k4 ?k5 ?kK ?kp ?kd ?ku ?_; (case k1 => k_asm); (case k2 => k_asm); (case k3 => k_asm); (case k4 => k_asm); (case k5 => k_asm); (case kK => first | exact rfl | assumption); (case kp => first | trivial | assumption | omega | ((refine ⟨?_, ?_⟩) <;> first | assumption | omega | fail) | walk_at "pre c_iso_of"); (case kd => ktr_room); (case ku => ktr_units); intro D9 t90 t91 t92 c9 h9 tk9 F9 N9 l9; (try simp only [AllNe, and_true] at l9); (try k_sweep); (try dsimp only); (try k_fold))))


local macro_rules | `(tactic| walk_at "pre c_to_jd") => `(tactic| exact ⟨⟨by decide, by decide⟩, legal3 _ _⟩)
set_option maxHeartbeats 4000000 in
theorem c_to_jd_ind (w : World) (mean mg mb) (y m d : Int) (t1 t2 t3 : Tok) : Claim w mean mg mb 4 100 [.int y t1, .int m t2, .int d t3] (True) (RetI (IJ y m d)) := by
  unfold Claim
  k_fill
  intro dp un gd cn cs a ccd cl outer A₀ base h₀ L m' news s Q E B F X N T hk hpre hd hu hret
  cases hl : leap (y + 78)
  all_goals (
    walk_at "enter pure"
    k_steps
    all_goals (walk_at "end int"; simp only [IJ, hl, reduceIte, Bool.false_eq_true]; (repeat' split) <;> omega))
local macro_rules | `(tactic| walk_at "call ref") => `(tactic| (k_here; (with_reducible show wpAny _ _ (call (Value.ref 100) _) _ _ _); k_dflt (refine' useC (c_to_jd_ind _ _ _ _ _ _ _ _ _ _) ?k1 ?k2 ?k3 ?k4 ?k5 ?kK ?kp ?kd ?ku ?_; (case k1 => k_asm); (case k2 => k_asm); (case k3 => k_asm); (case k4 => k_asm); (case k5 => k_asm); (case kK => first | exact rfl | assumption); (case kp => first | trivial | assumption | omega | ((refine ⟨?_, ?_⟩) <;> first | assumption | omega | fail) | walk_at "pre c_to_jd_ind"); (case kd => ktr_room); (case ku => ktr_units); intro t9 h9 tk9 F9 N9; (try k_sweep); (try dsimp only); (try k_fold))))

set_option maxHeartbeats 4000000 in
theorem c_from_jd_ind (w : World) (mean mg mb) (n : Int) (t1 : Tok) : Claim w mean mg mb 5 107 [.int n t1] (1721426 ≤ n) (RetT3 (iY n) (iM n) (iD n)) := by
  unfold Claim
  k_fill
  intro dp un gd cn cs a ccd cl outer A₀ base h₀ L m' news s Q E B F X N T hk hpre hd hu hret
  cases hl : leap (gY n)
  all_goals (
    walk_at "enter pure"
    k_steps
    all_goals (walk_at "end T3"; all_goals ((try simp only [fdivE, fmodE, Int.reduceLE] at *); simp only [iY, iM, iD, iU, iT, iC, hl, reduceIte, Bool.false_eq_true, fdivE, fmodE, Int.reduceLE]; (repeat' split) <;> omega)))
local macro_rules | `(tactic| walk_at "call ref") => `(tactic| (k_here; (with_reducible show wpAny _ _ (call (Value.ref 107) _) _ _ _); k_dflt (refine' useC (c_from_jd_ind _ _ _ _ _ _) ?k1 ?k2 ?k3 ?k4 ?k5 ?kK ?kp ?kd ?ku ?_; (case k1 => k_asm); (case k2 => k_asm); (case k3 => k_asm); (case k4 => k_asm); (case k5 => k_asm); (case kK => first | exact rfl | assumption); (case kp => first | trivial | assumption | omega | ((refine ⟨?_, ?_⟩) <;> first | assumption | omega | fail) | walk_at "pre c_from_jd_ind"); (case kd => ktr_room); (case ku => ktr_units); intro D9 t90 t91 t92 c9 h9 tk9 F9 N9 l9; (try simp only [AllNe, and_true] at l9); (try k_sweep); (try dsimp only); (try k_fold))))


set_option maxHeartbeats 4000000 in
theorem c_mayan (w : World) (mean mg mb) (n : Int) (t1 : Tok) : Claim w mean mg mb 2 114 [.int n t1] (584283 ≤ n) (RetT5 (my1 n) (my2 n) (my3 n) (my4 n) (my5 n)) := by
  unfold Claim
  k_fill
  intro dp un gd cn cs a ccd cl outer A₀ base h₀ L m' news s Q E B F X N T hk hpre hd hu hret
  walk_at "enter pure"
  k_steps
  all_goals (first | (exfalso; omega) | (walk_at "end T5"; all_goals rfl))
local macro_rules | `(tactic| walk_at "call ref") => `(tactic| (k_here; (with_reducible show wpAny _ _ (call (Value.ref 114) _) _ _ _); k_dflt (refine' useC (c_mayan _ _ _ _ _ _) ?k1 ?k2 ?k3 ?k4 ?k5 ?kK ?kp ?kd ?ku ?_; (case k1 => k_asm); (case k2 => k_asm); (case k3 => k_asm); (case k4 => k_asm); (case k5 => k_asm); (case kK => first | exact rfl | assumption); (case kp => first | trivial | assumption | omega | ((refine ⟨?_, ?_⟩) <;> first | assumption | omega | fail) | walk_at "pre c_mayan"); (case kd => ktr_room); (case ku => ktr_units); intro D9 t90 t91 t92 t93 t94 c9 h9 tk9 F9 N9 l9; (try simp only [AllNe, and_true] at l9); (try k_sweep); (try dsimp only); (try k_fold))))

local macro_rules | `(tactic| walk_at "pre c_to_jd") => `(tactic| exact from_legal _ (by assumption))
set_option maxHeartbeats 4000000 in
theorem c_from_jd_ord (w : World) (mean mg mb) (n : Int) (t1 : Tok) : Claim w mean mg mb 5 128 [.int n t1] (1721426 ≤ n) (RetT2 (gY n) (n - G (gY n) + 1)) := by
  unfold Claim
  k_fill
  intro dp un gd cn cs a ccd cl outer A₀ base h₀ L m' news s Q E B F X N T hk hpre hd hu hret
  walk_at "enter pure"
  k_steps
  all_goals (walk_at "end T2"; all_goals first | rfl | (rw [from_back n hpre]; rfl))
local macro_rules | `(tactic| walk_at "call ref") => `(tactic| (k_here; (with_reducible show wpAny _ _ (call (Value.ref 128) _) _ _ _); k_dflt (refine' useC (c_from_jd_ord _ _ _ _ _ _) ?k1 ?k2 ?k3 ?k4 ?k5 ?kK ?kp ?kd ?ku ?_; (case k1 => k_asm); (case k2 => k_asm); (case k3 => k_asm); (case k4 => k_asm); (case k5 => k_asm); (case kK => first | exact rfl | assumption); (case kp => first | trivial | assumption | omega | ((refine ⟨?_, ?_⟩) <;> first | assumption | omega | fail) | walk_at "pre c_from_jd_ord"); (case kd => ktr_room); (case ku => ktr_units); intro D9 t90 t91 c9 h9 tk9 F9 N9 l9; (try simp only [AllNe, and_true] at l9); (try k_sweep); (try dsimp only); (try k_fold))))

set_option maxHeartbeats 4000000 in
theorem c_odd (w : World) (mean mg mb) (n : Int) (t1 : Tok) : Claim w mean mg mb 5 177 [.int n t1] (1721426 ≤ n) (RetB (decide (gY n % 400 = 0) && (decide (gM n = 12) && decide (gD n = 31)))) := by
  unfold Claim
  k_fill
  intro dp un gd cn cs a ccd cl outer A₀ base h₀ L m' news s Q E B F X N T hk hpre hd hu hret
  walk_at "enter pure"
  k_steps
  all_goals (walk_at "end bool"; (try simp only [fmodE, Int.reduceLE] at *); rw [Bool.eq_iff_iff]; simp [*])
local macro_rules | `(tactic| walk_at "call ref") => `(tactic| (k_here; (with_reducible show wpAny _ _ (call (Value.ref 177) _) _ _ _); k_dflt (refine' useC (c_odd _ _ _ _ _ _) ?k1 ?k2 ?k3 ?k4 ?k5 ?kK ?kp ?kd ?ku ?_; (case k1 => k_asm); (case k2 => k_asm); (case k3 => k_asm); (case k4 => k_asm); (case k5 => k_asm); (case kK => first | exact rfl | assumption); (case kp => first | trivial | assumption | omega | ((refine ⟨?_, ?_⟩) <;> first | assumption | omega | fail) | walk_at "pre c_odd"); (case kd => ktr_room); (case ku => ktr_units); intro h9 tk9 F9 N9; (try k_sweep); (try dsimp only); (try k_fold))))

set_option maxHeartbeats 4000000 in
theorem c_due0 (w : World) (mean mg mb) (y p : Int) (t1 t2 t3 : Tok) : Claim w mean mg mb 1 170 [.int 0 t1, .int y t2, .int p t3] (True) (RetT3 y ((p - 1).fdiv 7 + 1) ((p - 1).fmod 7 + 1)) := by
  unfold Claim
  k_fill
  intro dp un gd cn cs a ccd cl outer A₀ base h₀ L m' news s Q E B F X N T hk hpre hd hu hret
  walk_at "enter pure"
  k_steps
  all_goals (walk_at "end T3"; all_goals rfl)
local macro_rules | `(tactic| walk_at "call ref") => `(tactic| (k_here; (with_reducible show wpAny _ _ (call (Value.ref 170) _) _ _ _); k_dflt (refine' useC (c_due0 _ _ _ _ _ _ _ _ _) ?k1 ?k2 ?k3 ?k4 ?k5 ?kK ?kp ?kd ?ku ?_; (case k1 => k_asm); (case k2 => k_asm); (case k3 => k_asm); (case k4 => k_asm); (case k5 => k_asm); (case kK => first | exact rfl | assumption); (case kp => first | trivial | assumption | omega | ((refine ⟨?_, ?_⟩) <;> first | assumption | omega | fail) | walk_at "pre c_due0"); (case kd => ktr_room); (case ku => ktr_units); intro D9 t90 t91 t92 c9 h9 tk9 F9 N9 l9; (try simp only [AllNe, and_true] at l9); (try k_sweep); (try dsimp only); (try k_fold))))

set_option maxHeartbeats 4000000 in
theorem c_due1 (w : World) (mean mg mb) (y p : Int) (t1 t2 t3 : Tok) : Claim w mean mg mb 1 170 [.int 1 t1, .int y t2, .int p t3] (True) (RetT2 y p) := by
  unfold Claim
  k_fill
  intro dp un gd cn cs a ccd cl outer A₀ base h₀ L m' news s Q E B F X N T hk hpre hd hu hret
  walk_at "enter pure"
  k_steps
  all_goals (walk_at "end T2"; all_goals rfl)
local macro_rules | `(tactic| walk_at "call ref") => `(tactic| (k_here; (with_reducible show wpAny _ _ (call (Value.ref 170) _) _ _ _); k_dflt (refine' useC (c_due1 _ _ _ _ _ _ _ _ _) ?k1 ?k2 ?k3 ?k4 ?k5 ?kK ?kp ?kd ?ku ?_; (case k1 => k_asm); (case k2 => k_asm); (case k3 => k_asm); (case k4 => k_asm); (case k5 => k_asm); (case kK => first | exact rfl | assumption); (case kp => first | trivial | assumption | omega | ((refine ⟨?_, ?_⟩) <;> first | assumption | omega | fail) | walk_at "pre c_due1"); (case kd => ktr_room); (case ku => ktr_units); intro D9 t90 t91 c9 h9 tk9 F9 N9 l9; (try simp only [AllNe, and_true] at l9); (try k_sweep); (try dsimp only); (try k_fold))))

set_option maxHeartbeats 4000000 in
theorem c_due2 (w : World) (mean mg mb) (y p : Int) (t1 t2 t3 : Tok) : Claim w mean mg mb 1 170 [.int 2 t1, .int y t2, .int p t3] (True) (RetT3 y ((p - 1).fdiv 28 + 1) ((p - 1).fmod 28 + 1)) := by
  unfold Claim
  k_fill
  intro dp un gd cn cs a ccd cl outer A₀ base h₀ L m' news s Q E B F X N T hk hpre hd hu hret
  walk_at "enter pure"
  k_steps
  all_goals (walk_at "end T3"; all_goals rfl)
local macro_rules | `(tactic| walk_at "call ref") => `(tactic| (k_here; (with_reducible show wpAny _ _ (call (Value.ref 170) _) _ _ _); k_dflt (refine' useC (c_due2 _ _ _ _ _ _ _ _ _) ?k1 ?k2 ?k3 ?k4 ?k5 ?kK ?kp ?kd ?ku ?_; (case k1 => k_asm); (case k2 => k_asm); (case k3 => k_asm); (case k4 => k_asm); (case k5 => k_asm); (case kK => first | exact rfl | assumption); (case kp => first | trivial | assumption | omega | ((refine ⟨?_, ?_⟩) <;> first | assumption | omega | fail) | walk_at "pre c_due2"); (case kd => ktr_room); (case ku => ktr_units); intro D9 t90 t91 t92 c9 h9 tk9 F9 N9 l9; (try simp only [AllNe, and_true] at l9); (try k_sweep); (try dsimp only); (try k_fold))))


local macro_rules | `(tactic| walk_at "pre c_iso_of") => `(tactic| exact ⟨⟨from_year _ (by assumption) (by assumption), (from_legal _ (by assumption)).1⟩, (from_legal _ (by assumption)).2⟩)
set_option maxHeartbeats 4000000 in
theorem c_from_jd_iso (w : World) (mean mg mb) (n : Int) (t1 : Tok) : Claim w mean mg mb 7 72 [.int n t1] (2374480 ≤ n ∧ n ≤ 5373484) (RetT3 (isoY (gY n) n) (isoW (gY n) n) (isoD (gY n) n)) := by
  unfold Claim
  k_fill
  intro dp un gd cn cs a ccd cl outer A₀ base h₀ L m' news s Q E B F X N T hk hpre hd hu hret
  obtain ⟨hlo, hhi⟩ := hpre
  have hlo2 : 1721426 ≤ n := by omega
  walk_at "enter pure"
  k_steps
  all_goals (walk_at "end T3"; all_goals rw [from_back n hlo2])
local macro_rules | `(tactic| walk_at "call ref") => `(tactic| (k_here; (with_reducible show wpAny _ _ (call (Value.ref 72) _) _ _ _); k_dflt (refine' useC (c_from_jd_iso _ _ _ _ _ _) ?k1 ?k2 ?k3 ?k4 ?k5 ?kK ?kp ?kd ?ku ?_; (case k1 => k_asm); (case k2 => k_asm); (case k3 => k_asm); (case k4 => k_asm); (case k5 => k_asm); (case kK => first | exact rfl | assumption); (case kp => first | trivial | assumption | omega | ((refine ⟨?_, ?_⟩) <;> first | assumption | omega | fail) | walk_at "pre c_from_jd_iso"); (case kd => ktr_room); (case ku => ktr_units); intro D9 t90 t91 t92 c9 h9 tk9 F9 N9 l9; (try simp only [AllNe, and_true] at l9); (try k_sweep); (try dsimp only); (try k_fold))))

set_option maxHeartbeats 4000000 in
theorem c_len0 (w : World) (mean mg mb) (y : Int) (t1 t2 : Tok) : Claim w mean mg mb 6 156 [.int 0 t1, .int y t2] (True) (RetI (7 * wpy y)) := by
  unfold Claim
  k_fill
  intro dp un gd cn cs a ccd cl outer A₀ base h₀ L m' news s Q E B F X N T hk hpre hd hu hret
  walk_at "enter pure"
  k_steps
  all_goals (walk_at "end int"; rfl)
local macro_rules | `(tactic| walk_at "call ref") => `(tactic| (k_here; (with_reducible show wpAny _ _ (call (Value.ref 156) _) _ _ _); k_dflt (refine' useC (c_len0 _ _ _ _ _ _ _) ?k1 ?k2 ?k3 ?k4 ?k5 ?kK ?kp ?kd ?ku ?_; (case k1 => k_asm); (case k2 => k_asm); (case k3 => k_asm); (case k4 => k_asm); (case k5 => k_asm); (case kK => first | exact rfl | assumption); (case kp => first | trivial | assumption | omega | ((refine ⟨?_, ?_⟩) <;> first | assumption | omega | fail) | walk_at "pre c_len0"); (case kd => ktr_room); (case ku => ktr_units); intro t9 h9 tk9 F9 N9; (try k_sweep); (try dsimp only); (try k_fold))))

set_option maxHeartbeats 4000000 in
theorem c_len1 (w : World) (mean mg mb) (y : Int) (t1 t2 : Tok) : Claim w mean mg mb 6 156 [.int 1 t1, .int y t2] (True) (RetI (G (y + 1) - G y)) := by
  unfold Claim
  k_fill
  intro dp un gd cn cs a ccd cl outer A₀ base h₀ L m' news s Q E B F X N T hk hpre hd hu hret
  walk_at "enter pure"
  k_steps
  all_goals (walk_at "end int"; omega)
local macro_rules | `(tactic| walk_at "call ref") => `(tactic| (k_here; (with_reducible show wpAny _ _ (call (Value.ref 156) _) _ _ _); k_dflt (refine' useC (c_len1 _ _ _ _ _ _ _) ?k1 ?k2 ?k3 ?k4 ?k5 ?kK ?kp ?kd ?ku ?_; (case k1 => k_asm); (case k2 => k_asm); (case k3 => k_asm); (case k4 => k_asm); (case k5 => k_asm); (case kK => first | exact rfl | assumption); (case kp => first | trivial | assumption | omega | ((refine ⟨?_, ?_⟩) <;> first | assumption | omega | fail) | walk_at "pre c_len1"); (case kd => ktr_room); (case ku => ktr_units); intro t9 h9 tk9 F9 N9; (try k_sweep); (try dsimp only); (try k_fold))))

set_option maxHeartbeats 4000000 in
theorem c_len2 (w : World) (mean mg mb) (y : Int) (t1 t2 : Tok) : Claim w mean mg mb 6 156 [.int 2 t1, .int y t2] (1 ≤ y) (RetI (G (y + 1 + 1788) - G (y + 1788))) := by
  unfold Claim
  k_fill
  intro dp un gd cn cs a ccd cl outer A₀ base h₀ L m' news s Q E B F X N T hk hpre hd hu hret
  walk_at "enter pure"
  k_steps
  all_goals (walk_at "end int"; rfl)
local macro_rules | `(tactic| walk_at "call ref") => `(tactic| (k_here; (with_reducible show wpAny _ _ (call (Value.ref 156) _) _ _ _); k_dflt (refine' useC (c_len2 _ _ _ _ _ _ _) ?k1 ?k2 ?k3 ?k4 ?k5 ?kK ?kp ?kd ?ku ?_; (case k1 => k_asm); (case k2 => k_asm); (case k3 => k_asm); (case k4 => k_asm); (case k5 => k_asm); (case kK => first | exact rfl | assumption); (case kp => first | trivial | assumption | omega | ((refine ⟨?_, ?_⟩) <;> first | assumption | omega | fail) | walk_at "pre c_len2"); (case kd => ktr_room); (case ku => ktr_units); intro t9 h9 tk9 F9 N9; (try k_sweep); (try dsimp only); (try k_fold))))

set_option maxHeartbeats 4000000 in
theorem c_date0 (w : World) (mean mg mb) (n : Int) (t1 t2 : Tok) : Claim w mean mg mb 8 163 [.int 0 t1, .int n t2] (2374480 ≤ n ∧ n ≤ 5373484) (RetT3 (isoY (gY n) n) (isoW (gY n) n) (isoD (gY n) n)) := by
  unfold Claim
  k_fill
  intro dp un gd cn cs a ccd cl outer A₀ base h₀ L m' news s Q E B F X N T hk hpre hd hu hret
  obtain ⟨hlo, hhi⟩ := hpre
  have hlo2 : 1721426 ≤ n := by omega
  walk_at "enter pure"
  k_steps
  all_goals (walk_at "end T3"; all_goals rfl)
local macro_rules | `(tactic| walk_at "call ref") => `(tactic| (k_here; (with_reducible show wpAny _ _ (call (Value.ref 163) _) _ _ _); k_dflt (refine' useC (c_date0 _ _ _ _ _ _ _) ?k1 ?k2 ?k3 ?k4 ?k5 ?kK ?kp ?kd ?ku ?_; (case k1 => k_asm); (case k2 => k_asm); (case k3 => k_asm); (case k4 => k_asm); (case k5 => k_asm); (case kK => first | exact rfl | assumption); (case kp => first | trivial | assumption | omega | ((refine ⟨?_, ?_⟩) <;> first | assumption | omega | fail) | walk_at "pre c_date0"); (case kd => ktr_room); (case ku => ktr_units); intro D9 t90 t91 t92 c9 h9 tk9 F9 N9 l9; (try simp only [AllNe, and_true] at l9); (try k_sweep); (try dsimp only); (try k_fold))))

set_option maxHeartbeats 4000000 in
theorem c_date1 (w : World) (mean mg mb) (n : Int) (t1 t2 : Tok) : Claim w mean mg mb 8 163 [.int 1 t1, .int n t2] (2374480 ≤ n ∧ n ≤ 5373484) (RetT2 (gY n) (n - G (gY n) + 1)) := by
  unfold Claim
  k_fill
  intro dp un gd cn cs a ccd cl outer A₀ base h₀ L m' news s Q E B F X N T hk hpre hd hu hret
  obtain ⟨hlo, hhi⟩ := hpre
  have hlo2 : 1721426 ≤ n := by omega
  walk_at "enter pure"
  k_steps
  all_goals (walk_at "end T2"; all_goals rfl)
local macro_rules | `(tactic| walk_at "call ref") => `(tactic| (k_here; (with_reducible show wpAny _ _ (call (Value.ref 163) _) _ _ _); k_dflt (refine' useC (c_date1 _ _ _ _ _ _ _) ?k1 ?k2 ?k3 ?k4 ?k5 ?kK ?kp ?kd ?ku ?_; (case k1 => k_asm); (case k2 => k_asm); (case k3 => k_asm); (case k4 => k_asm); (case k5 => k_asm); (case kK => first | exact rfl | assumption); (case kp => first | trivial | assumption | omega | ((refine ⟨?_, ?_⟩) <;> first | assumption | omega | fail) | walk_at "pre c_date1"); (case kd => ktr_room); (case ku => ktr_units); intro D9 t90 t91 c9 h9 tk9 F9 N9 l9; (try simp only [AllNe, and_true] at l9); (try k_sweep); (try dsimp only); (try k_fold))))

set_option maxHeartbeats 4000000 in
theorem c_date2 (w : World) (mean mg mb) (n : Int) (t1 t2 : Tok) : Claim w mean mg mb 8 163 [.int 2 t1, .int n t2] (2374480 ≤ n ∧ n ≤ 5373484) (RetT3 (pY n) ((pD n).fdiv 28 + 1) (pD n - (pD n).fdiv 28 * 28 + 1)) := by
  unfold Claim
  k_fill
  intro dp un gd cn cs a ccd cl outer A₀ base h₀ L m' news s Q E B F X N T hk hpre hd hu hret
  obtain ⟨hlo, hhi⟩ := hpre
  have hlo2 : 1721426 ≤ n := by omega
  walk_at "enter pure"
  k_steps
  all_goals (walk_at "end T3"; all_goals rfl)
local macro_rules | `(tactic| walk_at "call ref") => `(tactic| (k_here; (with_reducible show wpAny _ _ (call (Value.ref 163) _) _ _ _); k_dflt (refine' useC (c_date2 _ _ _ _ _ _ _) ?k1 ?k2 ?k3 ?k4 ?k5 ?kK ?kp ?kd ?ku ?_; (case k1 => k_asm); (case k2 => k_asm); (case k3 => k_asm); (case k4 => k_asm); (case k5 => k_asm); (case kK => first | exact rfl | assumption); (case kp => first | trivial | assumption | omega | ((refine ⟨?_, ?_⟩) <;> first | assumption | omega | fail) | walk_at "pre c_date2"); (case kd => ktr_room); (case ku => ktr_units); intro D9 t90 t91 t92 c9 h9 tk9 F9 N9 l9; (try simp only [AllNe, and_true] at l9); (try k_sweep); (try dsimp only); (try k_fold))))


abbrev RetIF (P : Int → Prop) (h₀ : Heap) (L : Addr) (m : Str → Option Value) (news : List (Addr × Obj)) (s : Shared) (Q : Value → Shared → Prop) : Prop := ∀ r, P r → RetI r h₀ L m news s Q
abbrev RetT2F (P : Int → Int → Prop) (h₀ : Heap) (L : Addr) (m : Str → Option Value) (news : List (Addr × Obj)) (s : Shared) (Q : Value → Shared → Prop) : Prop := ∀ x y, P x y → RetT2 x y h₀ L m news s Q
abbrev RetT3F (P : Int → Int → Int → Prop) (h₀ : Heap) (L : Addr) (m : Str → Option Value) (news : List (Addr × Obj)) (s : Shared) (Q : Value → Shared → Prop) : Prop := ∀ x y z, P x y z → RetT3 x y z h₀ L m news s Q

section
variable {w : World} {mean : ExcName → Option Value} {mg mb : Str → Option Value} {n : Nat} {f : Addr} {vs : List Value} {pre pre' : Prop} {P1 : Int → Prop} {P2 : Int → Int → Prop} {P3 : Int → Int → Int → Prop} {x y z : Int}
theorem toIF (C : Claim w mean mg mb n f vs pre (RetI x)) (hp : pre' → pre ∧ P1 x) : Claim w mean mg mb n f vs pre' (RetIF P1) :=
  fun _ _ _ _ _ _ _ _ _ _ _ _ _ _ _ _ _ _ B F X N T hk p hd hu hr => C _ _ _ _ _ _ _ _ _ _ _ _ _ _ _ _ _ _ B F X N T hk (hp p).1 hd hu (hr _ (hp p).2)
theorem toT2F (C : Claim w mean mg mb n f vs pre (RetT2 x y)) (hp : pre' → pre ∧ P2 x y) : Claim w mean mg mb n f vs pre' (RetT2F P2) :=
  fun _ _ _ _ _ _ _ _ _ _ _ _ _ _ _ _ _ _ B F X N T hk p hd hu hr => C _ _ _ _ _ _ _ _ _ _ _ _ _ _ _ _ _ _ B F X N T hk (hp p).1 hd hu (hr _ _ (hp p).2)
theorem toT3F (C : Claim w mean mg mb n f vs pre (RetT3 x y z)) (hp : pre' → pre ∧ P3 x y z) : Claim w mean mg mb n f vs pre' (RetT3F P3) :=
  fun _ _ _ _ _ _ _ _ _ _ _ _ _ _ _ _ _ _ B F X N T hk p hd hu hr => C _ _ _ _ _ _ _ _ _ _ _ _ _ _ _ _ _ _ B F X N T hk (hp p).1 hd hu (hr _ _ _ (hp p).2)
end

/-- the Positivist year's first day -/
def V (y : Int) : Int := G (y + 1788)
def odd (n : Int) : Bool := decide (gY n % 400 = 0) && (decide (gM n = 12) && decide (gD n = 31))
theorem not_odd {n : Int} (h : odd n = false) : ¬ (gY n % 400 = 0 ∧ gM n = 12 ∧ gD n = 31) := by
  intro q
  simp [odd, q] at h

theorem len0_facts (y : Int) : W (y + 1) = W y + 7 * wpy y ∧ 1 ≤ 7 * wpy y := ⟨W_succ y, by have := wpy_two y; omega⟩
theorem len1_facts (y : Int) : G (y + 1) = G y + (G (y + 1) - G y) ∧ 1 ≤ G (y + 1) - G y := by
  have := G_succ y
  have := lp_01 y
  omega
theorem len2_facts (y : Int) : V (y + 1) = V y + (G (y + 1 + 1788) - G (y + 1788)) ∧ 1 ≤ G (y + 1 + 1788) - G (y + 1788) := by
  have h := len1_facts (y + 1788)
  rw [show y + 1788 + 1 = y + 1 + 1788 by omega] at h
  exact h
theorem date0_facts (n : Int) (h : 1721426 ≤ n) : W (isoY (gY n) n) + 7 * (isoW (gY n) n - 1) + isoD (gY n) n = n + 1 ∧ 1 ≤ isoD (gY n) n ∧ isoD (gY n) n ≤ 7 ∧ W (isoY (gY n) n) ≤ n ∧ n < W (isoY (gY n) n + 1) := by
  obtain ⟨h1, h2, h3, h4⟩ := iso_all n h
  rw [h3, h4]
  refine ⟨by omega, by omega, by omega, h1, h2⟩
theorem date1_facts (n : Int) (h : 1721426 ≤ n) : G (gY n) + (n - G (gY n) + 1) = n + 1 ∧ G (gY n) ≤ n ∧ n < G (gY n + 1) := by
  obtain ⟨-, h1, h2⟩ := year_of n h
  exact ⟨by omega, h1, h2⟩
theorem date2_facts (n : Int) (h : 2374480 ≤ n) (ho : odd n = false) :
    V (pY n) + 28 * ((pD n).fdiv 28 + 1 - 1) + (pD n - (pD n).fdiv 28 * 28 + 1) = n + 1 ∧ 1 ≤ pD n - (pD n).fdiv 28 * 28 + 1 ∧ pD n - (pD n).fdiv 28 * 28 + 1 ≤ 28 ∧ V (pY n) ≤ n ∧ n < V (pY n + 1) ∧ 1 ≤ pY n := by
  obtain ⟨h0, h1, h2⟩ := year_of n (by omega)
  obtain ⟨e1, e2⟩ := pos_all n (by omega) (not_odd ho)
  unfold V
  rw [e1, e2, show gY n - 1788 + 1788 = gY n by omega, show gY n - 1788 + 1 + 1788 = gY n + 1 by omega, fdivE _ (by decide)]
  refine ⟨by omega, by omega, by omega, h1, h2, ?_⟩
  have := G_eq (gY n + 1)
  omega

theorem f_len0 (w : World) (mean mg mb) (y : Int) (t1 t2 : Tok) : Claim w mean mg mb 6 156 [.int 0 t1, .int y t2] True (RetIF fun r => W (y + 1) = W y + r ∧ 1 ≤ r) :=
  toIF (c_len0 w mean mg mb y t1 t2) fun _ => ⟨trivial, len0_facts y⟩
theorem f_len1 (w : World) (mean mg mb) (y : Int) (t1 t2 : Tok) : Claim w mean mg mb 6 156 [.int 1 t1, .int y t2] True (RetIF fun r => G (y + 1) = G y + r ∧ 1 ≤ r) :=
  toIF (c_len1 w mean mg mb y t1 t2) fun _ => ⟨trivial, len1_facts y⟩
theorem f_len2 (w : World) (mean mg mb) (y : Int) (t1 t2 : Tok) : Claim w mean mg mb 6 156 [.int 2 t1, .int y t2] (1 ≤ y) (RetIF fun r => V (y + 1) = V y + r ∧ 1 ≤ r) :=
  toIF (c_len2 w mean mg mb y t1 t2) fun h => ⟨h, len2_facts y⟩
theorem f_date0 (w : World) (mean mg mb) (n : Int) (t1 t2 : Tok) : Claim w mean mg mb 8 163 [.int 0 t1, .int n t2] (2374480 ≤ n ∧ n ≤ 5373484) (RetT3F fun y k d => W y + 7 * (k - 1) + d = n + 1 ∧ 1 ≤ d ∧ d ≤ 7 ∧ W y ≤ n ∧ n < W (y + 1)) :=
  toT3F (c_date0 w mean mg mb n t1 t2) fun h => ⟨h, date0_facts n (by omega)⟩
theorem f_date1 (w : World) (mean mg mb) (n : Int) (t1 t2 : Tok) : Claim w mean mg mb 8 163 [.int 1 t1, .int n t2] (2374480 ≤ n ∧ n ≤ 5373484) (RetT2F fun y p => G y + p = n + 1 ∧ G y ≤ n ∧ n < G (y + 1)) :=
  toT2F (c_date1 w mean mg mb n t1 t2) fun h => ⟨h, date1_facts n (by omega)⟩
theorem f_date2 (w : World) (mean mg mb) (n : Int) (t1 t2 : Tok) : Claim w mean mg mb 8 163 [.int 2 t1, .int n t2] ((2374480 ≤ n ∧ n ≤ 5373484) ∧ odd n = false) (RetT3F fun y k d => V y + 28 * (k - 1) + d = n + 1 ∧ 1 ≤ d ∧ d ≤ 28 ∧ V y ≤ n ∧ n < V (y + 1) ∧ 1 ≤ y) :=
  toT3F (c_date2 w mean mg mb n t1 t2) fun h => ⟨h.1, date2_facts n h.1.1 h.2⟩
theorem f_from_jd_ind (w : World) (mean mg mb) (n : Int) (t1 : Tok) : Claim w mean mg mb 5 107 [.int n t1] (1721426 ≤ n) (RetT3F fun y m d => (1 ≤ m ∧ m ≤ 12) ∧ 1 ≤ d ∧ d ≤ Il y m ∧ IJ y m 1 + d = n + 1) :=
  toT3F (c_from_jd_ind w mean mg mb n t1) fun h => ⟨h, ind_all n h⟩
theorem f_odd (w : World) (mean mg mb) (n : Int) (t1 : Tok) : Claim w mean mg mb 5 177 [.int n t1] (1721426 ≤ n) (RetB (odd n)) := c_odd w mean mg mb n t1
local macro_rules | `(tactic| walk_at "call ref") => `(tactic| (k_here; (with_reducible show wpAny _ _ (call (Value.ref 156) _) _ _ _); k_dflt (refine' useC (f_len0 _ _ _ _ _ _ _) ?k1 ?k2 ?k3 ?k4 ?k5 ?kK ?kp ?kd ?ku ?_; (case k1 => k_asm); (case k2 => k_asm); (case k3 => k_asm); (case k4 => k_asm); (case k5 => k_asm); (case kK => first | exact rfl | assumption); (case kp => first | trivial | assumption | omega | ((refine ⟨?_, ?_⟩) <;> first | assumption | omega | fail) | walk_at "pre f_len0"); (case kd => ktr_room); (case ku => ktr_units); intro r9 f9 t9 h9 tk9 F9 N9; obtain ⟨f91, f92⟩ := f9; (try k_sweep); (try dsimp only); (try k_fold))))

local macro_rules | `(tactic| walk_at "call ref") => `(tactic| (k_here; (with_reducible show wpAny _ _ (call (Value.ref 156) _) _ _ _); k_dflt (refine' useC (f_len1 _ _ _ _ _ _ _) ?k1 ?k2 ?k3 ?k4 ?k5 ?kK ?kp ?kd ?ku ?_; (case k1 => k_asm); (case k2 => k_asm); (case k3 => k_asm); (case k4 => k_asm); (case k5 => k_asm); (case kK => first | exact rfl | assumption); (case kp => first | trivial | assumption | omega | ((refine ⟨?_, ?_⟩) <;> first | assumption | omega | fail) | walk_at "pre f_len1"); (case kd => ktr_room); (case ku => ktr_units); intro r9 f9 t9 h9 tk9 F9 N9; obtain ⟨f91, f92⟩ := f9; (try k_sweep); (try dsimp only); (try k_fold))))

local macro_rules | `(tactic| walk_at "call ref") => `(tactic| (k_here; (with_reducible show wpAny _ _ (call (Value.ref 156) _) _ _ _); k_dflt (refine' useC (f_len2 _ _ _ _ _ _ _) ?k1 ?k2 ?k3 ?k4 ?k5 ?kK ?kp ?kd ?ku ?_; (case k1 => k_asm); (case k2 => k_asm); (case k3 => k_asm); (case k4 => k_asm); (case k5 => k_asm); (case kK => first | exact rfl | assumption); (case kp => first | trivial | assumption | omega | ((refine ⟨?_, ?_⟩) <;> first | assumption | omega | fail) | walk_at "pre f_len2"); (case kd => ktr_room); (case ku => ktr_units); intro r9 f9 t9 h9 tk9 F9 N9; obtain ⟨f91, f92⟩ := f9; (try k_sweep); (try dsimp only); (try k_fold))))

local macro_rules | `(tactic| walk_at "call ref") => `(tactic| (k_here; (with_reducible show wpAny _ _ (call (Value.ref 163) _) _ _ _); k_dflt (refine' useC (f_date0 _ _ _ _ _ _ _) ?k1 ?k2 ?k3 ?k4 ?k5 ?kK ?kp ?kd ?ku ?_; (case k1 => k_asm); (case k2 => k_asm); (case k3 => k_asm); (case k4 => k_asm); (case k5 => k_asm); (case kK => first | exact rfl | assumption); (case kp => first | trivial | assumption | omega | ((refine ⟨?_, ?_⟩) <;> first | assumption | omega | fail) | walk_at "pre f_date0"); (case kd => ktr_room); (case ku => ktr_units); intro x90 x91 x92 f9 D9 t90 t91 t92 c9 h9 tk9 F9 N9 l9; obtain ⟨f90, f91, f92, f93, f94⟩ := f9; (try simp only [AllNe, and_true] at l9); (try k_sweep); (try dsimp only); (try k_fold))))

local macro_rules | `(tactic| walk_at "call ref") => `(tactic| (k_here; (with_reducible show wpAny _ _ (call (Value.ref 163) _) _ _ _); k_dflt (refine' useC (f_date1 _ _ _ _ _ _ _) ?k1 ?k2 ?k3 ?k4 ?k5 ?kK ?kp ?kd ?ku ?_; (case k1 => k_asm); (case k2 => k_asm); (case k3 => k_asm); (case k4 => k_asm); (case k5 => k_asm); (case kK => first | exact rfl | assumption); (case kp => first | trivial | assumption | omega | ((refine ⟨?_, ?_⟩) <;> first | assumption | omega | fail) | walk_at "pre f_date1"); (case kd => ktr_room); (case ku => ktr_units); intro x90 x91 f9 D9 t90 t91 c9 h9 tk9 F9 N9 l9; obtain ⟨f90, f91, f92⟩ := f9; (try simp only [AllNe, and_true] at l9); (try k_sweep); (try dsimp only); (try k_fold))))

local macro_rules | `(tactic| walk_at "call ref") => `(tactic| (k_here; (with_reducible show wpAny _ _ (call (Value.ref 163) _) _ _ _); k_dflt (refine' useC (f_date2 _ _ _ _ _ _ _) ?k1 ?k2 ?k3 ?k4 ?k5 ?kK ?kp ?kd ?ku ?_; (case k1 => k_asm); (case k2 => k_asm); (case k3 => k_asm); (case k4 => k_asm); (case k5 => k_asm); (case kK => first | exact rfl | assumption); (case kp => first | trivial | assumption | omega | ((refine ⟨?_, ?_⟩) <;> first | assumption | omega | fail) | walk_at "pre f_date2"); (case kd => ktr_room); (case ku => ktr_units); intro x90 x91 x92 f9 D9 t90 t91 t92 c9 h9 tk9 F9 N9 l9; obtain ⟨f90, f91, f92, f93, f94, f95⟩ := f9; (try simp only [AllNe, and_true] at l9); (try k_sweep); (try dsimp only); (try k_fold))))

local macro_rules | `(tactic| walk_at "call ref") => `(tactic| (k_here; (with_reducible show wpAny _ _ (call (Value.ref 107) _) _ _ _); k_dflt (refine' useC (f_from_jd_ind _ _ _ _ _ _) ?k1 ?k2 ?k3 ?k4 ?k5 ?kK ?kp ?kd ?ku ?_; (case k1 => k_asm); (case k2 => k_asm); (case k3 => k_asm); (case k4 => k_asm); (case k5 => k_asm); (case kK => first | exact rfl | assumption); (case kp => first | trivial | assumption | omega | ((refine ⟨?_, ?_⟩) <;> first | assumption | omega | fail) | walk_at "pre f_from_jd_ind"); (case kd => ktr_room); (case ku => ktr_units); intro x9 y9 z9 f9 D9 t90 t91 t92 c9 h9 tk9 F9 N9 l9; obtain ⟨⟨f91, f92⟩, f93, f94, f95⟩ := f9; (try simp only [AllNe, and_true] at l9); (try k_sweep); (try dsimp only); (try k_fold))))

local macro_rules | `(tactic| walk_at "call ref") => `(tactic| (k_here; (with_reducible show wpAny _ _ (call (Value.ref 177) _) _ _ _); k_dflt (refine' useC (f_odd _ _ _ _ _ _) ?k1 ?k2 ?k3 ?k4 ?k5 ?kK ?kp ?kd ?ku ?_; (case k1 => k_asm); (case k2 => k_asm); (case k3 => k_asm); (case k4 => k_asm); (case k5 => k_asm); (case kK => first | exact rfl | assumption); (case kp => first | trivial | assumption | omega | ((refine ⟨?_, ?_⟩) <;> first | assumption | omega | fail) | walk_at "pre f_odd"); (case kd => ktr_room); (case ku => ktr_units); intro h9 tk9 F9 N9; (try k_sweep); (try dsimp only); (try k_fold))))


/-! The cuts of the law's own walk. -/
section
variable {M : Model} {A : Around} {E : Value → Shared → Prop} {s : Shared} {h₀ h : Heap} {L : Addr} {m : Str → Option Value} {news news' : List (Addr × Obj)}

/-- an int between bounds, the rest as it was -/
def CutI (h₀ : Heap) (L : Addr) (m : Str → Option Value) (news : List (Addr × Obj)) (s : Shared) (lo hi : Int) (v : Value) (s' : Shared) : Prop :=
  ∃ (x : Int) (t : Tok) (h : Heap) (tk : Nat), v = .int x t ∧ (lo ≤ x ∧ x < hi) ∧ s' = { s with heap := h, toks := tk } ∧ Fr h₀ L h m ∧ News h₀ L h news
theorem cutI {tree : Sem Value} {Q : Value → Shared → Prop} (lo hi : Int) (fF : Fr h₀ L s.heap m) (nN : News h₀ L s.heap news) (h1 : wpAny M A tree (CutI h₀ L m news s lo hi) E s)
    (h2 : ∀ (x : Int) (t : Tok) (h : Heap) (tk : Nat), lo ≤ x → x < hi → Fr h₀ L h m → News h₀ L h news → Q (.int x t) { s with heap := h, toks := tk }) : wpAny M A tree Q E s :=
  wpAny_mono h1 (fun v s' q => by
    obtain ⟨x, t, h, tk, rfl, ⟨hl, hh⟩, rfl, F, N⟩ := q
    exact h2 x t h tk hl hh F N) fun _ _ e => e
theorem cutI_end {lo hi x : Int} {t : Tok} {tk : Nat} (hl : lo ≤ x) (hh : x < hi) (F : Fr h₀ L h m) (N : News h₀ L h news) : CutI h₀ L m news s lo hi (.int x t) { s with heap := h, toks := tk } :=
  ⟨x, t, h, tk, rfl, ⟨hl, hh⟩, rfl, F, N⟩

/-- a given int, the rest as it was -/
def CutE (h₀ : Heap) (L : Addr) (m : Str → Option Value) (news : List (Addr × Obj)) (s : Shared) (x : Int) (v : Value) (s' : Shared) : Prop :=
  ∃ (t : Tok) (h : Heap) (tk : Nat), v = .int x t ∧ s' = { s with heap := h, toks := tk } ∧ Fr h₀ L h m ∧ News h₀ L h news
theorem cutIl {tree : Sem Value} {Q : Value → Shared → Prop} {y mo : Int} {ty tm : Tok} (fF : Fr h₀ L s.heap m) (nN : News h₀ L s.heap news) (hy : m (Str.ofString "year") = some (.int y ty)) (hm : m (Str.ofString "month") = some (.int mo tm))
    (h1 : wpAny M A tree (CutE h₀ L m news s (Il y mo)) E s) (h2 : ∀ (t : Tok) (h : Heap) (tk : Nat), Fr h₀ L h m → News h₀ L h news → Q (.int (Il y mo) t) { s with heap := h, toks := tk }) : wpAny M A tree Q E s :=
  wpAny_mono h1 (fun v s' q => by
    obtain ⟨t, h, tk, rfl, rfl, F, N⟩ := q
    exact h2 t h tk F N) fun _ _ e => e
theorem cutE_end {x x' : Int} {t : Tok} {tk : Nat} (e : x' = x) (F : Fr h₀ L h m) (N : News h₀ L h news') (hs : ∀ p ∈ news, p ∈ news') : CutE h₀ L m news s x (.int x' t) { s with heap := h, toks := tk } := by
  subst e
  exact ⟨t, h, tk, rfl, rfl, F, cb_drop N hs⟩

/-- a statement that goes on with two ints as they were, whatever else it stores -/
def CutF (h₀ : Heap) (L : Addr) (s : Shared) (n d : Int) (tn td : Tok) (f : Flow) (s' : Shared) : Prop :=
  f = .next ∧ ∃ (h : Heap) (tk : Nat) (m' : Str → Option Value), s' = { s with heap := h, toks := tk } ∧ Fr h₀ L h m' ∧ m' (Str.ofString "number") = some (.int n tn) ∧ m' (Str.ofString "days") = some (.int d td)
theorem cutF {tree : Sem Flow} {Q : Flow → Shared → Prop} {n d : Int} {tn td : Tok} (fF : Fr h₀ L s.heap m) (hn : m (Str.ofString "number") = some (.int n tn)) (hd : m (Str.ofString "days") = some (.int d td))
    (h1 : wpAny M A tree (CutF h₀ L s n d tn td) E s)
    (h2 : ∀ (u : Str → Option Value) (h : Heap) (tk : Nat), Fr h₀ L h (fun z => if z = Str.ofString "number" then some (.int n tn) else if z = Str.ofString "days" then some (.int d td) else u z) → News h₀ L h [] → Q .next { s with heap := h, toks := tk }) : wpAny M A tree Q E s :=
  wpAny_mono h1 (fun f s' q => by
    obtain ⟨rfl, h, tk, m', rfl, F, hn, hd⟩ := q
    have e : (fun z => if z = Str.ofString "number" then some (Value.int n tn) else if z = Str.ofString "days" then some (.int d td) else m' z) = m' := by
      funext z
      by_cases h1 : z = Str.ofString "number"
      · rw [if_pos h1, h1, hn]
      · rw [if_neg h1]
        by_cases h2 : z = Str.ofString "days"
        · rw [if_pos h2, h2, hd]
        · rw [if_neg h2]
    exact h2 m' h tk (by rw [e]; exact F) News.nil) fun _ _ e => e
theorem cutF_end {n d : Int} {tn td : Tok} {tk : Nat} (F : Fr h₀ L h m) (hn : m (Str.ofString "number") = some (.int n tn)) (hd : m (Str.ofString "days") = some (.int d td)) :
    CutF h₀ L s n d tn td .next { s with heap := h, toks := tk } := ⟨rfl, h, tk, m, rfl, F, hn, hd⟩
theorem toFalse {Q : Value → Shared → Prop} {b : Bool} (e : b = false) (h : Q (.bool false) s) : Q (.bool b) s := e ▸ h
end

theorem W_lt (y : Int) : W y < W (y + 1) := by have := len0_facts y; omega
theorem G_lt (y : Int) : G y < G (y + 1) := by have := len1_facts y; omega
theorem V_lt (y : Int) : V y < V (y + 1) := by have := len2_facts y; omega
theorem same0 {x k d y p n l : Int} (f0 : W x + 7 * (k - 1) + d = n + 1) (f1 : 1 ≤ d) (f2 : d ≤ 7) (f3 : W x ≤ n) (f4 : n < W (x + 1)) (g0 : W y + p = n + 1) (g2 : W (y + 1) = W y + l) (g1 : 1 ≤ p) (g3 : p ≤ l) :
    x = y ∧ k = (p - 1).fdiv 7 + 1 ∧ d = (p - 1).fmod 7 + 1 := by
  have e : x = y := uniq W W_lt f3 f4 (by omega) (by omega)
  subst e
  rw [fdivE _ (by decide), fmodE _ (by decide)]
  exact ⟨rfl, by omega, by omega⟩
theorem same1 {x k y p n l : Int} (f0 : G x + k = n + 1) (f3 : G x ≤ n) (f4 : n < G (x + 1)) (g0 : G y + p = n + 1) (g2 : G (y + 1) = G y + l) (g1 : 1 ≤ p) (g3 : p ≤ l) :
    x = y ∧ k = p := by
  have e : x = y := uniq G G_lt f3 f4 (by omega) (by omega)
  subst e
  exact ⟨rfl, by omega⟩
theorem same2 {x k d y p n l : Int} (f0 : V x + 28 * (k - 1) + d = n + 1) (f1 : 1 ≤ d) (f2 : d ≤ 28) (f3 : V x ≤ n) (f4 : n < V (x + 1)) (g0 : V y + p = n + 1) (g2 : V (y + 1) = V y + l) (g1 : 1 ≤ p) (g3 : p ≤ l) :
    x = y ∧ k = (p - 1).fdiv 28 + 1 ∧ d = (p - 1).fmod 28 + 1 := by
  have e : x = y := uniq V V_lt f3 f4 (by omega) (by omega)
  subst e
  rw [fdivE _ (by decide), fmodE _ (by decide)]
  exact ⟨rfl, by omega, by omega⟩
theorem due0 {k d : Int} (f1 : 1 ≤ d) (f2 : d ≤ 7) : (7 * (k - 1) + d - 1).fdiv 7 + 1 = k ∧ (7 * (k - 1) + d - 1).fmod 7 + 1 = d := by
  rw [fdivE _ (by decide), fmodE _ (by decide)]; omega
theorem due2 {k d : Int} (f1 : 1 ≤ d) (f2 : d ≤ 28) : (28 * (k - 1) + d - 1).fdiv 28 + 1 = k ∧ (28 * (k - 1) + d - 1).fmod 28 + 1 = d := by
  rw [fdivE _ (by decide), fmodE _ (by decide)]; omega
section
variable {prog : Program} {w : World} {A : Around} {E : Value → Shared → Prop} {s : Shared} {Q : Value → Shared → Prop} {as bs : List Addr} {a b : Value}
theorem ne3 {h₀ : Heap} {L a b : Addr} {news : List (Addr × Obj)} {x y z x' y' z' : Int} {t1 t2 t3 u1 u2 u3 : Tok} {c c' : Nat} (N : News h₀ L s.heap news)
    (ha : (a, ({ cls := .type "tuple", data := .seq #[.int x t1, .int y t2, .int z t3] c } : Obj)) ∈ news) (hb : (b, ({ cls := .type "tuple", data := .seq #[.int x' u1, .int y' u2, .int z' u3] c' } : Obj)) ∈ news) (hu : A.units + 64 < cLine)
    (e : x = x' ∧ y = y' ∧ z = z') (h : Q (.bool false) s) : wpAny (model prog w) A (compareOp .NotEq (.ref a) (.ref b)) Q E s := by
  obtain ⟨rfl, rfl, rfl⟩ := e
  have ra : Reads s.heap (.ref a) (.tuple [.int x, .int y, .int z]) _ := reads_tuple_at (N.get ha) rfl rfl (.cons (.int _ _) (.cons (.int _ _) (.cons (.int _ _) .nil)))
  have rb : Reads s.heap (.ref b) (.tuple [.int x, .int y, .int z]) _ := reads_tuple_at (N.get hb) rfl rfl (.cons (.int _ _) (.cons (.int _ _) (.cons (.int _ _) .nil)))
  refine ne_dataH ra rb rfl rfl hu ?_
  simpa [PyData.eqv, PyData.eqvAll] using h
theorem ne2 {h₀ : Heap} {L a b : Addr} {news : List (Addr × Obj)} {x y x' y' : Int} {t1 t2 u1 u2 : Tok} {c c' : Nat} (N : News h₀ L s.heap news)
    (ha : (a, ({ cls := .type "tuple", data := .seq #[.int x t1, .int y t2] c } : Obj)) ∈ news) (hb : (b, ({ cls := .type "tuple", data := .seq #[.int x' u1, .int y' u2] c' } : Obj)) ∈ news) (hu : A.units + 64 < cLine)
    (e : x = x' ∧ y = y') (h : Q (.bool false) s) : wpAny (model prog w) A (compareOp .NotEq (.ref a) (.ref b)) Q E s := by
  obtain ⟨rfl, rfl⟩ := e
  have ra : Reads s.heap (.ref a) (.tuple [.int x, .int y]) _ := reads_tuple_at (N.get ha) rfl rfl (.cons (.int _ _) (.cons (.int _ _) .nil))
  have rb : Reads s.heap (.ref b) (.tuple [.int x, .int y]) _ := reads_tuple_at (N.get hb) rfl rfl (.cons (.int _ _) (.cons (.int _ _) .nil))
  refine ne_dataH ra rb rfl rfl hu ?_
  simpa [PyData.eqv, PyData.eqvAll] using h
theorem eq5 {x y z u v x' y' z' u' v' : Int} (ra : Reads s.heap a (.tuple [.int x, .int y, .int z, .int u, .int v]) as) (rb : Reads s.heap b (.tuple [.int x', .int y', .int z', .int u', .int v']) bs) (hu : A.units + 64 < cLine)
    (e : x = x' ∧ y = y' ∧ z = z' ∧ u = u' ∧ v = v') (h : Q (.bool true) s) : wpAny (model prog w) A (compareOp .Eq a b) Q E s := by
  obtain ⟨rfl, rfl, rfl, rfl, rfl⟩ := e
  refine eq_dataH ra rb rfl rfl hu ?_
  simpa [PyData.eqv, PyData.eqvAll] using h
end
theorem sub_second {c r : Addr × Obj} {rest : List (Addr × Obj)} : ∀ p ∈ c :: rest, p ∈ c :: r :: rest := fun _ hp => (List.mem_cons.mp hp).elim (fun e => e ▸ .head _) fun h => .tail _ (.tail _ h)
theorem sub_tail {c : Addr × Obj} {rest : List (Addr × Obj)} : ∀ p ∈ rest, p ∈ c :: rest := fun _ hp => .tail _ hp
theorem mayan_f (n d : Int) :
    my1 (n + d) = (((((d + my5 n).fdiv 20 + my4 n).fdiv 18 + my3 n).fdiv 20 + my2 n).fdiv 20 + my1 n) ∧ my2 (n + d) = ((((d + my5 n).fdiv 20 + my4 n).fdiv 18 + my3 n).fdiv 20 + my2 n).fmod 20 ∧
    my3 (n + d) = (((d + my5 n).fdiv 20 + my4 n).fdiv 18 + my3 n).fmod 20 ∧ my4 (n + d) = ((d + my5 n).fdiv 20 + my4 n).fmod 18 ∧ my5 (n + d) = (d + my5 n).fmod 20 := by
  obtain ⟨h5, h4, h3, h2, h1⟩ := mayan_all n d
  simp only [fdivE, fmodE, Int.reduceLE]
  exact ⟨h1, h2, h3, h4, h5⟩
theorem ind_turnA {y m d l n : Int} (h1 : IJ y m 1 + d = n) (h3 : l = Il y m) (h4 : l < d) (h5 : 1 ≤ m) (h6 : m < 12) : IJ y (m + 1) 1 + (d - l) = n ∧ 1 ≤ d - l ∧ (1 ≤ m + 1 ∧ m + 1 ≤ 12) ∧ Il y (m + 1) = Il y (m + 1) := by
  have e : Il y m = IJ y (m + 1) 1 - IJ y m 1 := if_pos h6
  exact ⟨by omega, by omega, by omega, rfl⟩
theorem ind_turnB {y m d l n : Int} (h1 : IJ y m 1 + d = n) (h3 : l = Il y m) (h4 : l < d) (h5 : 1 ≤ m) (h6 : m ≤ 12) (h7 : ¬ m < 12) : IJ (y + 1) 1 1 + (d - l) = n ∧ 1 ≤ d - l ∧ ((1 : Int) ≤ 1 ∧ (1 : Int) ≤ 12) ∧ Il (y + 1) 1 = Il (y + 1) 1 := by
  have a := Im_next y m h5 h6
  rw [show 12 * y + m - 1 + 1 = 12 * (y + 1) + 1 - 1 by omega, Im_at (y + 1) 1 (by omega) (by omega)] at a
  exact ⟨by omega, by omega, by omega, rfl⟩
theorem ind_falls {y m d l : Int} (h3 : l = Il y m) (h4 : l < d) (h5 : 1 ≤ m) (h6 : m ≤ 12) : (d - l).toNat < d.toNat := by
  have := Il_30 y m h5 h6
  omega
theorem five_small : ((5 : Nat) : Int) < 2 ^ 63 := by decide
theorem five_line : 5 ≤ sizeLine := by decide
def Forgot : Prop := True
theorem forget {P : Prop} {h₀ h : Heap} {L : Addr} {m : Str → Option Value} {n d : Int} {tn td : Tok} (F : Fr h₀ L h m) (hn : m (Str.ofString "number") = some (.int n tn)) (hd : m (Str.ofString "days") = some (.int d td))
    (k : ∀ u : Str → Option Value, Fr h₀ L h (fun z => if z = Str.ofString "number" then some (.int n tn) else if z = Str.ofString "days" then some (.int d td) else u z) → News h₀ L h [] → Forgot → P) : P := by
  refine k m ?_ News.nil trivial
  have e : (fun z => if z = Str.ofString "number" then some (Value.int n tn) else if z = Str.ofString "days" then some (.int d td) else m z) = m := by
    funext z
    by_cases h1 : z = Str.ofString "number"
    · rw [if_pos h1, h1, hn]
    · rw [if_neg h1]
      by_cases h2 : z = Str.ofString "days"
      · rw [if_pos h2, h2, hd]
      · rw [if_neg h2]
  rw [e]
  exact F
/-- the loop over the years of a kind: where it stands, in whole days -/
theorem whl (S : Int → Int) (k0 lo : Int) {prog : Program} {w : World} {A : Around} {E : Value → Shared → Prop} {Q : Flow → Shared → Prop} {s : Shared} {env : Env} {h₀ : Heap} {L : Addr} {test : Expr} {body : List Stmt} {pos : Pos} {m : Str → Option Value} {news : List (Addr × Obj)}
    {n d p y l : Int} {tk tn td tp ty tl : Tok} (F : Fr h₀ L s.heap m) (N : News h₀ L s.heap news) (hk : m (Str.ofString "kind") = some (.int k0 tk)) (hn : m (Str.ofString "number") = some (.int n tn)) (hd : m (Str.ofString "days") = some (.int d td))
    (hp : m (Str.ofString "place") = some (.int p tp)) (hy : m (Str.ofString "year") = some (.int y ty)) (hl : m (Str.ofString "length") = some (.int l tl))
    (i1 : S y + p = n + d + 1) (i2 : 1 ≤ p) (i3 : S (y + 1) = S y + l) (i4 : 1 ≤ l) (i5 : lo ≤ y)
    (turn : ∀ (p : Int) (tp : Tok) (y : Int) (ty : Tok) (l : Int) (tl : Tok) (u : Str → Option Value) (h : Heap) (tk : Nat), S y + p = n + d + 1 → 1 ≤ p → S (y + 1) = S y + l → 1 ≤ l → lo ≤ y →
      Fr h₀ L h (fun z => if z = Str.ofString "place" then some (.int p tp) else if z = Str.ofString "year" then some (.int y ty) else if z = Str.ofString "length" then some (.int l tl) else if ([] : List Str).contains z then u z else m z) → News h₀ L h news →
      wpAny (model prog w) A (isTrue test env (eval test env)) (fun b s₂ =>
        if b = true then wpAny (model prog w) A (execs body env) (KswPost h₀ L s (fun _ => news) (fun c : Int × Tok × Int × Tok × Int × Tok => [(Str.ofString "place", .int c.1 c.2.1), (Str.ofString "year", .int c.2.2.1 c.2.2.2.1), (Str.ofString "length", .int c.2.2.2.2.1 c.2.2.2.2.2)]) (fun _ => True) [] m
          (fun c => S c.2.2.1 + c.1 = n + d + 1 ∧ 1 ≤ c.1 ∧ S (c.2.2.1 + 1) = S c.2.2.1 + c.2.2.2.2.1 ∧ 1 ≤ c.2.2.2.2.1 ∧ lo ≤ c.2.2.1) (fun c => c.1.toNat) Q ⟨p, tp, y, ty, l, tl⟩) E s₂ else Q .next s₂) E { s with heap := h, toks := tk })
    (hE : PassesOwn (model prog w) A env E) : wpAny (model prog w) A (exec (.While test body [] pos) env) Q E s := by
  refine ksw_while (fun _ => news) (fun c : Int × Tok × Int × Tok × Int × Tok => [(Str.ofString "place", .int c.1 c.2.1), (Str.ofString "year", .int c.2.2.1 c.2.2.2.1), (Str.ofString "length", .int c.2.2.2.2.1 c.2.2.2.2.2)]) (fun _ => True) [] (fun c => S c.2.2.1 + c.1 = n + d + 1 ∧ 1 ≤ c.1 ∧ S (c.2.2.1 + 1) = S c.2.2.1 + c.2.2.2.2.1 ∧ 1 ≤ c.2.2.2.2.1 ∧ lo ≤ c.2.2.1) (fun c => c.1.toNat) ⟨p, tp, y, ty, l, tl⟩ F N trivial ?_ ⟨i1, i2, i3, i4, i5⟩ ?_ hE
  · exact List.forall_mem_cons.mpr ⟨hp, List.forall_mem_cons.mpr ⟨hy, List.forall_mem_cons.mpr ⟨hl, List.forall_mem_nil _⟩⟩⟩
  · rintro ⟨p, tp, y, ty, l, tl⟩ u h tk _ ⟨a1, a2, a3, a4, a5⟩ F' N'
    exact turn p tp y ty l tl u h tk a1 a2 a3 a4 a5 F' N'

local macro_rules | `(tactic| walk_at "eval IfExp") => `(tactic| (k_here; (fail_if_success (with_reducible show wpAny _ _ _ (CutI _ _ _ _ _ _ _) _ _)); (with_reducible show wpAny _ _ (eval (Expr.IfExp _ (Expr.BinOp _ _ (Expr.Constant (Const.int 2900000) _ _) _) _ _) _) _ _ _); k_dflt (refine' cutI 0 2900000 ?F ?N ?_ (fun x9 t9 h9 tk9 hl9 hh9 F9 N9 => ?_); (case F => k_asm); (case N => k_asm))))
local macro_rules | `(tactic| walk_at "eval IfExp") => `(tactic| (k_here; (fail_if_success (with_reducible show wpAny _ _ _ (CutI _ _ _ _ _ _ _) _ _)); (with_reducible show wpAny _ _ (eval (Expr.IfExp _ (Expr.BinOp _ _ (Expr.Constant (Const.int 8000) _ _) _) _ _) _) _ _ _); k_dflt (refine' cutI 0 8000 ?F ?N ?_ (fun x9 t9 h9 tk9 hl9 hh9 F9 N9 => ?_); (case F => k_asm); (case N => k_asm))))
local macro_rules | `(tactic| walk_at "CutI") => `(tactic| (refine cutI_end ?_ ?_ (by k_asm) (by k_asm) <;> first | decide | (rw [fmodE _ (by decide)]; omega)))
local macro_rules | `(tactic| walk_at "eval IfExp") => `(tactic| (k_here; (fail_if_success (with_reducible show wpAny _ _ _ (CutE _ _ _ _ _ _) _ _)); (with_reducible show wpAny _ _ (eval (Expr.IfExp _ (Expr.BinOp (Expr.Call _ _ _ _) _ (Expr.Call _ _ _ _) _) _ _) _) _ _ _); k_dflt (refine' cutIl ?F ?N ?hy ?hm ?_ (fun t9 h9 tk9 F9 N9 => ?_); (case F => k_asm); (case N => k_asm); (case hy => exact rfl); (case hm => exact rfl))))
local macro_rules | `(tactic| walk_at "CutE") => `(tactic| (refine cutE_end ?_ (by k_asm) (by k_asm) (fun _ h => h); first | exact (if_pos (by omega)).symm | exact (if_neg (by omega)).symm))
local macro_rules | `(tactic| walk_at "exec For Name Call cons nil") => `(tactic| (k_here; (fail_if_success (with_reducible show wpAny _ _ _ (CutF _ _ _ _ _ _ _) _ _)); k_dflt (refine' cutF ?F ?hn ?hd ?_ (fun u9 h9 tk9 F9 N9 => ?_); (case F => k_asm); (case hn => exact rfl); (case hd => exact rfl))))
local macro_rules | `(tactic| walk_at "CutF") => `(tactic| exact cutF_end (by k_asm) rfl rfl)
local macro_rules | `(tactic| walk_at "compareOp NotEq ref ref") => `(tactic| (k_here; (with_reducible show wpAny _ _ (compareOp CmpOp.NotEq (Value.ref _) (Value.ref _)) _ _ _); (rename News _ _ _ _ => lN'); k_dflt (first
  | (refine' ne3 lN' ?q1 ?q2 ?q3 ?q4 ?_; (case q1 => k_mem); (case q2 => k_mem); (case q3 => ke_room); (case q4 => walk_at "same three"))
  | (refine' ne2 lN' ?q1 ?q2 ?q3 ?q4 ?_; (case q1 => k_mem); (case q2 => k_mem); (case q3 => ke_room); (case q4 => walk_at "same two")))))
local macro_rules | `(tactic| walk_at "same two") => `(tactic| exact same1 (by with_reducible assumption) (by with_reducible assumption) (by with_reducible assumption) (by with_reducible assumption) (by with_reducible assumption) (by omega) (by omega))
local macro_rules | `(tactic| walk_at "same two") => `(tactic| exact ⟨rfl, rfl⟩)
local macro_rules | `(tactic| walk_at "same three") => `(tactic| first
  | exact ⟨rfl, due0 (by with_reducible assumption) (by with_reducible assumption)⟩
  | exact ⟨rfl, due2 (by with_reducible assumption) (by with_reducible assumption)⟩
  | exact same0 (by with_reducible assumption) (by with_reducible assumption) (by with_reducible assumption) (by with_reducible assumption) (by with_reducible assumption) (by with_reducible assumption) (by with_reducible assumption) (by omega) (by omega)
  | exact same2 (by with_reducible assumption) (by with_reducible assumption) (by with_reducible assumption) (by with_reducible assumption) (by with_reducible assumption) (by with_reducible assumption) (by with_reducible assumption) (by omega) (by omega)
  | exact ind_uniq (by with_reducible assumption) (by with_reducible assumption) (by with_reducible assumption) (by with_reducible assumption) (by with_reducible assumption) (by with_reducible assumption) (by omega) (by omega) (by omega))
local macro_rules | `(tactic| walk_at "pre f_from_jd_ind") => `(tactic| (rw [fmodE _ (by decide)]; omega))
local macro_rules | `(tactic| walk_at "exec For Tuple Call cons nil") => `(tactic| (k_here; (rename Fr _ _ _ _ => lF'); (with_unfolding_all refine' For_turns lF' ?_; k_whole)))
local macro_rules | `(tactic| walk_at "call type:reversed") => `(tactic| (k_here; (with_reducible show wpAny _ _ (call (Value.type _) [Value.ref _]) _ _ _); k_dflt (refine' rev_tup_K ?F ?N ?l ?z ?_; (case F => k_asm); (case N => k_asm); (case l => exact News.isTup (by k_asm) (by k_mem)); (case z => exact five_small)); intro D' h' tk' F' N' l1; (try k_lt l1); (try k_sweep)))
local macro_rules | `(tactic| walk_at "call type:zip") => `(tactic| (k_here; (with_reducible show wpAny _ _ (call (Value.type _) [Value.ref _, Value.ref _]) (fun xv s₁ => wpAny _ _ (pyIter xv) (fun it s₂ => TurnsAt _ _ _ _ _ _ _ _ _ it s₂) _ s₁) _ _); (rename Fr _ _ _ _ => lF'); (rename News _ _ _ _ => lN'); k_dflt (refine' ktu_zipr ?q1 lF' lN' ?q3 ?q4 sub_second ?q5 ?q6 ?q7 ?q8 ?q9 ?q10 ?q11 ?q12 ?q13 ?_; (case q1 => rfl); (case q3 => k_mem); (case q4 => rfl); (case q6 => k_mem); (case q7 => rfl); (case q8 => rfl); (case q9 => k_mem); (case q10 => rfl); (case q11 => rfl); (case q12 => rfl); (case q13 => exact five_small); (case q5 => k_all)); clear lF' lN'; intro i' l1; (try k_lt l1)))
local macro_rules | `(tactic| walk_at "call type:tuple") => `(tactic| (k_here; (with_reducible show wpAny _ _ (call (Value.type _) [Value.ref _]) _ _ _); (rename Fr _ _ _ _ => lF'); (rename News _ _ _ _ => lN'); k_dflt (refine' tuple_rev_K ?q1 lF' lN' (List.Mem.head _) ?q4 sub_tail ?q5 ?q6 ?q7 ?q8 ?q9 ?q10 ?_; (case q1 => rfl); (case q4 => rfl); (case q6 => k_mem); (case q7 => rfl); (case q8 => rfl); (case q9 => rfl); (case q10 => exact five_line); (case q5 => k_all)); clear lF' lN'; intro D' h' tk' F' N' l1; (try k_lt l1); (try k_sweep)))
local macro_rules | `(tactic| walk_at "compareOp Eq ref ref") => `(tactic| (k_here; (with_reducible show wpAny _ _ (compareOp CmpOp.Eq (Value.ref _) (Value.ref _)) _ _ _); k_dflt (refine' eq5 ?a ?b ?u ?e ?_; (case a => ke_read); (case b => ke_read); (case u => ke_room); (case e => exact mayan_f _ _))))
local macro_rules | `(tactic| walk_at "execs cons") => `(tactic| (k_here; (with_reducible show wpAny _ _ (execs (Stmt.Assign [Expr.Name "added" _] _ _ :: _) _) _ _ _); (rename Fr _ _ _ _ => xF9); (fail_if_success (with_reducible rename Forgot => xM9)); (rename News _ _ _ _ => xN9); k_dflt (refine' forget xF9 ?q1 ?q2 ?_; (case q1 => exact rfl); (case q2 => exact rfl)); clear xF9 xN9; intro u9 F9 N9 M9))
local macro_rules | `(tactic| walk_at "exec While Compare cons nil") => `(tactic| (k_here; (rename Fr _ _ _ _ => lF'); (rename News _ _ _ _ => lN'); k_dflt (refine' whl W 0 _ lF' lN' ?q1 ?q2 ?q3 ?q4 ?q5 ?q6 ?q7 ?q8 ?q9 ?q10 ?q11 ?_ ?q12; (case q1 => exact rfl); (case q2 => exact rfl); (case q3 => exact rfl); (case q4 => exact rfl); (case q5 => exact rfl); (case q6 => exact rfl); (case q7 => omega); (case q8 => omega); (case q9 => with_reducible assumption); (case q10 => with_reducible assumption); (case q11 => exact Int.le_refl _); (case q12 => passes_own)); clear lF' lN'; intro p9 tp9 y9 ty9 l9 tl9 u9 h9 tk9 i91 i92 i93 i94 i95 F9 N9))
local macro_rules | `(tactic| walk_at "exec While Compare cons nil") => `(tactic| (k_here; (rename Fr _ _ _ _ => lF'); (rename News _ _ _ _ => lN'); k_dflt (refine' whl G 1 _ lF' lN' ?q1 ?q2 ?q3 ?q4 ?q5 ?q6 ?q7 ?q8 ?q9 ?q10 ?q11 ?_ ?q12; (case q1 => exact rfl); (case q2 => exact rfl); (case q3 => exact rfl); (case q4 => exact rfl); (case q5 => exact rfl); (case q6 => exact rfl); (case q7 => omega); (case q8 => omega); (case q9 => with_reducible assumption); (case q10 => with_reducible assumption); (case q11 => exact Int.le_refl _); (case q12 => passes_own)); clear lF' lN'; intro p9 tp9 y9 ty9 l9 tl9 u9 h9 tk9 i91 i92 i93 i94 i95 F9 N9))
local macro_rules | `(tactic| walk_at "exec While Compare cons nil") => `(tactic| (k_here; (rename Fr _ _ _ _ => lF'); (rename News _ _ _ _ => lN'); k_dflt (refine' whl V 2 1 lF' lN' ?q1 ?q2 ?q3 ?q4 ?q5 ?q6 ?q7 ?q8 ?q9 ?q10 ?q11 ?_ ?q12; (case q1 => exact rfl); (case q2 => exact rfl); (case q3 => exact rfl); (case q4 => exact rfl); (case q5 => exact rfl); (case q6 => exact rfl); (case q7 => omega); (case q8 => omega); (case q9 => with_reducible assumption); (case q10 => with_reducible assumption); (case q11 => with_reducible assumption); (case q12 => passes_own)); clear lF' lN'; intro p9 tp9 y9 ty9 l9 tl9 u9 h9 tk9 i91 i92 i93 i94 i95 F9 N9))
set_option maxHeartbeats 8000000 in
theorem main : PySem.Challenge.rw_bh0012_01.Holds := hd (by
  k_with "exec While Compare cons nil" => k_while_given ["number", "some"] (fun number some _ day length year month => IJ year month 1 + day = number + some + 1 ∧ 1 ≤ day ∧ (1 ≤ month ∧ month ≤ 12) ∧ length = Il year month) (fun _ _ _ day _ _ _ => day.toNat) "day" "length" "year" "month"
  k_with "state" => first | exact ind_turnA (by assumption) (by assumption) (by assumption) (by assumption) (by assumption) | exact ind_turnB (by assumption) (by assumption) (by assumption) (by assumption) (by assumption) (by omega)
  k_with "measure" => exact ind_falls (by assumption) (by assumption) (by assumption) (by assumption)
  k_go0
  (all_goals try k_fold)
  k_steps)

end Mine

set_option maxRecDepth 100000 in
theorem PySem.Challenge.cw_bh0012_01_holds : PySem.Challenge.rw_bh0012_01.Holds :=
  Mine.main
#print axioms PySem.Challenge.cw_bh0012_01_holds
