import PyProof.Rows.All
import Wide.All
import OpenK.AllK
import Wide.FinOn
import PySem.Challenge.RW_ad5013_01
set_option Elab.async false
set_option linter.unusedVariables false
set_option autoImplicit false
/- the plain law: days, years, weeks, with no program in sight -/
namespace Mine
def leap (y : Int) : Bool := y % 4 == 0 && (y % 100 != 0 || y % 400 == 0)
/-- the day number of the first of January -/
def jan (y : Int) : Int := 1721426 + 365 * (y - 1) + (y - 1) / 4 - (y - 1) / 100 + (y - 1) / 400
def adj (y m : Int) : Int := if m ≤ 2 then 0 else if leap y then -1 else -2
def dayno (y m d : Int) : Int := jan y + ((367 * m - 362) / 12 + adj y m + d - 1)
theorem dayno_a {y m d e : Int} (h : m ≤ 2) (he : e = 1721426 - 1 + 365 * (y - 1) + (y - 1) / 4 + -((y - 1) / 100) + (y - 1) / 400 + ((367 * m - 362) / 12 + 0 + d)) : e = dayno y m d := by
  unfold dayno jan adj; rw [if_pos h]; omega
theorem dayno_b {y m d e : Int} (h : ¬ m ≤ 2) (hl : leap y = true) (he : e = 1721426 - 1 + 365 * (y - 1) + (y - 1) / 4 + -((y - 1) / 100) + (y - 1) / 400 + ((367 * m - 362) / 12 + -1 + d)) : e = dayno y m d := by
  unfold dayno jan adj; rw [if_neg h, if_pos hl]; omega
theorem dayno_c {y m d e : Int} (h : ¬ m ≤ 2) (hl : ¬ leap y = true) (he : e = 1721426 - 1 + 365 * (y - 1) + (y - 1) / 4 + -((y - 1) / 100) + (y - 1) / 400 + ((367 * m - 362) / 12 + -2 + d)) : e = dayno y m d := by
  unfold dayno jan adj; rw [if_neg h, if_neg hl]; omega

def b2i (b : Bool) : Int := if b then 1 else 0
theorem b2i_le (b : Bool) : 0 ≤ b2i b ∧ b2i b ≤ 1 := by cases b <;> decide
def YearIs (N Y : Int) : Prop := jan Y ≤ N ∧ N < jan (Y + 1)
theorem leap_len (Y : Int) : jan (Y + 1) = jan Y + 365 + b2i (leap Y) := by
  have e : leap Y = true ↔ (Y % 4 = 0 ∧ (Y % 100 ≠ 0 ∨ Y % 400 = 0)) := by simp [leap]
  unfold b2i jan
  by_cases h : leap Y = true
  · rw [if_pos h]; have := e.mp h; omega
  · rw [if_neg h]; have := mt e.mpr h; omega
theorem year_core (n q c f yi : Int) (hq : q = n / 146097) (hc : c = n % 146097 / 36524) (hf : f = n % 146097 % 36524 / 1461) (hyi : yi = n % 146097 % 36524 % 1461 / 365) :
    (0 ≤ c ∧ c ≤ 4 ∧ 0 ≤ f ∧ f ≤ 24 ∧ 0 ≤ yi ∧ yi ≤ 4) ∧ (c = 4 → f = 0 ∧ yi = 0) ∧ (∃ r, n = 146097 * q + 36524 * c + 1461 * f + 365 * yi + r ∧ 0 ≤ r ∧ r < 365 ∧ (c = 4 → r = 0) ∧ (yi = 4 → r = 0)) ∧ (yi = 4 → f = 24 → c = 3 ∨ c ≠ 3) ∧ (f = 24 → c < 3 → yi < 4) := by
  refine ⟨by omega, by omega, ⟨n % 146097 % 36524 % 1461 % 365, by omega, by omega, by omega, by omega, by omega⟩, by omega, by omega⟩
theorem year_ns {N : Int} (h1 : ¬ (N - 1721426) % 146097 / 36524 = 4) (h2 : ¬ (N - 1721426) % 146097 % 36524 % 1461 / 365 = 4) :
    YearIs N ((N - 1721426) / 146097 * 400 + (N - 1721426) % 146097 / 36524 * 100 + (N - 1721426) % 146097 % 36524 / 1461 * 4 + (N - 1721426) % 146097 % 36524 % 1461 / 365 + 1) := by
  have k := year_core (N - 1721426) _ _ _ _ rfl rfl rfl rfl
  generalize (N - 1721426) / 146097 = q at *
  generalize (N - 1721426) % 146097 / 36524 = c at *
  generalize (N - 1721426) % 146097 % 36524 / 1461 = f at *
  generalize (N - 1721426) % 146097 % 36524 % 1461 / 365 = yi at *
  obtain ⟨⟨c0, c4, f0, f24, y0, y4⟩, k1, ⟨r, hr, r0, r1, _, _⟩, _, k5⟩ := k
  have e1 : (q * 400 + c * 100 + f * 4 + yi + 1 - 1) / 4 = 100 * q + 25 * c + f := by omega
  have e2 : (q * 400 + c * 100 + f * 4 + yi + 1 - 1) / 100 = 4 * q + c := by omega
  have e3 : (q * 400 + c * 100 + f * 4 + yi + 1 - 1) / 400 = q := by omega
  have hlen := leap_len (q * 400 + c * 100 + f * 4 + yi + 1)
  have hb : 0 ≤ b2i (leap (q * 400 + c * 100 + f * 4 + yi + 1)) := by unfold b2i; split <;> omega
  have hj : jan (q * 400 + c * 100 + f * 4 + yi + 1) = 1721426 + 146097 * q + 36524 * c + 1461 * f + 365 * yi := by unfold jan; rw [e1, e2, e3]; omega
  unfold YearIs
  rw [hlen, hj]
  omega
theorem year_s {N : Int} (h : (N - 1721426) % 146097 / 36524 = 4 ∨ (N - 1721426) % 146097 % 36524 % 1461 / 365 = 4) :
    YearIs N ((N - 1721426) / 146097 * 400 + (N - 1721426) % 146097 / 36524 * 100 + (N - 1721426) % 146097 % 36524 / 1461 * 4 + (N - 1721426) % 146097 % 36524 % 1461 / 365) := by
  have k := year_core (N - 1721426) _ _ _ _ rfl rfl rfl rfl
  generalize (N - 1721426) / 146097 = q at *
  generalize (N - 1721426) % 146097 / 36524 = c at *
  generalize (N - 1721426) % 146097 % 36524 / 1461 = f at *
  generalize (N - 1721426) % 146097 % 36524 % 1461 / 365 = yi at *
  obtain ⟨⟨c0, c4, f0, f24, y0, y4⟩, k1, ⟨r, hr, r0, r1, rc, ry⟩, _, k5⟩ := k
  have hlen := leap_len (q * 400 + c * 100 + f * 4 + yi)
  have hl : leap (q * 400 + c * 100 + f * 4 + yi) = true := by
    have e : leap (q * 400 + c * 100 + f * 4 + yi) = true ↔ ((q * 400 + c * 100 + f * 4 + yi) % 4 = 0 ∧ ((q * 400 + c * 100 + f * 4 + yi) % 100 ≠ 0 ∨ (q * 400 + c * 100 + f * 4 + yi) % 400 = 0)) := by simp [leap]
    rw [e]; omega
  have hj : jan (q * 400 + c * 100 + f * 4 + yi) = 1721426 + 146097 * q + 36524 * c + 1461 * f + 365 * yi - 365 := by
    have e1 : (q * 400 + c * 100 + f * 4 + yi - 1) / 4 = 100 * q + 25 * c + f + (if yi = 4 then 0 else -1) := by split <;> omega
    have e2 : (q * 400 + c * 100 + f * 4 + yi - 1) / 100 = 4 * q + c + (if yi = 4 then 0 else -1) := by split <;> omega
    have e3 : (q * 400 + c * 100 + f * 4 + yi - 1) / 400 = q := by omega
    unfold jan; rw [e1, e2, e3]; split <;> omega
  unfold YearIs
  rw [hlen, hj, hl]
  unfold b2i
  simp only [if_true]
  omega

def dim (y m : Int) : Int := if m = 2 then (if leap y then 29 else 28) else if m = 4 ∨ m = 6 ∨ m = 9 ∨ m = 11 then 30 else 31
/-- the day n is the day d of the month m of the year y -/
def GregIs (n y m d : Int) : Prop := YearIs n y ∧ 1 ≤ m ∧ m ≤ 12 ∧ 1 ≤ d ∧ d ≤ dim y m ∧ n = dayno y m d
theorem month_ok3 {n j r : Int} (h0 : 0 ≤ n - j) (h1 : n - j < 365 + b2i (leap r)) (hl : leap r = false) : 1 ≤ ((n - j + 2) * 12 + 373) / 367 ∧ ((n - j + 2) * 12 + 373) / 367 ≤ 12 := by
  rw [hl] at h1; unfold b2i at h1; simp only [Bool.false_eq_true, if_false] at h1; omega
theorem twelve {m : Int} (h1 : 1 ≤ m) (h2 : m ≤ 12) : m = 1 ∨ m = 2 ∨ m = 3 ∨ m = 4 ∨ m = 5 ∨ m = 6 ∨ m = 7 ∨ m = 8 ∨ m = 9 ∨ m = 10 ∨ m = 11 ∨ m = 12 := by omega
theorem greg_core {n r j a m : Int} (hj : j = jan r) (h0 : 0 ≤ n - j) (h1 : n - j < 365 + b2i (leap r))
    (ha : (n - j < 58 + (if leap r = true then 1 else 0) ∧ a = 0) ∨ (¬ n - j < 58 + (if leap r = true then 1 else 0) ∧ leap r = true ∧ a = 1) ∨ (¬ n - j < 58 + (if leap r = true then 1 else 0) ∧ leap r = false ∧ a = 2))
    (hm : m = ((n - j + a) * 12 + 373) / 367) : GregIs n r m (n - dayno r m 1 + 1) := by
  have hl := leap_len r
  refine ⟨⟨by omega, by omega⟩, ?_⟩
  unfold dayno adj dim
  rw [← hj]
  generalize hyd : n - j = yd at *
  unfold b2i at h1
  cases hb : leap r <;> simp only [hb, Bool.false_eq_true, if_false, if_true, false_and, true_and, and_true, and_false, false_or, or_false, reduceCtorEq] at ha h1 ⊢
  all_goals
    have hm1 : 1 ≤ m := by omega
    have hm2 : m ≤ 12 := by omega
    refine ⟨hm1, hm2, ?_⟩
    rcases twelve hm1 hm2 with h | h | h | h | h | h | h | h | h | h | h | h <;> subst h <;> simp <;> omega
theorem greg_a {n r j j2 : Int} (hj : j = jan r) (h0 : 0 ≤ n - j) (h1 : n - j < 365 + b2i (leap r)) (ha : n - j < 58 + if leap r = true then 1 else 0)
    (h2 : j2 = dayno r (((n - j + 0) * 12 + 373) / 367) 1) : GregIs n r (((n - j + 0) * 12 + 373) / 367) (n - j2 + 1) := by
  rw [h2]; exact greg_core hj h0 h1 (.inl ⟨ha, rfl⟩) rfl
theorem greg_b {n r j j2 : Int} (hj : j = jan r) (h0 : 0 ≤ n - j) (h1 : n - j < 365 + b2i (leap r)) (ha : ¬ n - j < 58 + if leap r = true then 1 else 0) (hl : leap r = true)
    (h2 : j2 = dayno r (((n - j + 1) * 12 + 373) / 367) 1) : GregIs n r (((n - j + 1) * 12 + 373) / 367) (n - j2 + 1) := by
  rw [h2]; exact greg_core hj h0 h1 (.inr (.inl ⟨ha, hl, rfl⟩)) rfl
theorem greg_c {n r j j2 : Int} (hj : j = jan r) (h0 : 0 ≤ n - j) (h1 : n - j < 365 + b2i (leap r)) (ha : ¬ n - j < 58 + if leap r = true then 1 else 0) (hl : leap r = false)
    (h2 : j2 = dayno r (((n - j + 2) * 12 + 373) / 367) 1) : GregIs n r (((n - j + 2) * 12 + 373) / 367) (n - j2 + 1) := by
  rw [h2]; exact greg_core hj h0 h1 (.inr (.inr ⟨ha, hl, rfl⟩)) rfl

/-- the day number of the day d of the week w of the ISO year y -/
def isoJd (y w d : Int) : Int := 7 * w + d + (jan y - 5 - (jan y - 11) % 7)
theorem dec28 (y : Int) : dayno (y - 1) 12 28 = jan y - 4 := by
  have h := leap_len (y - 1)
  rw [Int.sub_add_cancel] at h
  unfold dayno adj
  unfold b2i at h
  split at h <;> simp_all <;> omega
theorem isoJd_of {y w d n e : Int} (hn : n = dayno (y - 1) 12 28) (he : e = d + (7 * w + (n - 1 - (n - 1 - 6) % 7))) : e = isoJd y w d := by
  rw [dec28] at hn; unfold isoJd; omega
/-- the number of weeks of the ISO year y -/
def wk (y : Int) : Int := if jan y % 7 = 3 ∨ (jan y % 7 = 2 ∧ leap y = true) then 53 else 52
theorem wk_a {y j i : Int} (hj : j = dayno y 1 1) (hi : i = j % 7) (h : i = 3) : 53 = wk y := by
  have e : dayno y 1 1 = jan y := by unfold dayno adj; simp
  unfold wk; rw [if_pos]; left; omega
theorem wk_b {y j i : Int} (hj : j = dayno y 1 1) (hi : i = j % 7) (h : i = 2) (hl : leap y = true) : 53 = wk y := by
  have e : dayno y 1 1 = jan y := by unfold dayno adj; simp
  unfold wk; rw [if_pos]; right; exact ⟨by omega, hl⟩
theorem wk_c {y j i : Int} (hj : j = dayno y 1 1) (hi : i = j % 7) (h : ¬ i = 3) (h2 : ¬ i = 2) : 52 = wk y := by
  have e : dayno y 1 1 = jan y := by unfold dayno adj; simp
  unfold wk; rw [if_neg]; omega
theorem wk_d {y j i : Int} (hj : j = dayno y 1 1) (hi : i = j % 7) (h : ¬ i = 3) (hl : leap y = false) : 52 = wk y := by
  have e : dayno y 1 1 = jan y := by unfold dayno adj; simp
  unfold wk; rw [if_neg]; rw [hl]; simp; omega
end Mine

set_option exponentiation.threshold 100
set_option linter.unusedVariables false
namespace Mine
open PySem PySem.Float64

theorem repr_pos {n c : Nat} (h0 : 0 < n) (hn : n < 2 ^ 53) (hc : 52 ≤ c) (hc2 : c ≤ 1500) : ∃ t, t < infMag ∧ V t = n * 2 ^ c := by
  have hl : n.log2 ≤ 52 := by
    have : n.log2 < 53 := (Nat.log2_lt (by omega)).mpr hn
    omega
  have h1 : 2 ^ n.log2 ≤ n := Nat.log2_self_le (by omega)
  have h2 : n < 2 ^ (n.log2 + 1) := Nat.lt_log2_self
  generalize n.log2 = l at *
  have hq1 : 2 ^ 52 ≤ n * 2 ^ (52 - l) := by
    have : 2 ^ l * 2 ^ (52 - l) ≤ n * 2 ^ (52 - l) := Nat.mul_le_mul_right _ h1
    rw [← Nat.pow_add, show l + (52 - l) = 52 by omega] at this
    exact this
  have hq2 : n * 2 ^ (52 - l) < 2 ^ 53 := by
    have : n * 2 ^ (52 - l) < 2 ^ (l + 1) * 2 ^ (52 - l) := Nat.mul_lt_mul_of_pos_right h2 (Nat.two_pow_pos _)
    rw [← Nat.pow_add, show l + 1 + (52 - l) = 53 by omega] at this
    exact this
  refine ⟨(c - (52 - l)) * 2 ^ 52 + n * 2 ^ (52 - l), ?_, ?_⟩
  · unfold infMag; omega
  · rw [V_at (Nat.le_of_lt hq2) (.inl hq1), Nat.mul_assoc, ← Nat.pow_add, show 52 - l + (c - (52 - l)) = c by omega]

theorem repr {n c : Nat} (hn : n < 2 ^ 53) (hc : 52 ≤ c) (hc2 : c ≤ 1500) : ∃ t, t < infMag ∧ V t = n * 2 ^ c := by
  by_cases h0 : n = 0
  · subst h0
    exact ⟨0, by decide, by rw [V_zero]; simp⟩
  · exact repr_pos (by omega) hn hc hc2

theorem small {n c : Nat} (hn : n < 2 ^ 53) (hc2 : c ≤ 1500) : 2 * (n * 2 ^ c) < (2 ^ 54 - 1) * 2 ^ 2045 := by
  have h1 : n * 2 ^ c ≤ 2 ^ 53 * 2 ^ c := Nat.mul_le_mul_right _ (Nat.le_of_lt hn)
  have h2 : (2 : Nat) ^ 53 * 2 ^ c ≤ 2 ^ 53 * 2 ^ 1500 := Nat.mul_le_mul_left _ (Nat.pow_le_pow_right (by decide) hc2)
  have h3 : 2 * ((2 : Nat) ^ 53 * 2 ^ 1500) < (2 ^ 54 - 1) * 2 ^ 2045 := by decide +kernel
  generalize n * 2 ^ c = a at *
  generalize (2 : Nat) ^ 53 * 2 ^ 1500 = b at *
  generalize (2 ^ 54 - 1) * (2 : Nat) ^ 2045 = d at *
  omega

theorem dist_self (a : Nat) : dist a a = 0 := by unfold dist; omega
theorem eq_of_dist {a b : Nat} (h : dist a b ≤ 0) : a = b := by unfold dist at h; omega

theorem right_exact {r : UInt64} {neg : Bool} {W D n c : Nat} (R : Right r neg W D) (hD : 0 < D) (hW : W = D * (n * 2 ^ c)) (hn : n < 2 ^ 53) (hc : 52 ≤ c) (hc2 : c ≤ 1500) :
    ∃ m e, decode r = .fin neg m e ∧ m * 2 ^ (e + 1074).toNat = n * 2 ^ c := by
  obtain ⟨t, rfl, hle, hinf, hnear⟩ := R
  obtain ⟨t0, _, hV⟩ := repr hn hc hc2
  have hlt : t < infMag := by
    refine Nat.lt_of_le_of_ne hle fun he => ?_
    have h1 := hinf.mp he
    have h2 := small hn hc2
    rw [hW, show 2 * (D * (n * 2 ^ c)) = D * (2 * (n * 2 ^ c)) by ac_rfl] at h1
    have := Nat.le_of_mul_le_mul_left h1 hD
    omega
  have h1 := (hnear hlt t0).1
  rw [hV, hW, dist_self] at h1
  have h2 := Nat.eq_of_mul_eq_mul_left hD (eq_of_dist h1)
  obtain ⟨m, e, hd, hv⟩ := decode_pack neg hlt
  exact ⟨m, e, hd, by rw [hv, ← h2]⟩

/-- x is the float n/2, exactly; a zero is the positive one -/
def Is (x : UInt64) (n : Int) : Prop := ∃ m e, decode x = .fin (decide (n < 0)) m e ∧ m * 2 ^ (e + 1074).toNat = n.natAbs * 2 ^ 1073

theorem sgn_dec (n : Int) : sgn (decide (n < 0)) n.natAbs = n := by
  unfold sgn
  by_cases h : n < 0
  · rw [decide_eq_true h, if_pos rfl]; omega
  · rw [decide_eq_false h]; simp only [Bool.false_eq_true, if_false]; omega
theorem Is.val {x : UInt64} {n : Int} (h : Is x n) : val x = n * ((2 ^ 1073 : Nat) : Int) := by
  obtain ⟨m, e, hd, hv⟩ := h
  rw [val_eq hd, hv, sgn_mul, sgn_dec]

def H (n : Int) : UInt64 := ofFrac (decide (n < 0)) n.natAbs 2
theorem H_is {n : Int} (h : n.natAbs < 2 ^ 53) : Is (H n) n := by
  have R : Right (H n) (decide (n < 0)) (n.natAbs * 2 ^ 1073) 1 :=
    ofFrac_right (by decide) (by rw [Nat.mul_one, show (1074 : Nat) = 1073 + 1 from rfl, Nat.pow_succ, Nat.mul_assoc]) (by decide)
  exact right_exact R (by decide) (by rw [Nat.one_mul]) h (by decide) (by decide)

theorem pack_of {x : UInt64} {neg : Bool} {m : Nat} {e : Int} (h : decode x = .fin neg m e) : x.toNat % 2 ^ 63 < infMag ∧ x = pack neg (x.toNat % 2 ^ 63) := by
  have hx : x.toNat < 2 ^ 64 := x.toNat_lt
  unfold decode at h
  simp only at h
  have hi : infMag = 2047 * 2 ^ 52 := rfl
  by_cases c1 : x.toNat / 2 ^ 52 % 2048 = 2047
  · simp only [c1] at h
    split at h
    · split at h <;> cases h
    · simp at *
  · have hneg : (x.toNat / 2 ^ 63 == 1) = neg := by
      rw [if_neg (by simpa using c1)] at h
      split at h <;> (cases h; rfl)
    refine ⟨by omega, ?_⟩
    have hp := pack_toNat neg (t := x.toNat % 2 ^ 63) (by omega)
    refine UInt64.toNat_inj.mp ?_
    rw [hp]
    by_cases c2 : x.toNat / 2 ^ 63 = 1
    · have : neg = true := by rw [← hneg]; simp [c2]
      subst this; simp; omega
    · have : neg = false := by rw [← hneg]; simp [c2]
      subst this; simp; omega
theorem V_inj {a b : Nat} (h : V a = V b) : a = b := by
  rcases Nat.lt_trichotomy a b with c | c | c
  · have := V_lt c; omega
  · exact c
  · have := V_lt c; omega
theorem fin_inj {x y : UInt64} {neg : Bool} {m m' : Nat} {e e' : Int} (hx : decode x = .fin neg m e) (hy : decode y = .fin neg m' e') (h : m * 2 ^ (e + 1074).toNat = m' * 2 ^ (e' + 1074).toNat) : x = y := by
  obtain ⟨lx, px⟩ := pack_of hx
  obtain ⟨ly, py⟩ := pack_of hy
  obtain ⟨a, b, h1, h2⟩ := decode_pack neg lx
  obtain ⟨a', b', h1', h2'⟩ := decode_pack neg ly
  rw [← px, hx] at h1; cases h1
  rw [← py, hy] at h1'; cases h1'
  rw [px, py, V_inj (h2.symm.trans (h.trans h2'))]
theorem Is.eq {x y : UInt64} {n : Int} (hx : Is x n) (hy : Is y n) : x = y := by
  obtain ⟨m, e, hd, hv⟩ := hx
  obtain ⟨m', e', hd', hv'⟩ := hy
  exact fin_inj hd hd' (hv.trans hv'.symm)
theorem Is.eqH {x : UInt64} {n : Int} (hx : Is x n) (h : n.natAbs < 2 ^ 53) : x = H n := hx.eq (H_is h)

def isB (x : UInt64) (n : Int) : Bool := match decode x with
  | .fin s m e => s == decide (n < 0) && m * 2 ^ (e + 1074).toNat == n.natAbs * 2 ^ 1073
  | _ => false
theorem is_of_isB {x : UInt64} {n : Int} (h : isB x n = true) : Is x n := by
  unfold isB at h
  split at h
  · rename_i s m e hd
    rw [Bool.and_eq_true] at h
    exact ⟨m, e, by rw [hd, beq_iff_eq.mp h.1], beq_iff_eq.mp h.2⟩
  · cases h
theorem zero_is : Is (zero false) 0 := is_of_isB (by decide +kernel)
theorem P_pos : (0 : Int) < ((2 ^ 1073 : Nat) : Int) := Int.ofNat_lt.mpr (Nat.two_pow_pos _)
theorem is_of_right {r : UInt64} {v n : Int} (R : Right r (decide (v < 0)) v.natAbs 1) (hv : v = n * ((2 ^ 1073 : Nat) : Int)) (hn : n.natAbs < 2 ^ 53) : Is r n := by
  have hP := P_pos
  have h1 : v.natAbs = n.natAbs * 2 ^ 1073 := by rw [hv, Int.natAbs_mul, Int.natAbs_natCast]
  have h2 : decide (v < 0) = decide (n < 0) := by
    rw [hv]
    generalize ((2 ^ 1073 : Nat) : Int) = P at *
    rcases Int.lt_or_le n 0 with c | c
    · have : n * P < 0 := Int.mul_neg_of_neg_of_pos c hP
      simp [this, c]
    · have : 0 ≤ n * P := Int.mul_nonneg c (Int.le_of_lt hP)
      simp; omega
  rw [h2] at R
  exact right_exact R (by decide) (by rw [Nat.one_mul, h1]) hn (by decide) (by decide)

theorem add_is {x y : UInt64} {a b : Int} (hx : Is x a) (hy : Is y b) (h : (a + b).natAbs < 2 ^ 53) : Is (add x y) (a + b) := by
  have vx := hx.val
  have vy := hy.val
  obtain ⟨m, e, hd, hv⟩ := hx
  obtain ⟨m', e', hd', hv'⟩ := hy
  obtain ⟨r0, r1⟩ := add_right hd hd'
  have hs : Float64.val x + Float64.val y = (a + b) * ((2 ^ 1073 : Nat) : Int) := by rw [vx, vy, Int.add_mul]
  by_cases hz : Float64.val x + Float64.val y = 0
  · rw [r0 hz]
    rw [hs] at hz
    have hab : a + b = 0 := by
      rcases Int.mul_eq_zero.mp hz with c | c
      · exact c
      · exact absurd c (Int.ne_of_gt P_pos)
    have : (decide (a < 0) && decide (b < 0)) = false := by
      by_cases c : a < 0
      · have : ¬ b < 0 := by omega
        simp [this]
      · simp [c]
    rw [this, hab]
    exact zero_is
  · exact is_of_right (r1 hz) hs h
theorem sub_is {x y : UInt64} {a b : Int} (hx : Is x a) (hy : Is y b) (h : (a - b).natAbs < 2 ^ 53) : Is (sub x y) (a - b) := by
  have vx := hx.val
  have vy := hy.val
  obtain ⟨m, e, hd, hv⟩ := hx
  obtain ⟨m', e', hd', hv'⟩ := hy
  obtain ⟨r0, r1⟩ := sub_right hd hd'
  have hs : Float64.val x - Float64.val y = (a - b) * ((2 ^ 1073 : Nat) : Int) := by rw [vx, vy, Int.sub_mul]
  by_cases hz : Float64.val x - Float64.val y = 0
  · rw [r0 hz]
    rw [hs] at hz
    have hab : a - b = 0 := by
      rcases Int.mul_eq_zero.mp hz with c | c
      · exact c
      · exact absurd c (Int.ne_of_gt P_pos)
    have : (decide (a < 0) && !decide (b < 0)) = false := by
      by_cases c : a < 0
      · have : b < 0 := by omega
        simp [this]
      · simp [c]
    rw [this, hab]
    exact zero_is
  · exact is_of_right (r1 hz) hs h
theorem ofInt_is {n : Int} (h : (2 * n).natAbs < 2 ^ 53) : Is (ofInt n) (2 * n) := by
  have R := ofInt_right n
  have h1 : n.natAbs * 2 ^ 1074 = (2 * n).natAbs * 2 ^ 1073 := by
    rw [Int.natAbs_mul, show (1074 : Nat) = 1073 + 1 from rfl, Nat.pow_succ]
    rw [Nat.mul_comm (2 ^ 1073) 2, ← Nat.mul_assoc, Nat.mul_comm n.natAbs 2]
    exact rfl
  have h2 : decide (n < 0) = decide (2 * n < 0) := by
    rw [decide_eq_decide]; omega
  rw [h2] at R
  exact right_exact R (by decide) (by rw [Nat.one_mul, h1]) h (by decide) (by decide)

theorem half_is : Is 0x3fe0000000000000 1 := is_of_isB (by decide +kernel)
theorem epoch_is : Is 4700144277945057280 3442851 := is_of_isB (by decide +kernel)

theorem two_1074 : (2 : Nat) ^ 1074 = 2 * 2 ^ 1073 := by rw [show (1074 : Nat) = 1073 + 1 from rfl, Nat.pow_succ, Nat.mul_comm]
theorem floorOf_eq {x : UInt64} {s : Bool} {m : Nat} {e : Int} (hd : decode x = .fin s m e) : floorOf s m e = Float64.val x / ((2 ^ 1074 : Nat) : Int) := by
  have he := decode_ge hd
  rw [val_eq hd, sgn_mul]
  have pp : ∀ n : Nat, (0 : Int) < ((2 ^ n : Nat) : Int) := fun n => Int.ofNat_lt.mpr (Nat.two_pow_pos _)
  have cast : ∀ n : Nat, ((2 ^ n : Nat) : Int) = (2 : Int) ^ n := fun n => by simp
  unfold floorOf
  split
  · rename_i h
    rw [show (e + 1074).toNat = e.toNat + 1074 by omega, Nat.pow_add, Int.natCast_mul, ← Int.mul_assoc, Int.mul_ediv_cancel _ (Int.ne_of_gt (pp 1074)), cast]
  · rename_i h
    rw [Int.fdiv_eq_ediv_of_nonneg _ (by rw [← cast]; exact Int.le_of_lt (pp _)), ← cast]
    have e1 : (2 : Nat) ^ 1074 = 2 ^ (-e).toNat * 2 ^ (e + 1074).toNat := by rw [← Nat.pow_add, show (-e).toNat + (e + 1074).toNat = 1074 by omega]
    rw [e1, Int.natCast_mul, Int.mul_ediv_mul_of_pos_left _ _ (pp _)]

def FloorIs (x : UInt64) (z : Int) : Prop := ∃ s m e, decode x = .fin s m e ∧ floorOf s m e = z
def TruncIs (x : UInt64) (z : Int) : Prop := ∃ s m e, decode x = .fin s m e ∧ truncOf s m e = z

theorem Is.floor {x : UInt64} {n : Int} (h : Is x n) : FloorIs x (n / 2) := by
  have hv := h.val
  obtain ⟨m, e, hd, _⟩ := h
  refine ⟨_, _, _, hd, ?_⟩
  rw [floorOf_eq hd, hv, two_1074, Int.natCast_mul]
  rw [Int.mul_ediv_mul_of_pos_left _ _ P_pos]; rfl
theorem Is.trunc {x : UInt64} {n : Int} (h : Is x (2 * n)) : TruncIs x n := by
  have hf := h.floor
  obtain ⟨s, m, e, hd, hfl⟩ := hf
  obtain ⟨m', e', hd', hv⟩ := h
  rw [hd] at hd'; cases hd'
  refine ⟨_, _, _, hd, ?_⟩
  unfold truncOf
  split
  · have hn : Is (neg x) (2 * -n) := by
      refine ⟨_, _, (neg_decode hd).trans ?_, by rw [hv]; congr 1; omega⟩
      congr 1
      rename_i c
      by_cases c2 : 2 * n < 0
      · simp [c2]; omega
      · simp [c2] at c
    obtain ⟨s2, m2, e2, hd2, hf2⟩ := hn.floor
    rw [neg_decode hd] at hd2; cases hd2
    unfold ceilOf
    rw [hf2]; omega
  · rw [hfl]; omega

theorem right_scale {r : UInt64} {neg : Bool} {W D c : Nat} (hc : 0 < c) (R : Right r neg (W * c) (D * c)) : Right r neg W D := by
  obtain ⟨t, h1, h2, h3, h4⟩ := R
  have hd : ∀ v, dist (W * c) (D * c * v) = c * dist W (D * v) := fun v => by
    rw [← dist_mul, Nat.mul_comm W c, show D * c * v = c * (D * v) by ac_rfl]
  refine ⟨t, h1, h2, ?_, fun h t' => ?_⟩
  · rw [h3]
    generalize (2 ^ 54 - 1) * (2 : Nat) ^ 2045 = B
    rw [show D * c * B = c * (D * B) by ac_rfl, show 2 * (W * c) = c * (2 * W) by ac_rfl]
    exact ⟨fun x => Nat.le_of_mul_le_mul_left x hc, fun x => Nat.mul_le_mul_left c x⟩
  · have := h4 h t'
    rw [hd, hd] at this
    exact ⟨Nat.le_of_mul_le_mul_left this.1 hc, fun n e => this.2 n (by rw [e])⟩

theorem quo_core {a k j r T Q v : Nat} (hk : 0 < k) (hT : T = 2 ^ 20 * Q) (hQ : 0 < Q) (hk2 : k ≤ 2 ^ 20) (ha : a = k * j + r) (hr : r < k)
    (h0 : dist (a * T) (k * v) ≤ dist (a * T) (k * (j * 2 ^ 20 * Q)))
    (h1 : dist (a * T) (k * v) ≤ dist (a * T) (k * ((j * 2 ^ 20 + 1) * Q)))
    (h2 : dist (a * T) (k * v) ≤ dist (a * T) (k * (((j + 1) * 2 ^ 20 - 1) * Q))) :
    (r = 0 → v = j * T) ∧ (r ≠ 0 → j * T < v ∧ v < (j + 1) * T) := by
  have eW : a * T = k * j * T + r * T := by rw [ha, Nat.add_mul]
  have e0 : k * (j * 2 ^ 20 * Q) = k * j * T := by rw [hT]; simp only [Nat.mul_assoc]
  have e1 : k * ((j * 2 ^ 20 + 1) * Q) = k * j * T + k * Q := by rw [Nat.add_mul, Nat.mul_add, e0, Nat.one_mul]
  have e2 : k * (((j + 1) * 2 ^ 20 - 1) * Q) + k * Q = k * j * T + k * T := by
    have e3 : (j + 1) * 2 ^ 20 - 1 = j * 2 ^ 20 + 1048575 := by omega
    have e4 : j * 2 ^ 20 + 1048575 + 1 = j * 2 ^ 20 + 2 ^ 20 := by omega
    rw [e3, ← Nat.mul_add, show (j * 2 ^ 20 + 1048575) * Q + Q = (j * 2 ^ 20 + 1048575 + 1) * Q by rw [Nat.add_mul (j * 2 ^ 20 + 1048575), Nat.one_mul], e4, Nat.add_mul, Nat.mul_add, e0, hT]
  have hkQ : k * Q ≤ T := by rw [hT]; exact Nat.mul_le_mul_right _ hk2
  have hkQ0 : 0 < k * Q := Nat.mul_pos hk hQ
  have hkT : r * T + T ≤ k * T := by
    have := Nat.mul_le_mul_right T (show r + 1 ≤ k by omega)
    rwa [Nat.add_mul, Nat.one_mul] at this
  rw [eW] at h0 h1 h2
  rw [e0] at h0
  rw [e1] at h1
  refine ⟨fun hr0 => ?_, fun hr0 => ⟨?_, ?_⟩⟩
  · subst hr0
    rw [Nat.zero_mul, Nat.add_zero, dist_self] at h0
    have := eq_of_dist h0
    rw [Nat.mul_assoc] at this
    exact (Nat.eq_of_mul_eq_mul_left hk this).symm
  · refine Nat.lt_of_not_le fun hle => ?_
    have hkv : k * v ≤ k * j * T := by rw [Nat.mul_assoc]; exact Nat.mul_le_mul_left k hle
    have hrT : T ≤ r * T := Nat.le_mul_of_pos_left T (by omega)
    generalize k * j * T = A at *
    generalize r * T = B at *
    generalize k * v = G at *
    generalize k * Q = F at *
    unfold dist at h1
    omega
  · refine Nat.lt_of_not_le fun hle => ?_
    have hkv : k * j * T + k * T ≤ k * v := by
      have := Nat.mul_le_mul_left k hle
      rw [Nat.add_mul, Nat.mul_add, Nat.one_mul, ← Nat.mul_assoc] at this
      exact this
    generalize k * (((j + 1) * 2 ^ 20 - 1) * Q) = C at *
    generalize k * j * T = A at *
    generalize r * T = B at *
    generalize k * v = G at *
    generalize k * Q = F at *
    generalize k * T = I at *
    unfold dist at h2
    omega

theorem quo_between {r : UInt64} {neg : Bool} {a k : Nat} (R : Right r neg (a * 2 ^ 1074) k) (hk : 0 < k) (hk2 : k ≤ 2 ^ 20) (ha : a / k + 1 < 2 ^ 33) :
    ∃ m e, decode r = .fin neg m e ∧ (a % k = 0 → m * 2 ^ (e + 1074).toNat = a / k * 2 ^ 1074) ∧ (a % k ≠ 0 → a / k * 2 ^ 1074 < m * 2 ^ (e + 1074).toNat ∧ m * 2 ^ (e + 1074).toNat < (a / k + 1) * 2 ^ 1074) := by
  obtain ⟨t, rfl, hle, hinf, hnear⟩ := R
  have ha' : a = k * (a / k) + a % k := (Nat.div_add_mod a k).symm
  have hr : a % k < k := Nat.mod_lt _ hk
  have hlt : t < infMag := by
    refine Nat.lt_of_le_of_ne hle fun he => ?_
    have h1 := hinf.mp he
    have h2 := small (n := a / k + 1) (c := 1074) (by omega) (by decide)
    have h3 : a * 2 ^ 1074 ≤ k * (a / k + 1) * 2 ^ 1074 := Nat.mul_le_mul_right _ (by rw [Nat.mul_add]; omega)
    have h4 : k * ((2 ^ 54 - 1) * 2 ^ 2045) ≤ k * (2 * ((a / k + 1) * 2 ^ 1074)) := by
      refine Nat.le_trans h1 ?_
      rw [show k * (2 * ((a / k + 1) * 2 ^ 1074)) = 2 * (k * (a / k + 1) * 2 ^ 1074) by rw [← Nat.mul_assoc, Nat.mul_comm k 2, Nat.mul_assoc, Nat.mul_assoc]]
      exact Nat.mul_le_mul_left 2 h3
    have := Nat.le_of_mul_le_mul_left h4 hk
    omega
  obtain ⟨t0, _, hV0⟩ := repr (n := a / k * 2 ^ 20) (c := 1054) (by omega) (by decide) (by decide)
  obtain ⟨t1, _, hV1⟩ := repr (n := a / k * 2 ^ 20 + 1) (c := 1054) (by omega) (by decide) (by decide)
  obtain ⟨t2, _, hV2⟩ := repr (n := (a / k + 1) * 2 ^ 20 - 1) (c := 1054) (by omega) (by decide) (by decide)
  have n0 := (hnear hlt t0).1
  have n1 := (hnear hlt t1).1
  have n2 := (hnear hlt t2).1
  rw [hV0] at n0
  rw [hV1] at n1
  rw [hV2] at n2
  have hT : (2 : Nat) ^ 1074 = 2 ^ 20 * 2 ^ 1054 := by rw [← Nat.pow_add]
  have hQ : (0 : Nat) < 2 ^ 1054 := Nat.two_pow_pos _
  obtain ⟨m, e, hd, hv⟩ := decode_pack neg hlt
  refine ⟨m, e, hd, ?_⟩
  rw [hv]
  generalize (2 : Nat) ^ 1054 = Q at *
  generalize (2 : Nat) ^ 1074 = T at *
  exact quo_core hk hT hQ hk2 ha' hr n0 n1 n2

theorem T_pos : (0 : Int) < ((2 ^ 1074 : Nat) : Int) := Int.ofNat_lt.mpr (Nat.two_pow_pos _)
theorem ediv_at {v T q : Int} (hT : 0 < T) (h1 : q * T ≤ v) (h2 : v < (q + 1) * T) : v / T = q := by
  refine Int.le_antisymm ?_ ?_
  · exact Int.lt_add_one_iff.mp (Int.ediv_lt_of_lt_mul hT h2)
  · exact (Int.le_ediv_iff_mul_le hT).mpr h1
theorem quo_floor {r : UInt64} {a : Int} {k : Nat} (R : Right r (decide (a < 0)) (a.natAbs * 2 ^ 1074) k) (hk : 0 < k) (hk2 : k ≤ 2 ^ 20) (ha : a.natAbs / k + 1 < 2 ^ 33) : FloorIs r (a / (k : Int)) := by
  obtain ⟨m, e, hd, h0, h1⟩ := quo_between R hk hk2 ha
  refine ⟨_, _, _, hd, ?_⟩
  rw [floorOf_eq hd, val_eq hd]
  generalize m * 2 ^ (e + 1074).toNat = v at *
  have hT := T_pos
  generalize (2 : Nat) ^ 1074 = T at *
  have hk' : (0 : Int) < k := Int.ofNat_lt.mpr hk
  by_cases hn : a < 0
  · rw [decide_eq_true hn]
    unfold sgn; simp only [if_true]
    obtain ⟨b, rfl⟩ : ∃ b : Nat, a = -(b : Int) := ⟨a.natAbs, by omega⟩
    have hb : (-(b : Int)).natAbs = b := by omega
    rw [hb] at h0 h1 ha; clear R hd ha
    have hdm := Nat.div_add_mod b k
    have hml := Nat.mod_lt b hk
    generalize b / k = j at *
    generalize b % k = r' at *
    by_cases hr : r' = 0
    · have hv := h0 hr
      have e1 : -(b : Int) / (k : Int) = -(j : Int) := by
        rw [← hdm, hr, Nat.add_zero, Int.natCast_mul, ← Int.mul_neg, Int.mul_ediv_cancel_left _ (Int.ne_of_gt hk')]
      rw [e1, hv, Int.natCast_mul, ← Int.neg_mul, Int.mul_ediv_cancel _ (Int.ne_of_gt hT)]
    · obtain ⟨hlo, hhi⟩ := h1 hr
      have e1 : -(b : Int) / (k : Int) = -(j : Int) - 1 := by
        refine ediv_at hk' ?_ ?_
        · rw [← hdm, Int.natCast_add, Int.natCast_mul, Int.sub_mul, Int.neg_mul, Int.mul_comm (k : Int)]
          generalize (j : Int) * k = J
          omega
        · rw [← hdm, Int.natCast_add, Int.natCast_mul, Int.sub_add_cancel, Int.neg_mul, Int.mul_comm (k : Int)]
          generalize (j : Int) * k = J
          omega
      rw [e1]
      have hlo' : (j : Int) * T < v := by have := Int.ofNat_lt.mpr hlo; rwa [Int.natCast_mul] at this
      have hhi' : (v : Int) < (j : Int) * T + T := by have := Int.ofNat_lt.mpr hhi; rwa [Int.natCast_mul, Int.natCast_add, Int.add_mul, Int.natCast_one, Int.one_mul] at this
      refine ediv_at hT ?_ ?_
      · rw [Int.sub_mul, Int.neg_mul]; generalize (j : Int) * T = J at *; omega
      · rw [Int.sub_add_cancel, Int.neg_mul]; generalize (j : Int) * T = J at *; omega
  · rw [decide_eq_false hn]
    unfold sgn; simp only [Bool.false_eq_true, if_false]
    obtain ⟨b, rfl⟩ : ∃ b : Nat, a = (b : Int) := ⟨a.natAbs, by omega⟩
    have hb : (b : Int).natAbs = b := by omega
    rw [hb] at h0 h1 ha; clear R hd ha
    have e1 : (b : Int) / (k : Int) = ((b / k : Nat) : Int) := rfl
    rw [e1]
    generalize b / k = j at *
    have hb2 : j * T ≤ v ∧ v < (j + 1) * T := by
      by_cases hr : b % k = 0
      · rw [h0 hr]
        refine ⟨Nat.le_refl _, ?_⟩
        rw [Nat.add_mul, Nat.one_mul]
        have := Int.ofNat_lt.mp hT
        omega
      · exact ⟨Nat.le_of_lt (h1 hr).1, (h1 hr).2⟩
    refine ediv_at hT ?_ ?_
    · exact_mod_cast hb2.1
    · exact_mod_cast hb2.2

theorem mul_is {x y : UInt64} {a b : Int} (hx : Is x (2 * a)) (hy : Is y b) (ha : 0 < a) (h : (a * b).natAbs < 2 ^ 53) : Is (mul x y) (a * b) := by
  have vx := hx.val
  have vy := hy.val
  obtain ⟨m, e, hd, hv⟩ := hx
  obtain ⟨m', e', hd', hv'⟩ := hy
  have R := mul_right hd hd'
  have hs : (decide (2 * a < 0) != decide (b < 0)) = decide (a * b < 0) := by
    rw [decide_eq_false (show ¬ 2 * a < 0 by omega)]
    by_cases c : b < 0
    · rw [decide_eq_true c, decide_eq_true (Int.mul_neg_of_pos_of_neg ha c)]; rfl
    · have : 0 ≤ a * b := Int.mul_nonneg (Int.le_of_lt ha) (by omega)
      rw [decide_eq_false c, decide_eq_false (by omega)]; rfl
  rw [hs] at R
  refine right_exact R (Nat.two_pow_pos _) ?_ h (by decide) (by decide)
  rw [vx, vy, Int.natAbs_mul, Int.natAbs_mul, Int.natAbs_mul, Int.natAbs_mul, Int.natAbs_natCast, two_1074]
  generalize (2 : Nat) ^ 1073 = P
  show 2 * a.natAbs * P * (b.natAbs * P) = 2 * P * (a.natAbs * b.natAbs * P)
  ac_rfl

theorem fmod_right {x y : UInt64} {a : Int} {k : Nat} (hx : Is x (2 * a)) (hy : Is y (2 * (k : Int))) (hk : 0 < k) (h : 2 * k < 2 ^ 53) :
    ∃ m e, decode (fmod x y) = .fin (decide (2 * a < 0)) m e ∧ m * 2 ^ (e + 1074).toNat = (2 * (a.natAbs % k)) * 2 ^ 1073 := by
  obtain ⟨m, e, hd, hv⟩ := hx
  obtain ⟨m', e', hd', hv'⟩ := hy
  have he := decode_ge hd
  have he' := decode_ge hd'
  have hm' : m' ≠ 0 := by
    intro h0
    subst h0
    rw [Nat.zero_mul] at hv'
    have : 0 < (2 * (k : Int)).natAbs * 2 ^ 1073 := Nat.mul_pos (by omega) (Nat.two_pow_pos _)
    omega
  have hf : fmod x y = ofBin (decide (2 * a < 0)) ((m * 2 ^ (e - min e e').toNat) % (m' * 2 ^ (e' - min e e').toNat)) (min e e') := by
    unfold fmod
    rw [hd, hd']
    simp only
    rw [if_neg (by simpa using hm')]
    rfl
  rw [hf]
  unfold ofBin
  have hg : -(1074 : Int) ≤ min e e' := by omega
  have e1 := shift_one ((m * 2 ^ (e - min e e').toNat) % (m' * 2 ^ (e' - min e e').toNat)) (min e e') 1074 hg
  have hW : (m * 2 ^ (e - min e e').toNat) % (m' * 2 ^ (e' - min e e').toNat) * 2 ^ (min e e' + 1074).toNat = (2 * (a.natAbs % k)) * 2 ^ 1073 := by
    rw [Nat.mul_comm, ← Nat.mul_mod_mul_left]
    have c1 : 2 ^ (min e e' + 1074).toNat * (m * 2 ^ (e - min e e').toNat) = m * 2 ^ (e + 1074).toNat := by
      rw [show (e + 1074).toNat = (min e e' + 1074).toNat + (e - min e e').toNat by omega, Nat.pow_add]; ac_rfl
    have c2 : 2 ^ (min e e' + 1074).toNat * (m' * 2 ^ (e' - min e e').toNat) = m' * 2 ^ (e' + 1074).toNat := by
      rw [show (e' + 1074).toNat = (min e e' + 1074).toNat + (e' - min e e').toNat by omega, Nat.pow_add]; ac_rfl
    rw [c1, c2, hv, hv']
    have c3 : (2 * a).natAbs = 2 * a.natAbs := by omega
    have c4 : (2 * (k : Int)).natAbs = 2 * k := by omega
    rw [c3, c4]
    generalize (2 : Nat) ^ 1073 = P
    rw [Nat.mul_mod_mul_right, Nat.mul_mod_mul_left]
  rw [show (min e e' + 1074).toNat = (min e e' + ((1074 : Nat) : Int)).toNat by rfl] at hW
  rw [hW] at e1
  refine right_exact (W := 2 * (a.natAbs % k) * 2 ^ 1073) (D := 1) (ofFrac_right (shift_pos _ _ _ (by decide)) ?_ (by decide)) (by decide) (by rw [Nat.one_mul]) ?_ (by decide) (by decide)
  · rw [Nat.mul_one]; exact e1
  · have := Nat.mod_lt a.natAbs hk
    omega

@[irreducible] def D (n : Int) : UInt64 := H (2 * n - 1)
theorem D_is {n : Int} (h : n.natAbs < 2 ^ 51) : Is (D n) (2 * n - 1) := by unfold D; exact H_is (by omega)
theorem I_is {n : Int} (h : n.natAbs < 2 ^ 51) : Is (ofInt n) (2 * n) := ofInt_is (by omega)
theorem epoch_D : (4700144277945057280 : UInt64) = D 1721426 := epoch_is.eq (D_is (by decide))
theorem is_I {x : UInt64} {n k : Int} (h : Is x k) (e : k = 2 * n) (hn : n.natAbs < 2 ^ 51) : x = ofInt n := by subst e; exact h.eq (I_is hn)
theorem is_D {x : UInt64} {n k : Int} (h : Is x k) (e : k = 2 * n - 1) (hn : n.natAbs < 2 ^ 51) : x = D n := by subst e; exact h.eq (D_is hn)
section
variable {a b : Int}
theorem add_DI (ha : a.natAbs < 2 ^ 49) (hb : b.natAbs < 2 ^ 49) : add (D a) (ofInt b) = D (a + b) := is_D (add_is (D_is (by omega)) (I_is (by omega)) (by omega)) (by omega) (by omega)
theorem add_ID (ha : a.natAbs < 2 ^ 49) (hb : b.natAbs < 2 ^ 49) : add (ofInt a) (D b) = D (a + b) := is_D (add_is (I_is (by omega)) (D_is (by omega)) (by omega)) (by omega) (by omega)
theorem sub_DI (ha : a.natAbs < 2 ^ 49) (hb : b.natAbs < 2 ^ 49) : sub (D a) (ofInt b) = D (a - b) := is_D (sub_is (D_is (by omega)) (I_is (by omega)) (by omega)) (by omega) (by omega)
theorem sub_DD (ha : a.natAbs < 2 ^ 49) (hb : b.natAbs < 2 ^ 49) : sub (D a) (D b) = ofInt (a - b) := is_I (sub_is (D_is (by omega)) (D_is (by omega)) (by omega)) (by omega) (by omega)
theorem add_II (ha : a.natAbs < 2 ^ 49) (hb : b.natAbs < 2 ^ 49) : add (ofInt a) (ofInt b) = ofInt (a + b) := is_I (add_is (I_is (by omega)) (I_is (by omega)) (by omega)) (by omega) (by omega)
theorem add_Dh (ha : a.natAbs < 2 ^ 49) : add (D a) 0x3fe0000000000000 = ofInt a := is_I (add_is (D_is (by omega)) half_is (by omega)) (by omega) (by omega)
theorem sub_Dh (ha : a.natAbs < 2 ^ 49) : sub (D a) 0x3fe0000000000000 = ofInt (a - 1) := is_I (sub_is (D_is (by omega)) half_is (by omega)) (by omega) (by omega)
theorem sub_Ih (ha : a.natAbs < 2 ^ 49) : sub (ofInt a) 0x3fe0000000000000 = D a := is_D (sub_is (I_is (by omega)) half_is (by omega)) (by omega) (by omega)
theorem add_Ih (ha : a.natAbs < 2 ^ 49) : add (ofInt a) 0x3fe0000000000000 = D (a + 1) := is_D (add_is (I_is (by omega)) half_is (by omega)) (by omega) (by omega)
theorem mul_II (ha : 0 < a) (h1 : a.natAbs < 2 ^ 51) (h2 : b.natAbs < 2 ^ 51) (h : (a * b).natAbs < 2 ^ 49) : mul (ofInt a) (ofInt b) = ofInt (a * b) := by
  have h3 : a * (2 * b) = 2 * (a * b) := by rw [← Int.mul_assoc, Int.mul_comm a 2, Int.mul_assoc]
  exact is_I (mul_is (I_is h1) (I_is h2) ha (by omega)) h3 (by omega)
theorem mul_II' (hb : 0 < b) (h1 : a.natAbs < 2 ^ 51) (h2 : b.natAbs < 2 ^ 51) (h : (a * b).natAbs < 2 ^ 49) : mul (ofInt a) (ofInt b) = ofInt (a * b) := by
  have hm : mul (ofInt a) (ofInt b) = mul (ofInt b) (ofInt a) := by
    obtain ⟨m, e, hd, _⟩ := I_is h1
    obtain ⟨m', e', hd', _⟩ := I_is h2
    unfold mul
    rw [hd, hd']
    simp only
    rw [Nat.mul_comm, Int.add_comm]
    congr 1
    generalize decide (2 * a < 0) = p
    generalize decide (2 * b < 0) = q
    cases p <;> cases q <;> rfl
  rw [hm, Int.mul_comm a b]
  exact mul_II hb h2 h1 (by rw [Int.mul_comm]; exact h)
theorem mul_2D (hb : b.natAbs < 2 ^ 49) : mul (ofInt 2) (D b) = ofInt (2 * b - 1) := by
  refine is_I (mul_is (I_is (by decide)) (D_is (by omega)) (by decide) (by omega)) ?_ (by omega)
  omega
theorem floor_D (ha : a.natAbs < 2 ^ 49) : FloorIs (D a) (a - 1) := by
  have := (D_is (n := a) (by omega)).floor
  rwa [show (2 * a - 1) / 2 = a - 1 by omega] at this
theorem floor_I (ha : a.natAbs < 2 ^ 49) : FloorIs (ofInt a) a := by
  have := (I_is (n := a) (by omega)).floor
  rwa [show 2 * a / 2 = a by omega] at this
theorem trunc_I (ha : a.natAbs < 2 ^ 49) : TruncIs (ofInt a) a := (I_is (n := a) (by omega)).trunc
theorem inf_I (ha : a.natAbs < 2 ^ 51) : ¬ isInf (ofInt a) = true := by
  obtain ⟨m, e, hd, _⟩ := I_is ha
  unfold isInf; rw [hd]; exact Bool.false_ne_true
theorem zero_I (ha : a.natAbs < 2 ^ 51) (h0 : a ≠ 0) : ¬ isZero (ofInt a) = true := by
  obtain ⟨m, e, hd, hv⟩ := I_is ha
  unfold isZero; rw [hd]
  cases m with
  | succ => exact Bool.false_ne_true
  | zero =>
    exfalso
    rw [Nat.zero_mul] at hv
    have : 0 < (2 * a).natAbs * 2 ^ 1073 := Nat.mul_pos (by omega) (Nat.two_pow_pos _)
    omega
theorem quo_ii {k : Nat} (hk : 0 < k) (hk2 : k ≤ 2 ^ 20) (ha : a.natAbs / k + 1 < 2 ^ 33) : FloorIs (ofFrac (decide (a < 0) != decide ((k : Int) < 0)) a.natAbs (k : Int).natAbs) (a / (k : Int)) := by
  have R : Right (ofFrac (decide (a < 0) != decide ((k : Int) < 0)) a.natAbs (k : Int).natAbs) (decide (a < 0)) (a.natAbs * 2 ^ 1074) k := by
    rw [decide_eq_false (show ¬ (k : Int) < 0 by omega), Bool.bne_false, Int.natAbs_natCast]
    exact ofFrac_right hk rfl hk
  exact quo_floor R hk hk2 ha
theorem quo_ff {k : Nat} (h : a.natAbs < 2 ^ 51) (hk : 0 < k) (hk2 : k ≤ 2 ^ 20) (ha : a.natAbs / k + 1 < 2 ^ 33) : FloorIs (div (ofInt a) (ofInt (k : Int))) (a / (k : Int)) := by
  have hx := I_is h
  have hy := I_is (n := (k : Int)) (by omega)
  have vx := hx.val
  have vy := hy.val
  have hz := zero_I (a := (k : Int)) (by omega) (by omega)
  obtain ⟨m, e, hd, hv⟩ := hx
  obtain ⟨m', e', hd', hv'⟩ := hy
  have hm' : m' ≠ 0 := by
    intro h0; subst h0
    exact hz (by unfold isZero; simp only [hd'])
  have R := div_right hd hd' hm'
  rw [vx, vy, Int.natAbs_mul (2 * a), Int.natAbs_mul (2 * (k : Int)), Int.natAbs_natCast, decide_eq_false (show ¬ 2 * (k : Int) < 0 by omega), Bool.bne_false] at R
  have e1 : (2 * a).natAbs * 2 ^ 1073 = a.natAbs * 2 ^ 1074 := by
    rw [two_1074, show (2 * a).natAbs = 2 * a.natAbs by omega]
    generalize (2 : Nat) ^ 1073 = P; ac_rfl
  have e2 : (2 * (k : Int)).natAbs * 2 ^ 1073 = k * 2 ^ 1074 := by
    rw [two_1074, show (2 * (k : Int)).natAbs = 2 * k by omega]
    generalize (2 : Nat) ^ 1073 = P; ac_rfl
  have e3 : decide (2 * a < 0) = decide (a < 0) := by rw [decide_eq_decide]; omega
  rw [e1, e2, e3] at R
  exact quo_floor (right_scale (Nat.two_pow_pos _) R) hk hk2 ha

theorem cmpInt_I {i : Int} (h : a.natAbs < 2 ^ 51) : cmpInt (ofInt a) i = some (compare a i) := by
  have hx := I_is h
  have vx := hx.val
  obtain ⟨m, e, hd, hv⟩ := hx
  rw [cmpInt_right hd, vx]
  have e1 : 2 * a * ((2 ^ 1073 : Nat) : Int) = a * 2 ^ 1074 := by
    have : ((2 ^ 1074 : Nat) : Int) = (2 : Int) ^ 1074 := by simp
    rw [← this, two_1074, Int.natCast_mul, Int.mul_comm 2 a, Int.mul_assoc]; rfl
  rw [e1]
  have hT : (0 : Int) < 2 ^ 1074 := Int.pow_pos (by decide)
  generalize (2 : Int) ^ 1074 = T at *
  rcases Int.lt_trichotomy a i with c | c | c
  · rw [Int.compare_eq_lt.mpr c, Int.compare_eq_lt.mpr (Int.mul_lt_mul_of_pos_right c hT)]
  · subst c; simp
  · rw [Int.compare_eq_gt.mpr c, Int.compare_eq_gt.mpr (Int.mul_lt_mul_of_pos_right c hT)]
theorem cmp_is {x y : UInt64} {a b : Int} (hx : Is x a) (hy : Is y b) : cmp x y = some (compare a b) := by
  have vx := hx.val
  have vy := hy.val
  obtain ⟨m, e, hd, hv⟩ := hx
  obtain ⟨m', e', hd', hv'⟩ := hy
  rw [cmp_right hd hd', vx, vy]
  have hT := P_pos
  generalize ((2 ^ 1073 : Nat) : Int) = T at *
  rcases Int.lt_trichotomy a b with c | c | c
  · rw [Int.compare_eq_lt.mpr c, Int.compare_eq_lt.mpr (Int.mul_lt_mul_of_pos_right c hT)]
  · subst c; simp
  · rw [Int.compare_eq_gt.mpr c, Int.compare_eq_gt.mpr (Int.mul_lt_mul_of_pos_right c hT)]
theorem cmp_DD (ha : a.natAbs < 2 ^ 49) (hb : b.natAbs < 2 ^ 49) : cmp (D a) (D b) = some (compare a b) := by
  rw [cmp_is (D_is (n := a) (by omega)) (D_is (n := b) (by omega))]
  rcases Int.lt_trichotomy a b with c | c | c
  · rw [Int.compare_eq_lt.mpr c, Int.compare_eq_lt.mpr (by omega)]
  · subst c; simp
  · rw [Int.compare_eq_gt.mpr c, Int.compare_eq_gt.mpr (by omega)]

theorem copysign_I {k : Int} (hk : 0 < k) (h : k.natAbs < 2 ^ 51) : copysign (zero false) (ofInt k) = ofInt 0 := by
  obtain ⟨m, e, hd, hv⟩ := I_is h
  have hs : signBit (ofInt k) = false := by
    obtain ⟨h1, h2⟩ := pack_of hd
    rw [decide_eq_false (show ¬ 2 * k < 0 by omega)] at h2
    unfold signBit
    rw [h2, pack_toNat _ (by unfold infMag at h1; omega)]
    simp
  unfold copysign
  rw [hs]
  decide +kernel
theorem emod_pos {k : Nat} (hn : ¬ a < 0) : a % (k : Int) = ((a.natAbs % k : Nat) : Int) := by
  obtain ⟨b, rfl⟩ : ∃ b : Nat, a = (b : Int) := ⟨a.natAbs, by omega⟩
  rfl
theorem emod_neg {k : Nat} (hk : 0 < k) (hn : a < 0) : a % (k : Int) = if a.natAbs % k = 0 then 0 else (k : Int) - ((a.natAbs % k : Nat) : Int) := by
  obtain ⟨b, rfl⟩ : ∃ b : Nat, a = -(b : Int) := ⟨a.natAbs, by omega⟩
  rw [show (-(b : Int)).natAbs = b by omega]
  have hdm := Nat.div_add_mod b k
  have hml := Nat.mod_lt b hk
  generalize b / k = j at *
  generalize b % k = r at *
  by_cases h0 : r = 0
  · rw [if_pos h0, ← hdm, h0, Nat.add_zero, Int.natCast_mul, ← Int.mul_neg, Int.mul_emod_right]
  · rw [if_neg h0]
    have e1 : -(b : Int) = ((k : Int) - r) + k * (-(j : Int) - 1) := by
      rw [← hdm, Int.natCast_add, Int.natCast_mul, Int.mul_sub, Int.mul_neg, Int.mul_one]
      generalize (k : Int) * j = J
      omega
    rw [e1, Int.add_mul_emod_self_left]
    exact Int.emod_eq_of_lt (by omega) (by omega)
theorem mod_I {k : Nat} (ha : a.natAbs < 2 ^ 49) (hk : 0 < k) (hk2 : k < 2 ^ 49) : (divmod (ofInt a) (ofInt (k : Int))).2 = ofInt (a % (k : Int)) := by
  obtain ⟨m, e, hd, hv⟩ := fmod_right (I_is (n := a) (by omega)) (I_is (n := (k : Int)) (by omega)) hk (by omega)
  have hml := Nat.mod_lt a.natAbs hk
  have hy := I_is (n := (k : Int)) (by omega)
  have c1 : lt (ofInt (k : Int)) (zero false) = false := by
    unfold lt
    rw [cmp_is hy zero_is]
    have : compare (2 * (k : Int)) 0 = .gt := Int.compare_eq_gt.mpr (by omega)
    rw [this]; rfl
  have hcs := copysign_I (k := (k : Int)) (by omega) (by omega)
  have hneg : decide (2 * a < 0) = decide (a < 0) := by rw [decide_eq_decide]; omega
  rw [hneg] at hd
  unfold divmod
  simp only [c1]
  by_cases h0 : a.natAbs % k = 0
  · have hm : m = 0 := by
      rw [h0] at hv
      rcases Nat.mul_eq_zero.mp (hv.trans (by simp)) with c | c
      · exact c
      · exact absurd c (Nat.ne_of_gt (Nat.two_pow_pos _))
    have hz : isZero (fmod (ofInt a) (ofInt (k : Int))) = true := by unfold isZero; simp only [hd, hm]
    simp only [hz, if_true, hcs]
    congr 1
    by_cases hn : a < 0
    · rw [emod_neg hk hn, if_pos h0]
    · rw [emod_pos hn, h0]; rfl
  · have hm : m ≠ 0 := by
      intro hm
      rw [hm, Nat.zero_mul] at hv
      have : 0 < 2 * (a.natAbs % k) * 2 ^ 1073 := Nat.mul_pos (by omega) (Nat.two_pow_pos _)
      omega
    have hz : isZero (fmod (ofInt a) (ofInt (k : Int))) = false := by
      unfold isZero; rw [hd]
      cases m with
      | zero => exact absurd rfl hm
      | succ => rfl
    simp only [hz]
    by_cases hn : a < 0
    · have hi : Is (fmod (ofInt a) (ofInt (k : Int))) (2 * -((a.natAbs % k : Nat) : Int)) := by
        refine ⟨m, e, ?_, ?_⟩
        · rw [hd, decide_eq_true hn, decide_eq_true (by omega)]
        · rw [hv]; congr 1; omega
      have hl : lt (fmod (ofInt a) (ofInt (k : Int))) (zero false) = true := by
        unfold lt
        rw [cmp_is hi zero_is]
        have : compare (2 * -((a.natAbs % k : Nat) : Int)) 0 = .lt := Int.compare_eq_lt.mpr (by omega)
        rw [this]; rfl
      rw [hl]
      have hadd := add_is hi hy (by omega)
      have em := emod_neg hk hn
      rw [if_neg h0] at em
      rw [em]
      exact is_I hadd (by omega) (by omega)
    · have hi : Is (fmod (ofInt a) (ofInt (k : Int))) (2 * ((a.natAbs % k : Nat) : Int)) := by
        refine ⟨m, e, ?_, ?_⟩
        · rw [hd, decide_eq_false hn, decide_eq_false (by omega)]
        · rw [hv]; congr 1
      have hl : lt (fmod (ofInt a) (ofInt (k : Int))) (zero false) = false := by
        unfold lt
        rw [cmp_is hi zero_is]
        have : compare (2 * ((a.natAbs % k : Nat) : Int)) 0 = .gt := Int.compare_eq_gt.mpr (by omega)
        rw [this]; rfl
      rw [hl, emod_pos hn]
      exact is_I hi (by omega) (by omega)
end
end Mine

namespace Mine
open PySem PySem.W PySem.Calls PyProof.Rows

abbrev Small (n : Int) : Prop := -(2 ^ 48) < n ∧ n < 2 ^ 48
theorem Small.lt {n : Int} (h : Small n) : n.natAbs < 2 ^ 49 := by unfold Small at h; omega
theorem Small.lt2 {n : Int} (h : Small n) : n.natAbs < 2 ^ 51 := by unfold Small at h; omega

section
variable {prog : Program} {w : World} {A : Around} {E : Value → Shared → Prop} {s : Shared} {Q : Value → Shared → Prop} {x y : UInt64} {a b : Int} {t u : Tok}
-- float and int
theorem r_addDi (hx : x = D a) (ha : Small a) (hb : Small b) (h : Q (.float (D (a + b)) s.toks) { s with toks := s.toks + 1 }) : wpAny (model prog w) A (binaryOp .Add (.float x t) (.int b u)) Q E s := by
  subst hx; exact AutoFloatOps.add_fi_1 (inf_I hb.lt2) (by rw [add_DI ha.lt hb.lt]; exact h)
theorem r_addIi (hx : x = Float64.ofInt a) (ha : Small a) (hb : Small b) (h : Q (.float (Float64.ofInt (a + b)) s.toks) { s with toks := s.toks + 1 }) : wpAny (model prog w) A (binaryOp .Add (.float x t) (.int b u)) Q E s := by
  subst hx; exact AutoFloatOps.add_fi_1 (inf_I hb.lt2) (by rw [add_II ha.lt hb.lt]; exact h)
theorem r_addiD (hx : x = D a) (ha : Small a) (hb : Small b) (h : Q (.float (D (b + a)) s.toks) { s with toks := s.toks + 1 }) : wpAny (model prog w) A (binaryOp .Add (.int b u) (.float x t)) Q E s := by
  subst hx; exact AutoFloatOps.add_if_1 (inf_I hb.lt2) (by rw [add_ID hb.lt ha.lt]; exact h)
theorem r_addih (hx : x = 0x3fe0000000000000) (hb : Small b) (h : Q (.float (D (b + 1)) s.toks) { s with toks := s.toks + 1 }) : wpAny (model prog w) A (binaryOp .Add (.int b u) (.float x t)) Q E s := by
  subst hx; exact AutoFloatOps.add_if_1 (inf_I hb.lt2) (by rw [add_Ih hb.lt]; exact h)
theorem r_subDi (hx : x = D a) (ha : Small a) (hb : Small b) (h : Q (.float (D (a - b)) s.toks) { s with toks := s.toks + 1 }) : wpAny (model prog w) A (binaryOp .Sub (.float x t) (.int b u)) Q E s := by
  subst hx; exact AutoFloatOps.sub_fi_1 (inf_I hb.lt2) (by rw [sub_DI ha.lt hb.lt]; exact h)
theorem r_subih (hx : x = 0x3fe0000000000000) (hb : Small b) (h : Q (.float (D b) s.toks) { s with toks := s.toks + 1 }) : wpAny (model prog w) A (binaryOp .Sub (.int b u) (.float x t)) Q E s := by
  subst hx; exact AutoFloatOps.sub_if_1 (inf_I hb.lt2) (by rw [sub_Ih hb.lt]; exact h)
theorem r_iaddiD (hx : x = D a) (ha : Small a) (hb : Small b) (h : Q (.float (D (b + a)) s.toks) { s with toks := s.toks + 1 }) : wpAny (model prog w) A (inplaceOp .Add (.int b u) (.float x t)) Q E s := by
  subst hx; exact Flt.iadd_if_1 (inf_I hb.lt2) (by rw [add_ID hb.lt ha.lt]; exact h)
theorem r_mulIi (hx : x = Float64.ofInt a) (ha : Small a) (hb : Small b) (h0 : 0 < b) (h1 : Small (a * b)) (h : Q (.float (Float64.ofInt (a * b)) s.toks) { s with toks := s.toks + 1 }) : wpAny (model prog w) A (binaryOp .Mult (.float x t) (.int b u)) Q E s := by
  subst hx; exact AutoFloatOps.mul_fi_1 (inf_I hb.lt2) (by rw [mul_II' h0 ha.lt2 hb.lt2 h1.lt]; exact h)
theorem r_mul2D (hx : x = D a) (ha : Small a) (h : Q (.float (Float64.ofInt (2 * a - 1)) s.toks) { s with toks := s.toks + 1 }) : wpAny (model prog w) A (binaryOp .Mult (.int 2 u) (.float x t)) Q E s := by
  subst hx; exact AutoFloatOps.mul_if_1 (inf_I (by decide)) (by rw [mul_2D ha.lt]; exact h)
-- float and float
theorem r_addDh (hx : x = D a) (hy : y = 0x3fe0000000000000) (ha : Small a) (h : Q (.float (Float64.ofInt a) s.toks) { s with toks := s.toks + 1 }) : wpAny (model prog w) A (binaryOp .Add (.float x t) (.float y u)) Q E s := by
  subst hx; subst hy; exact add_float (by rw [add_Dh ha.lt]; exact h)
theorem r_subDh (hx : x = D a) (hy : y = 0x3fe0000000000000) (ha : Small a) (h : Q (.float (Float64.ofInt (a - 1)) s.toks) { s with toks := s.toks + 1 }) : wpAny (model prog w) A (binaryOp .Sub (.float x t) (.float y u)) Q E s := by
  subst hx; subst hy; exact sub_float (by rw [sub_Dh ha.lt]; exact h)
theorem r_subDD (hx : x = D a) (hy : y = D b) (ha : Small a) (hb : Small b) (h : Q (.float (Float64.ofInt (a - b)) s.toks) { s with toks := s.toks + 1 }) : wpAny (model prog w) A (binaryOp .Sub (.float x t) (.float y u)) Q E s := by
  subst hx; subst hy; exact sub_float (by rw [sub_DD ha.lt hb.lt]; exact h)
theorem r_neDD (hx : x = D a) (hy : y = D b) (ha : Small a) (hb : Small b) (h : Q (.bool (decide (a ≠ b))) s) : wpAny (model prog w) A (compareOp .NotEq (.float x t) (.float y u)) Q E s := by
  subst hx; subst hy
  refine AutoFloatOps.ne_0 ?_
  rw [cmp_DD ha.lt hb.lt]
  have : (!(some (compare a b) == some Ordering.eq)) = decide (a ≠ b) := by
    rcases Int.lt_trichotomy a b with c | c | c
    · rw [Int.compare_eq_lt.mpr c, decide_eq_true (by omega)]; rfl
    · subst c; simp
    · rw [Int.compare_eq_gt.mpr c, decide_eq_true (by omega)]; rfl
  rw [← this] at h
  exact h
theorem r_ltIi (hx : x = Float64.ofInt a) (ha : Small a) (h : Q (.bool (decide (a < b))) s) : wpAny (model prog w) A (compareOp .Lt (.float x t) (.int b u)) Q E s := by
  subst hx
  refine lt_fi ?_
  rw [cmpInt_I ha.lt2]
  have : (some (compare a b) == some Ordering.lt) = decide (a < b) := by
    rcases Int.lt_trichotomy a b with c | c | c
    · rw [Int.compare_eq_lt.mpr c, decide_eq_true (by omega)]; rfl
    · subst c; simp
    · rw [Int.compare_eq_gt.mpr c, decide_eq_false (by omega)]; rfl
  rw [this]; exact h
-- quotients: opaque floats of a known floor
def quo (a b : Int) : UInt64 := Float64.ofFrac (decide (a < 0) != decide (b < 0)) a.natAbs b.natAbs
theorem floorIs_fin {x : UInt64} {z : Int} (h : FloorIs x z) : ¬ Float64.isInf x = true := by
  obtain ⟨s, m, e, hd, _⟩ := h
  unfold Float64.isInf; simp only [hd]; exact Bool.false_ne_true
theorem r_divii (hb : 4 ≤ b ∧ b < 2 ^ 20) (hab : a.natAbs < 2 ^ 34) (h : FloorIs (quo a b) (a / b) → Q (.float (quo a b) s.toks) { s with toks := s.toks + 1 }) : wpAny (model prog w) A (binaryOp .Div (.int a t) (.int b u)) Q E s := by
  obtain ⟨k, rfl⟩ : ∃ k : Nat, b = (k : Int) := ⟨b.toNat, by omega⟩
  have hq : FloorIs (quo a k) (a / (k : Int)) := by
    refine quo_ii (by omega) (by omega) ?_
    have h1 := Nat.div_le_div_left (a := a.natAbs) (show 4 ≤ k by omega) (by decide)
    omega
  exact AutoIntOps.truediv_2 (by simp; omega) (floorIs_fin hq) (h hq)
theorem r_divIi (hx : x = Float64.ofInt a) (hb : 300 ≤ b ∧ b < 2 ^ 20) (hab : a.natAbs < 2 ^ 41) (h : ∀ q, FloorIs q (a / b) → Q (.float q s.toks) { s with toks := s.toks + 1 }) : wpAny (model prog w) A (binaryOp .Div (.float x t) (.int b u)) Q E s := by
  subst hx
  obtain ⟨k, rfl⟩ : ∃ k : Nat, b = (k : Int) := ⟨b.toNat, by omega⟩
  have hq : FloorIs (Float64.div (Float64.ofInt a) (Float64.ofInt (k : Int))) (a / (k : Int)) := by
    refine quo_ff (by omega) (by omega) (by omega) ?_
    have h1 := Nat.div_le_div_left (a := a.natAbs) (show 300 ≤ k by omega) (by decide)
    omega
  exact AutoFloatOps.truediv_fi_2 (inf_I (by omega)) (zero_I (by omega) (by omega)) (h _ hq)
theorem r_modIi (hx : x = Float64.ofInt a) (ha : Small a) (hb : 0 < b ∧ b < 2 ^ 20) (h : Q (.float (Float64.ofInt (a % b)) s.toks) { s with toks := s.toks + 1 }) : wpAny (model prog w) A (binaryOp .Mod (.float x t) (.int b u)) Q E s := by
  subst hx
  obtain ⟨k, rfl⟩ : ∃ k : Nat, b = (k : Int) := ⟨b.toNat, by omega⟩
  exact AutoFloatOps.mod_fi_2 (inf_I (by omega)) (zero_I (by omega) (by omega)) (by rw [mod_I ha.lt (by omega) (by omega)]; exact h)
theorem r_floor {z : Int} (hA : A.handled = none) (hx : FloorIs x z) (h : Q (.int z s.toks) { s with toks := s.toks + 1 }) : wpAny (model prog w) A (call (.builtin "math.floor") [.float x t]) Q E s := by
  obtain ⟨sg, m, e, hd, hf⟩ := hx
  refine Flt.call_floor_float hA (fun c => ?_) (fun c => ?_) fun _ => ?_
  · unfold Float64.isNaN at c; simp only [hd] at c; cases c
  · unfold Float64.isInf at c; simp only [hd] at c; cases c
  · rw [Flt.toInt_fin hd, hf]; exact h
theorem r_trunc {z : Int} (hA : A.handled = none) (hx : TruncIs x z) (h : Q (.int z s.toks) { s with toks := s.toks + 1 }) : wpAny (model prog w) A (call (.builtin "math.trunc") [.float x t]) Q E s := by
  obtain ⟨sg, m, e, hd, hf⟩ := hx
  refine Flt.call_trunc_float hA (fun c => ?_) (fun c => ?_) fun _ => ?_
  · unfold Float64.isNaN at c; simp only [hd] at c; cases c
  · unfold Float64.isInf at c; simp only [hd] at c; cases c
  · rw [Flt.toInt_fin hd, hf]; exact h
theorem r_int {z : Int} (hA : A.handled = none) (hx : TruncIs x z) (h : Q (.int z s.toks) { s with toks := s.toks + 1 }) : wpAny (model prog w) A (call (.type "int") [.float x t]) Q E s := by
  obtain ⟨sg, m, e, hd, hf⟩ := hx
  refine Flt.call_int_float3 hA (fun c => ?_) (fun c => ?_) fun _ => ?_
  · unfold Float64.isNaN at c; simp only [hd] at c; cases c
  · unfold Float64.isInf at c; simp only [hd] at c; cases c
  · rw [Flt.toInt_fin hd, hf]; exact h
theorem r_floorD (hA : A.handled = none) (hx : x = D a) (ha : Small a) (h : Q (.int (a - 1) s.toks) { s with toks := s.toks + 1 }) : wpAny (model prog w) A (call (.builtin "math.floor") [.float x t]) Q E s := by
  subst hx; exact r_floor hA (floor_D ha.lt) h
theorem r_floorI (hA : A.handled = none) (hx : x = Float64.ofInt a) (ha : Small a) (h : Q (.int a s.toks) { s with toks := s.toks + 1 }) : wpAny (model prog w) A (call (.builtin "math.floor") [.float x t]) Q E s := by
  subst hx; exact r_floor hA (floor_I ha.lt) h
theorem r_truncI (hA : A.handled = none) (hx : x = Float64.ofInt a) (ha : Small a) (h : Q (.int a s.toks) { s with toks := s.toks + 1 }) : wpAny (model prog w) A (call (.builtin "math.trunc") [.float x t]) Q E s := by
  subst hx; exact r_trunc hA (trunc_I ha.lt) h
theorem r_intI (hA : A.handled = none) (hx : x = Float64.ofInt a) (ha : Small a) (h : Q (.int a s.toks) { s with toks := s.toks + 1 }) : wpAny (model prog w) A (call (.type "int") [.float x t]) Q E s := by
  subst hx; exact r_int hA (trunc_I ha.lt) h
end

theorem r_modii {a b : Int} {prog : Program} {w : World} {A : Around} {E : Value → Shared → Prop} {s : Shared} {Q : Value → Shared → Prop} {t u : Tok} (hb : 0 < b) (h : Q (.int (a % b) s.toks) { s with toks := s.toks + 1 }) : wpAny (model prog w) A (binaryOp .Mod (.int a t) (.int b u)) Q E s := by
  rw [← Int.fmod_eq_emod_of_nonneg _ (Int.le_of_lt hb)] at h
  exact mod_int (by omega) h
theorem r_fdivii {a b : Int} {prog : Program} {w : World} {A : Around} {E : Value → Shared → Prop} {s : Shared} {Q : Value → Shared → Prop} {t u : Tok} (hb : 0 < b) (hb2 : b < 1000000000) (h : Q (.int (a / b) s.toks) { s with toks := s.toks + 1 }) : wpAny (model prog w) A (binaryOp .FloorDiv (.int a t) (.int b u)) Q E s := by
  rw [← Int.fdiv_eq_ediv_of_nonneg _ (Int.le_of_lt hb)] at h
  exact floordiv_int (by omega) h (.inl (PyProof.noPylong_small (by omega)))

theorem r_addgen {x : UInt64} {b : Int} {prog : Program} {w : World} {A : Around} {E : Value → Shared → Prop} {s : Shared} {Q : Value → Shared → Prop} {t u : Tok} (hb : Small b) (h : Q (.float (Float64.add x (Float64.ofInt b)) s.toks) { s with toks := s.toks + 1 }) : wpAny (model prog w) A (binaryOp .Add (.float x t) (.int b u)) Q E s :=
  AutoFloatOps.add_fi_1 (inf_I hb.lt2) h
def floorB (x : UInt64) (z : Int) : Bool := match Float64.decode x with
  | .fin s m e => Float64.floorOf s m e == z
  | _ => false
theorem floorIs_of_B {x : UInt64} {z : Int} (h : floorB x z = true) : FloorIs x z := by
  unfold floorB at h
  split at h
  · rename_i s m e hd; exact ⟨s, m, e, hd, beq_iff_eq.mp h⟩
  · cases h
theorem month_check : ∀ m : Fin 12, ∀ j : Fin 3, (floorB (Float64.add (Float64.add (quo (367 * ((m.val : Int) + 1) - 362) 12) (Float64.ofInt (-(j.val : Int)))) (Float64.ofInt 1)) ((367 * ((m.val : Int) + 1) - 362) / 12 - (j.val : Int) + 1) && floorB (Float64.add (Float64.add (quo (367 * ((m.val : Int) + 1) - 362) 12) (Float64.ofInt (-(j.val : Int)))) (Float64.ofInt 28)) ((367 * ((m.val : Int) + 1) - 362) / 12 - (j.val : Int) + 28)) = true := by decide +kernel
theorem month_floor {mo j d : Int} (hm : 1 ≤ mo ∧ mo ≤ 12) (hj : -2 ≤ j ∧ j ≤ 0) (hd : d = 1 ∨ d = 28) : FloorIs (Float64.add (Float64.add (quo (367 * mo - 362) 12) (Float64.ofInt j)) (Float64.ofInt d)) ((367 * mo - 362) / 12 + j + d) := by
  obtain ⟨m, rfl⟩ : ∃ m : Fin 12, mo = (m.val : Int) + 1 := ⟨⟨(mo - 1).toNat, by omega⟩, by simp only; omega⟩
  obtain ⟨i, rfl⟩ : ∃ i : Fin 3, j = -(i.val : Int) := ⟨⟨(-j).toNat, by omega⟩, by simp only; omega⟩
  have h := Bool.and_eq_true_iff.mp (month_check m i)
  rcases hd with rfl | rfl
  · exact floorIs_of_B h.1
  · exact floorIs_of_B h.2

theorem in_topTup4 {K : Frag} {h₀ : Heap} {L a : Addr} {m : Str → Option Value} {prog : Program} {w : World} {A : Around} {E : Value → Shared → Prop} {s : Shared} {Q : Value → Shared → Prop} {t t1 t2 t3 t4 : Tok} {x i1 i2 i3 i4 : Int} {n : Nat} {dd : Option Addr} {sl : Array (Option Value)} (F : Fr h₀ L s.heap m) (X₀ : K.In h₀) (hl : K.lookup a = some ⟨.type "tuple", dd, .seq [.int i1 t1, .int i2 t2, .int i3 t3, .int i4 t4].toArray n, sl⟩) (h : Q (.bool ([i1, i2, i3, i4].any (· == x))) s) :
    wpAny (model prog w) A (compareOp .In (.int x t) (.ref a)) Q E s := in_tuple_ints (tupK (X₀.keeps F.keep) hl) (.cons _ _ (.cons _ _ (.cons _ _ (.cons _ _ .nil)))) h

-- the contract of a def of the text: its call is one step
section
variable (prog : Program) (w : World) (K : Frag) (p : Program) (loose : List Str) (mean : ExcName → Option Value) (mg mb : Str → Option Value)
/-- post says what comes back and which new objects stand behind it; k bounds the calls within -/
def ClP (k : Nat) (f : Addr) (vs : List Value) (news : List (Addr × Obj)) (post : Value → List (Addr × Obj) → Prop) : Prop :=
  ∀ (dp un : Nat) (gd : Option (List Code)) (cn : Str) (cs : Scope) (a : Addr) (ccd : Value) (cl : List (Str × Addr)) (outer : List Env) (A₀ : Around) (base h₀ : Heap) (L : Addr) (m : Str → Option Value) (s : Shared) (Q E : Value → Shared → Prop),
    Below A₀ base outer h₀ → Fr h₀ L s.heap m → K.In h₀ → News h₀ L s.heap news → Top p loose mean mg mb h₀ → cs.kind = .function → dp + k < recursionLimit → un + 8 * k < cLine →
    (∀ (v : Value) (ex : List (Addr × Obj)) (h' : Heap) (tk' : Nat), post v ex → Fr h₀ L h' m → News h₀ L h' (ex ++ news) → Q v { s with heap := h', toks := tk' }) →
    wpAny (model prog w) (ktrTop dp un gd cn cs L a ccd cl outer) (call (.ref f) vs) Q E s
end
section
variable {prog : Program} {w : World} {K : Frag} {p : Program} {loose : List Str} {mean : ExcName → Option Value} {mg mb : Str → Option Value}
  {dp un : Nat} {gd : Option (List Code)} {cn : Str} {cs : Scope} {a : Addr} {ccd : Value} {cl : List (Str × Addr)} {outer : List Env} {A₀ : Around} {base h₀ : Heap} {L : Addr} {m : Str → Option Value} {news : List (Addr × Obj)} {s : Shared} {Q E : Value → Shared → Prop} {k : Nat} {f : Addr} {vs : List Value} {post : Value → List (Addr × Obj) → Prop}
theorem ClP.use (C : ∀ news, ClP prog w K p loose mean mg mb k f vs news post) (B : Below A₀ base outer h₀) (F : Fr h₀ L s.heap m) (X : K.In h₀) (N : News h₀ L s.heap news) (T : Top p loose mean mg mb h₀) (hk : cs.kind = .function) (hd : dp + k < recursionLimit) (hu : un + 8 * k < cLine)
    (ret : ∀ (v : Value) (ex : List (Addr × Obj)) (h' : Heap) (tk' : Nat), post v ex → Fr h₀ L h' m → News h₀ L h' (ex ++ news) → Q v { s with heap := h', toks := tk' }) :
    wpAny (model prog w) (ktrTop dp un gd cn cs L a ccd cl outer) (call (.ref f) vs) Q E s := C _ _ _ _ _ _ _ _ _ _ _ _ _ _ _ _ _ _ B F X N T hk hd hu ret
end
theorem cl_ret {h₀ h' : Heap} {L : Addr} {m : Str → Option Value} {news : List (Addr × Obj)} {s : Shared} {Q : Value → Shared → Prop} {tk' : Nat} {post : Value → List (Addr × Obj) → Prop} {v : Value} (ex : List (Addr × Obj))
    (hret : ∀ (v : Value) (ex : List (Addr × Obj)) (h' : Heap) (tk' : Nat), post v ex → Fr h₀ L h' m → News h₀ L h' (ex ++ news) → Q v { s with heap := h', toks := tk' }) (e : post v ex) (F : Fr h₀ L h' m) (N : News h₀ L h' (ex ++ news)) : Q v { s with heap := h', toks := tk' } := hret v ex h' tk' e F N
/-- what comes back: an int, a bool, a day's float, of which P holds -/
def PInt (P : Int → Prop) (v : Value) (ex : List (Addr × Obj)) : Prop := ∃ i t, v = .int i t ∧ ex = [] ∧ P i
def PBool (b : Bool) (v : Value) (ex : List (Addr × Obj)) : Prop := v = .bool b ∧ ex = []
def PDay (P : Int → Prop) (v : Value) (ex : List (Addr × Obj)) : Prop := ∃ i t, v = .float (D i) t ∧ ex = [] ∧ P i
end Mine
namespace Mine
open PySem
theorem vint {a b : Int} (t : Tok) (h : a = b) : Value.int a t = Value.int b t := by rw [h]
theorem vbool {a b : Bool} (h : a = b) : Value.bool a = Value.bool b := by rw [h]
/-- a new tuple of three ints -/
abbrev tup3 (c : String) (i j k : Int) (ti tj tk : Tok) (n : Nat) : Obj := { cls := .type c, data := .seq #[.int i ti, .int j tj, .int k tk] n }
def PTup3 (c : String) (P : Int → Int → Int → Prop) (v : Value) (ex : List (Addr × Obj)) : Prop := ∃ x i j k ti tj tk n, v = .ref x ∧ ex = [(x, tup3 c i j k ti tj tk n)] ∧ P i j k
end Mine

namespace Mine
open PySem PySem.W PySem.Calls PyProof.Rows
theorem r_addih1 {x : UInt64} {b : Int} {prog : Program} {w : World} {A : Around} {E : Value → Shared → Prop} {s : Shared} {Q : Value → Shared → Prop} {t u : Tok} (hx : x = 0x3fe0000000000000) (hb : Small (b - 1)) (h : Q (.float (D b) s.toks) { s with toks := s.toks + 1 }) : wpAny (model prog w) A (binaryOp .Add (.int (b - 1) u) (.float x t)) Q E s :=
  r_addih hx hb (by rwa [Int.sub_add_cancel])

abbrev Y0 (n : Int) : Int := (n - 1721426) / 146097 * 400 + (n - 1721426) % 146097 / 36524 * 100 + (n - 1721426) % 146097 % 36524 / 1461 * 4 + (n - 1721426) % 146097 % 36524 % 1461 / 365
def yearC (n : Int) : Bool := !(decide ((n - 1721426) % 146097 / 36524 = 4) || decide ((n - 1721426) % 146097 % 36524 % 1461 / 365 = 4))
theorem yc1 {n : Int} (h : (n - 1721426) % 146097 / 36524 = 4) : false = yearC n := by unfold yearC; rw [decide_eq_true h]; rfl
theorem yc2 {n : Int} (h : (n - 1721426) % 146097 % 36524 % 1461 / 365 = 4) : false = yearC n := by unfold yearC; rw [decide_eq_true h, Bool.or_true]; rfl
theorem yc3 {n : Int} (h1 : ¬ (n - 1721426) % 146097 / 36524 = 4) (h2 : ¬ (n - 1721426) % 146097 % 36524 % 1461 / 365 = 4) : true = yearC n := by unfold yearC; rw [decide_eq_false h1, decide_eq_false h2]; rfl
theorem year_of {n r : Int} (h : (yearC n = true ∧ r = Y0 n + 1) ∨ (yearC n = false ∧ r = Y0 n)) : YearIs n r := by
  unfold yearC at h
  rcases h with ⟨h, rfl⟩ | ⟨h, rfl⟩
  · simp at h; exact year_ns h.1 h.2
  · refine year_s ?_
    by_cases c : (n - 1721426) % 146097 / 36524 = 4
    · exact .inl c
    · right; simp [c] at h; exact h
theorem year_range {n r : Int} (hn : -(2 ^ 39) < n ∧ n < 2 ^ 39) (h : YearIs n r) : -(2 ^ 33) < r ∧ r < 2 ^ 33 := by
  unfold YearIs jan at h; omega
section
variable {M : Model} {A : Around} {E : Value → Shared → Prop} {s : Shared} {env : Env} {h₀ : Heap} {L : Addr} {m : Str → Option Value} {news : List (Addr × Obj)}
theorem kj_year {n a : Int} {test : Expr} {x : Str} {p q pos : Pos} {e : Expr} {t₀ : Tok} {Q : Flow → Shared → Prop} (F : Fr h₀ L s.heap m) (N : News h₀ L s.heap news) (hn : -(2 ^ 39) < n ∧ n < 2 ^ 39)
    (hold : m x = some (.int a t₀)) (ha : a = Y0 n)
    (hc : wpAny M A (isTrue test env (eval test env)) (fun k s₂ => KJoinC (yearC n) h₀ L m news s k s₂) E s)
    (hv : KJoinB1 (yearC n = true → ∀ s₂, KJoinAt h₀ L m news s s₂ → wpAny M A (exec (.AugAssign (.Name x p) .Add e q) env) (fun f s₃ => KJoinV x (a + 1) h₀ L m news s f s₃) E s₂))
    (hk : KJoinB2 (∀ (r : Int) (t : Tok) (s₃ : Shared), YearIs n r ∧ -(2 ^ 33) < r ∧ r < 2 ^ 33 → KJoinAt h₀ L (fun y => if y = x then some (.int r t) else m y) news s s₃ → Q .next s₃)) :
    wpAny M A (exec (.If test [.AugAssign (.Name x p) .Add e q] [] pos) env) Q E s :=
  kj_if_aug F N hold hc hv fun r t s₃ hr hj => by subst ha; exact hk r t s₃ ⟨year_of hr, year_range hn (year_of hr)⟩ hj
end
end Mine

set_option maxRecDepth 100000
namespace Mine
open PySem PySem.W PySem.Calls PyProof.Rows PySem.Builtin PySem.Builtin._datetime
theorem mro_date : mroOf (.type "datetime.date") = pure [.type "datetime.date", .type "object"] := by rw [mroOf_type]; kernel_rfl
theorem lookup_date_new : typeLookup (.type "datetime.date") "__new__" = pure (some (.builtin "datetime.date.__new__")) := by rw [typeLookup_type, builtinLookup_eq_fast]; kernel_rfl
theorem sub_date_date : isSubtype (.type "datetime.date") (.type "datetime.date") = pure true := by rw [isSubtype_type]; kernel_rfl
theorem sub_date_datetime : isSubtype (.type "datetime.date") (.type "datetime.datetime") = pure false := by rw [isSubtype_type]; kernel_rfl
theorem slot_date_init : Slot "datetime.date" "__init__" "object.__init__" :=
  .of (owner := "object") (n := "__init__") (by rw [typeLookup_type, builtinLookup_eq_fast]; kernel_rfl) (by decide +kernel) (by decide +kernel) (by decide +kernel)
    (by first | exact .inl (by decide +kernel) | exact .inr (by decide +kernel)) (by rw [isSubtype_type]; kernel_rfl)
theorem called_date : TypeCalled "datetime.date" "datetime.date.__new__" "object.__init__" :=
  ⟨by decide +kernel, by decide +kernel, ⟨_, _, mro_date⟩, madeBy_type mro_date lookup_date_new (by decide +kernel), by decide +kernel, sub_date_date, slot_date_init⟩
theorem typeCall_date (a b c : Value) : checkTypeCall "datetime.date" ⟨[a, b, c], []⟩ = pure () := by kernel_rfl
theorem newCall_date (a b c : Value) : checkBuiltinCall "datetime.date.__new__" ⟨[.type "datetime.date", a, b, c], []⟩ = pure () := by kernel_rfl
theorem entry_date_new : entryFor table "datetime.date.__new__" = some Builtin.«datetime.date.__new__» := entryFor_of_tree (by kernel_rfl)
theorem newNe_date : (some "datetime.date.__new__" != some "object.__new__") = true := by decide +kernel
theorem initArgs_date (obj a b c : Value) : argsOk "object.__init__" ⟨[obj, a, b, c], []⟩ := by unfold argsOk; kernel_rfl

def Valid (y m d : Int) : Prop := (1 ≤ y ∧ y ≤ 9999) ∧ (1 ≤ m ∧ m ≤ 12) ∧ (1 ≤ d ∧ d ≤ daysInMonth y m)
abbrev Fits (i : Int) : Prop := -(2 ^ 31) ≤ i ∧ i < 2 ^ 31
theorem cint {M : Model} {A : Around} {E : Value → Shared → Prop} {s : Shared} {i : Int} {t : Tok} {Q : Int → Shared → Prop} (hi : Fits i) (h : Q i s) : wpAny M A (dtCInt (.int i t)) Q E s := by
  have c1 : ¬ ((decide (i ≥ 2 ^ 63) || decide (i < -2 ^ 63)) = true) := by simp; omega
  have c2 : ¬ (i ≥ 2 ^ 31) := by omega
  have c3 : ¬ (i < -2 ^ 31) := by omega
  unfold dtCInt
  obtain ⟨hp, g, d, tk, os⟩ := s
  wp_walk
  refine wpAny_ite_split (fun hx => absurd hx c1) (fun _ => ?_)
  wp_walk
  refine wpAny_ite_split (fun hx => absurd hx c2) (fun _ => ?_)
  wp_walk
  refine wpAny_ite_split (fun hx => absurd hx c3) (fun _ => ?_)
  wp_walk
  exact h
theorem check_ok {M : Model} {A : Around} {E : Value → Shared → Prop} {s : Shared} {y m d : Int} {Q : Unit → Shared → Prop} (hv : Valid y m d) (h : Q () s) : wpAny M A (checkDate y m d) Q E s := by
  have c1 : ¬ ((decide (y < 1) || decide (y > 9999)) = true) := by have := hv.1; simp; omega
  have c2 : ¬ ((decide (m < 1) || decide (m > 12)) = true) := by have := hv.2.1; simp; omega
  have c3 : ¬ ((decide (d < 1) || decide (d > daysInMonth y m)) = true) := by have := hv.2.2; simp; omega
  unfold checkDate
  obtain ⟨hp, g, dd, tk, os⟩ := s
  wp_walk
  exact h
set_option maxHeartbeats 4000000 in
theorem date_new_ok (y m d : Int) (t u v : Tok) (hy : Fits y) (hm : Fits m) (hd : Fits d) (hv : Valid y m d) :
    Meets (Builtin.«datetime.date.__new__» ⟨[.type "datetime.date", .int y t, .int m u, .int d v], []⟩) (fun A R s => R (.ok (.ret (.ref s.heap.objs.size))) { s with heap := s.heap.push { cls := .type "datetime.date", data := .fields #[rawInt y, rawInt m, rawInt d] } }) :=
  .of_wp fun prog w A R s h => by
    obtain ⟨hp, g, dd, tk, os⟩ := s
    have f1 := sub_date_date
    have f2 := sub_date_datetime
    repeat (any_goals (first | assumption | refine cint (by assumption) ?_ | refine check_ok (by assumption) ?_ | wp_step))
    exact ⟨_, rfl, h⟩
section
variable {prog : Program} {w : World} {A : Around} {E : Value → Shared → Prop} {s : Shared} {h₀ : Heap} {L : Addr} {mm : Str → Option Value} {news : List (Addr × Obj)} {y m d : Int} {t u v : Tok}
abbrev dateObj (y m d : Int) : Obj := { cls := .type "datetime.date", data := .fields #[rawInt y, rawInt m, rawInt d] }
theorem call_date_ok {Q : Value → Shared → Prop} (F : Fr h₀ L s.heap mm) (N : News h₀ L s.heap news) (hy : Fits y) (hm : Fits m) (hd : Fits d) (hv : Valid y m d)
    (h : ∀ x h', Fr h₀ L h' mm → News h₀ L h' ((x, dateObj y m d) :: news) → Q (.ref x) { s with heap := h' }) :
    wpAny (model prog w) A (call (.type "datetime.date") [.int y t, .int m u, .int d v]) Q E s :=
  callType_new called_date newNe_date (typeCall_date _ _ _) (newCall_date _ _ _) (fun obj => initArgs_date obj _ _ _) entry_date_new (date_new_ok y m d t u v hy hm hd hv)
    ⟨⟨_, Heap.get?_push_size _ rfl, rfl⟩, h _ _ (F.push _) (N.push F _)⟩
end
end Mine

set_option maxRecDepth 100000
namespace Mine
open PySem PySem.W PySem.Calls PyProof.Rows PySem.Builtin PySem.Builtin._datetime
theorem plainAttrs_date : PlainAttrs "datetime.date" :=
  ⟨⟨"object.__getattribute__", by rw [typeLookup_type, builtinLookup_eq_fast]; kernel_rfl, by decide +kernel⟩, by rw [typeLookup_type, builtinLookup_eq_fast]; kernel_rfl⟩
theorem slot_date_iso : Slot "datetime.date" "isocalendar" "datetime.date.isocalendar" :=
  .of (owner := "datetime.date") (n := "isocalendar") (by rw [typeLookup_type, builtinLookup_eq_fast]; kernel_rfl) (by decide +kernel) (by decide +kernel) (by decide +kernel)
    (by first | exact .inl (by decide +kernel) | exact .inr (by decide +kernel)) (by rw [isSubtype_type]; kernel_rfl)
theorem type_date_iso : typeOf (.builtin "datetime.date.isocalendar") = pure (.type "method_descriptor") := by show builtinType _ = _; rw [builtinType_eq_fast]; kernel_rfl
theorem entry_date_iso : entryFor table "datetime.date.isocalendar" = some Builtin.«datetime.date.isocalendar» := entryFor_of_tree (by kernel_rfl)
theorem args_date_iso (a : Value) : argsOk "datetime.date.isocalendar" ⟨[a], []⟩ := by unfold argsOk; kernel_rfl
abbrev isoObj (i j k : Int) (ti tj tk : Tok) (n : Nat) : Obj := { cls := .type "datetime.IsoCalendarDate", data := .seq #[.int i ti, .int j tj, .int k tk] n }
set_option maxHeartbeats 4000000 in
theorem iso_meets (x : Addr) (y m d : Int) :
    Meets (Builtin.«datetime.date.isocalendar» ⟨[.ref x], []⟩) (fun A R s => s.heap.get? x = some (dateObj y m d) ∧ R (.ok (.ret (.ref s.heap.objs.size))) { s with heap := s.heap.push (isoObj (isoCalendarOf y m d).1 (isoCalendarOf y m d).2.1 (isoCalendarOf y m d).2.2 s.toks (s.toks + 1) (s.toks + 1 + 1) 0), toks := s.toks + 1 + 1 + 1 }) :=
  .of_wp fun prog w A R s h => by
    obtain ⟨hp, g, dd, tk, os⟩ := s
    obtain ⟨hx, h⟩ := h
    have f1 := sub_date_date
    have hT : (⟨hp, g, dd, tk, os⟩ : Shared).TypeIs (.ref x) "datetime.date" := ⟨_, hx, rfl⟩
    repeat (any_goals (first | assumption | wp_step))
    exact ⟨_, rfl, h⟩
section
variable {prog : Program} {w : World} {A : Around} {E : Value → Shared → Prop} {s : Shared} {h₀ : Heap} {L : Addr} {mm : Str → Option Value} {news : List (Addr × Obj)} {x b : Addr} {y m d i j k i' j' k' : Int} {t u v ti tj tk ti' tj' tk' : Tok} {n n' : Nat}
theorem getMethod_iso {pl : Sem Bool} {Q : Value × List Value → Shared → Prop} (N : News h₀ L s.heap news) (hx : (x, dateObj y m d) ∈ news) (h : Q (.builtin "datetime.date.isocalendar", [.ref x]) s) :
    wpAny (model prog w) A (getMethod (.ref x) (Str.ofString "isocalendar") pl) Q E s :=
  getMethod_builtin (T := "datetime.date") ⟨_, (N _ hx).1, rfl⟩ plainAttrs_date slot_date_iso type_date_iso (fun a e => by cases e; exact ⟨_, (N _ hx).1, rfl⟩) h
theorem call_iso {Q : Value → Shared → Prop} (F : Fr h₀ L s.heap mm) (N : News h₀ L s.heap news) (hx : (x, dateObj y m d) ∈ news)
    (h : ∀ r h' tk, Fr h₀ L h' mm → (∀ t1 t2 t3, t1 = s.toks → t2 = s.toks + 1 → t3 = s.toks + 1 + 1 → News h₀ L h' ((r, isoObj (isoCalendarOf y m d).1 (isoCalendarOf y m d).2.1 (isoCalendarOf y m d).2.2 t1 t2 t3 0) :: news)) → Q (.ref r) { s with heap := h', toks := tk }) :
    wpAny (model prog w) A (call (.builtin "datetime.date.isocalendar") [.ref x]) Q E s :=
  call_meets slot_date_iso ⟨_, (N _ hx).1, rfl⟩ entry_date_iso (args_date_iso _) (iso_meets x y m d)
    ⟨(N _ hx).1, h _ _ _ (F.push _) (fun t1 t2 t3 e1 e2 e3 => by subst e1 e2 e3; exact N.push F _)⟩

-- the tuple's slots as IsoCalendarDate has them
theorem slot_iso_getitem : Slot "datetime.IsoCalendarDate" "__getitem__" "tuple.__getitem__" :=
  .of (owner := "tuple") (n := "__getitem__") (by rw [typeLookup_type, builtinLookup_eq_fast]; kernel_rfl) (by decide +kernel) (by decide +kernel) (by decide +kernel)
    (by first | exact .inl (by decide +kernel) | exact .inr (by decide +kernel)) (by rw [isSubtype_type]; kernel_rfl)
theorem slot_iso_ne : Slot "datetime.IsoCalendarDate" "__ne__" "tuple.__ne__" :=
  .of (owner := "tuple") (n := "__ne__") (by rw [typeLookup_type, builtinLookup_eq_fast]; kernel_rfl) (by decide +kernel) (by decide +kernel) (by decide +kernel)
    (by first | exact .inl (by decide +kernel) | exact .inr (by decide +kernel)) (by rw [isSubtype_type]; kernel_rfl)
theorem sub_tuple_iso : isSubtype (.type "tuple") (.type "datetime.IsoCalendarDate") = pure false := by rw [isSubtype_type]; kernel_rfl

theorem getItem_iso {items : Array Value} {k : Int} {u : Tok} {j : Nat} {z : Value} {n : Nat} {Q : Value → Shared → Prop} (ht : s.heap.get? x = some { cls := .type "datetime.IsoCalendarDate", data := .seq items n })
    (hlo : -(2 ^ 63) ≤ k) (hhi : k < 2 ^ 63) (hj : seqIndex? k items.size = some j) (hx : items[j]? = some z) (h : Q z s) : wpAny (model prog w) A (getItem (.ref x) (.int k u)) Q E s := by
  have hT : s.TypeIs (.ref x) "datetime.IsoCalendarDate" := ⟨_, ht, rfl⟩
  unfold getItem
  try with_reducible refine wpAny_holding ?_
  first | refine wpAny_bind (wpAny_pure ?_) | skip
  refine wpAny_bind (wpAny_sequenceKey hT (by decide) ?_)
  refine wpAny_bind (wpAny_callSpecial?_slot (name := Str.ofString "__getitem__") hT slot_iso_getitem
    (wpAny_call_entry slot_iso_getitem hT entry_tuple_getitem ?_ (args_tuple_getitem _ _)))
  show wpAny _ _ (Builtin.Tuple.tupleItemsOf (.ref x) >>= _) _ _ s
  unfold Builtin.Tuple.tupleItemsOf
  refine wpAny_bind (wpAny_bind (wpAny_seqItems ht rfl (wpAny_pure ?_)))
  refine wpAny_bind (wpAny_typeOf (typeIs_int s k u) ?_)
  rw [if_neg (by decide)]
  refine wpAny_bind (wpAny_specialOf (T := "int") (typeIs_int s k u) int_index ?_)
  rw [if_neg (by simp)]
  refine wpAny_bind (wpAny_of_eq (a := k) rfl ?_)
  rw [if_neg (by simp only [Bool.or_eq_true, decide_eq_true_eq]; omega)]
  simp only [hj, Option.bind_some, hx]
  exact wpAny_pure ⟨_, rfl, wpAny_pure h⟩
theorem item_iso {value slice : Expr} {items : List Value} {k : Int} {u : Tok} {j : Nat} {z : Value} {n : Nat} {Q : Value → Shared → Prop} (ht : s.heap.get? x = some { cls := .type "datetime.IsoCalendarDate", data := .seq items.toArray n })
    (hlo : -(2 ^ 63) ≤ k) (hhi : k < 2 ^ 63) (hj : seqIndex? k items.length = some j) (hx : items[j]? = some z) (h : Q z s)
    (hs : subscripted slice false (.ref x) (.int k u) = operate [.ref x, .int k u] (getItem (.ref x) (.int k u)) := by with_unfolding_all rfl) :
    wpAny (model prog w) A (subscriptTail value slice (.ref x) (.int k u)) Q E s :=
  tail_any ⟨_, ht, rfl⟩ slot_iso_getitem.lookup (getItem_iso ht hlo hhi (by simpa using hj) (by simpa using hx) h) hs

theorem left_room {M : Model} {a b : Value} {Ta Tb id : String} {op : CmpOp} {Q : Value → Shared → Prop} (ha : s.TypeIs a Ta) (hb : s.TypeIs b Tb)
    (hne : (Value.type Ta != Value.type Tb) = true) (hsub : isSubtype (.type Tb) (.type Ta) = pure false) (h : Slot Ta (cmpInfo op).2.1 id)
    (hc : wpAny M A (call (.builtin id) [a, b]) (fun v s' => v ≠ .notImplemented ∧ Q v s') E s)
    (hu : A.units < cLine) : wpAny M A (richCompare op a b) Q E s := by
  rcases hi : cmpInfo op with ⟨sym, f, r⟩
  rw [hi] at h
  simp only [richCompare, hi, ha.oneThing_none]
  try with_reducible refine wpAny_holding ?_
  refine wpAny_bind (wpAny_cRoomFor_or (.inr hu) ?_)
  refine wpAny_bind (wpAny_typeOf ha (wpAny_bind (wpAny_typeOf hb ?_)))
  simp only [hne, if_true]
  refine wpAny_bind (wpAny_of_eq hsub ?_)
  simp only [Bool.false_eq_true, if_false]
  exact wpAny_bind (wpAny_tryCompare_slot ha h (wpAny_mono hc (fun v s' h' => ⟨h'.1, wpAny_pure h'.2⟩) fun _ _ h' => h'))
set_option maxHeartbeats 4000000 in
theorem iso_ne_meets (l b : Addr) (i j k i' j' k' : Int) (ti tj tk ti' tj' tk' : Tok) (n n' : Nat) :
    Meets (Builtin.«tuple.__ne__» ⟨[.ref l, .ref b], []⟩)
      (fun A R s => s.heap.get? l = some (isoObj i j k ti tj tk n) ∧ s.heap.get? b = some { cls := .type "tuple", data := .seq #[.int i' ti', .int j' tj', .int k' tk'] n' } ∧
        R (.ok (.ret (.bool (!(i == i' && j == j' && k == k'))))) s) :=
  .of_wp fun prog w A R s h => by
    obtain ⟨hp, g, dd, tk0, os⟩ := s
    obtain ⟨hl, hb, hR⟩ := h
    have f1 : isSubtype (.type "tuple") (.type "tuple") = pure true := by rw [isSubtype_type]; kernel_rfl
    have hT : (⟨hp, g, dd, tk0, os⟩ : Shared).TypeIs (.ref b) "tuple" := ⟨_, hb, rfl⟩
    have hT2 : (⟨hp, g, dd, tk0, os⟩ : Shared).TypeIs (.ref l) "datetime.IsoCalendarDate" := ⟨_, hl, rfl⟩
    repeat (any_goals (first | assumption | with_reducible refine wpAny_eqBool_int ?_ | wp_step | with_reducible refine wpAny_ite_split (fun hx => ?_) (fun hx => ?_)))
    all_goals (refine ⟨_, rfl, ?_⟩)
    all_goals (simp only [Bool.not_eq_true', Bool.not_eq_true] at *)
    all_goals first
      | (simp_all; done)
      | (have e2 : Builtin.Tuple.tupleCompareSizes CmpOp.NotEq 3 3 = Value.bool false := rfl
         simp_all)
theorem ne_iso {Q : Value → Shared → Prop} (N : News h₀ L s.heap news) (hx : (x, isoObj i j k ti tj tk n) ∈ news) (hb : (b, ({ cls := .type "tuple", data := .seq #[.int i' ti', .int j' tj', .int k' tk'] n' } : Obj)) ∈ news)
    (hu : A.units < cLine) (h : Q (.bool (!(i == i' && j == j' && k == k'))) s) : wpAny (model prog w) A (compareOp .NotEq (.ref x) (.ref b)) Q E s :=
  left_room (op := .NotEq) ⟨_, (N _ hx).1, rfl⟩ ⟨_, (N _ hb).1, rfl⟩ (by decide) sub_tuple_iso slot_iso_ne
    (call_meets slot_iso_ne ⟨_, (N _ hx).1, rfl⟩ PySem.F.entry_tuple_ne (PySem.F.args_tuple_ne_2 _ _) (iso_ne_meets x b i j k i' j' k' ti tj tk ti' tj' tk' n n')
      ⟨(N _ hx).1, (N _ hb).1, show Value.bool _ ≠ Value.notImplemented ∧ Q _ s from ⟨(fun e => nomatch e), h⟩⟩) hu
end
end Mine

namespace Mine
open PySem PySem.Builtin PySem.Builtin._datetime PySem.Builtin.Time
/-- the day N lies in the ISO year y, its week w, its day d -/
def IsoIs (n y w d : Int) : Prop := jan y ≤ n - n % 7 + 3 ∧ n - n % 7 + 3 < jan (y + 1) ∧ w = (n - n % 7 + 3 - jan y) / 7 + 1 ∧ d = n % 7 + 1
theorem tleap (y : Int) : timeIsLeap y = leap y := by
  unfold timeIsLeap leap
  try rfl
theorem dim_is {y m : Int} (h1 : 1 ≤ m) (h2 : m ≤ 12) : daysInMonth y m = dim y m := by
  unfold daysInMonth dim
  rw [tleap]
  rcases twelve h1 h2 with h | h | h | h | h | h | h | h | h | h | h | h <;> subst h <;> simp <;> split <;> simp_all
theorem ord_is {y m d : Int} (h1 : 1 ≤ m) (h2 : m ≤ 12) : toOrdinal y m d = dayno y m d - 1721425 := by
  unfold toOrdinal timeDaysBefore dayno jan adj
  rw [tleap]
  cases leap y <;> rcases twelve h1 h2 with h | h | h | h | h | h | h | h | h | h | h | h <;> subst h <;> simp <;> omega
theorem w1_is (y : Int) : isoWeek1Monday y = if jan y % 7 > 3 then jan y - 1721425 - jan y % 7 + 7 else jan y - 1721425 - jan y % 7 := by
  have e : toOrdinal y 1 1 = jan y - 1721425 := by
    rw [ord_is (by decide) (by decide)]; unfold dayno adj; simp
  unfold isoWeek1Monday weekdayOf
  simp only [e]
  have h : (jan y - 1721425 + 6) % 7 = jan y % 7 := by omega
  rw [h]
theorem valid_of {n y m d : Int} (h : GregIs n y m d) (hy : 1 ≤ y ∧ y ≤ 9999) : Valid y m d ∧ Fits y ∧ Fits m ∧ Fits d := by
  obtain ⟨hY, h1, h2, h3, h4, h5⟩ := h
  have hd : dim y m ≤ 31 := by unfold dim; split <;> split <;> omega
  refine ⟨⟨hy, ⟨h1, h2⟩, h3, by rw [dim_is h1 h2]; exact h4⟩, by omega, by omega, by omega⟩
theorem iso_of {n y m d : Int} (h : GregIs n y m d) : IsoIs n (isoCalendarOf y m d).1 (isoCalendarOf y m d).2.1 (isoCalendarOf y m d).2.2 := by
  obtain ⟨⟨hY1, hY2⟩, h1, h2, h3, h4, h5⟩ := h
  have l1 := leap_len y
  have l2 := leap_len (y - 1)
  have l3 := leap_len (y + 1)
  rw [Int.sub_add_cancel] at l2
  have b1 := b2i_le (leap y)
  have b2 := b2i_le (leap (y - 1))
  have b3 := b2i_le (leap (y + 1))
  have ew := w1_is y
  have ew1 := w1_is (y - 1)
  have ew2 := w1_is (y + 1)
  have eo : toOrdinal y m d = n - 1721425 := by rw [ord_is h1 h2, h5]
  unfold isoCalendarOf
  simp only [eo, Int.fdiv_eq_ediv_of_nonneg _ (show (0 : Int) ≤ 7 by decide), Int.fmod_eq_emod_of_nonneg _ (show (0 : Int) ≤ 7 by decide)]
  generalize isoWeek1Monday y = W at *
  generalize isoWeek1Monday (y - 1) = W1 at *
  generalize isoWeek1Monday (y + 1) = W2 at *
  generalize hJ2 : jan (y + 1 + 1) = J2 at *
  generalize hJ1 : jan (y + 1) = J1 at *
  generalize hJ : jan y = J at *
  generalize hJ0 : jan (y - 1) = J0 at *
  generalize b2i (leap y) = B at *
  generalize b2i (leap (y - 1)) = B0 at *
  generalize b2i (leap (y + 1)) = B1 at *
  by_cases c1 : (n - 1721425 - W) / 7 < 0
  · rw [if_pos c1]
    unfold IsoIs
    simp only [Int.sub_add_cancel]
    rw [hJ0, hJ]
    split at ew <;> split at ew1 <;> omega
  · rw [if_neg c1]
    by_cases c2 : (n - 1721425 - W) / 7 ≥ 52 ∧ n - 1721425 ≥ W2
    · rw [if_pos (by simpa using c2)]
      unfold IsoIs
      simp only
      rw [hJ1, hJ2]
      split at ew <;> split at ew2 <;> omega
    · rw [if_neg (by simpa using c2)]
      unfold IsoIs
      simp only
      rw [hJ, hJ1]
      split at ew <;> split at ew2 <;> omega
theorem jan_mono {a b : Int} (h : a ≤ b) : jan a ≤ jan b := by unfold jan; omega
theorem year_unique {t a b : Int} (h1 : jan a ≤ t) (h2 : t < jan (a + 1)) (h3 : jan b ≤ t) (h4 : t < jan (b + 1)) : a = b := by
  rcases Int.lt_trichotomy a b with c | c | c
  · have := jan_mono (show a + 1 ≤ b by omega); omega
  · exact c
  · have := jan_mono (show b + 1 ≤ a by omega); omega
theorem iso_unique {n y w d y' w' d' : Int} (h : IsoIs n y w d) (h' : IsoIs n y' w' d') : y = y' ∧ w = w' ∧ d = d' := by
  obtain ⟨a1, a2, a3, a4⟩ := h
  obtain ⟨b1, b2, b3, b4⟩ := h'
  have e := year_unique a1 a2 b1 b2
  subst e
  exact ⟨rfl, by omega, by omega⟩
theorem isoJd_is {n y w d : Int} (h : IsoIs n y w d) : isoJd y w d = n := by
  obtain ⟨a1, a2, a3, a4⟩ := h
  unfold isoJd; omega
theorem iso_bounds {n y w d : Int} (h : IsoIs n y w d) : 1 ≤ w ∧ w ≤ 53 ∧ 1 ≤ d ∧ d ≤ 7 := by
  obtain ⟨a1, a2, a3, a4⟩ := h
  have l := leap_len y
  have b := b2i_le (leap y)
  omega
theorem jan_400 (y : Int) : jan (y + 400) = jan y + 146097 := by unfold jan; omega
theorem iso_shift {n y w d : Int} (h : IsoIs n y w d) : IsoIs (n + 146097) (y + 400) w d := by
  obtain ⟨a1, a2, a3, a4⟩ := h
  have e1 := jan_400 y
  have e2 := jan_400 (y + 1)
  rw [show y + 1 + 400 = y + 400 + 1 by omega] at e2
  unfold IsoIs
  rw [e1, e2]
  omega
theorem year_in {n y m d : Int} (h : GregIs n y m d) (hn : 1721426 ≤ n ∧ n < 5373485) : 1 ≤ y ∧ y ≤ 9999 := by
  obtain ⟨⟨h1, h2⟩, _⟩ := h
  have e1 : jan 1 = 1721426 := by decide
  have e2 : jan 10000 = 5373485 := by decide
  constructor
  · rcases Int.lt_or_le y 1 with c | c
    · have := jan_mono (show y + 1 ≤ 1 by omega); omega
    · exact c
  · rcases Int.lt_or_le 9999 y with c | c
    · have := jan_mono (show 10000 ≤ y by omega); omega
    · exact c
theorem iso_year {n y w d : Int} (h : IsoIs n y w d) (hn : 1721426 ≤ n ∧ n < 5373485) : (0 ≤ y ∧ y ≤ 10000) ∧ (1 ≤ w ∧ w ≤ 53) ∧ 1 ≤ d ∧ d ≤ 7 := by
  have hb := iso_bounds h
  obtain ⟨h1, h2, _⟩ := h
  have e1 : jan 0 = 1721060 := by decide
  have e2 : jan 10001 = 5373851 := by decide
  refine ⟨⟨?_, ?_⟩, ⟨hb.1, hb.2.1⟩, hb.2.2⟩
  · rcases Int.lt_or_le y 0 with c | c
    · have := jan_mono (show y + 1 ≤ 0 by omega); omega
    · exact c
  · rcases Int.lt_or_le 10000 y with c | c
    · have := jan_mono (show 10001 ≤ y by omega); omega
    · exact c
theorem jan_low {y : Int} (h : 1 ≤ y ∧ y ≤ 9598) : 1721426 ≤ jan y ∧ jan y ≤ 5226658 := by
  have e1 : jan 1 = 1721426 := by decide
  have e2 : jan 9598 = 5226658 := by decide
  have h1 := jan_mono h.1
  have h2 := jan_mono h.2
  omega
end Mine

namespace Mine
open PySem PySem.W PySem.Calls PyProof.Rows
/-- rest and year while multiples of c are taken off: jv taken, after i turns -/
def R01 (news : List (Addr × Obj)) (c dy r₀ y₀ : Int) (i : Nat) (m : Str → Option Value) (nx : List (Addr × Obj)) : Prop :=
  nx = news ∧ ∃ r y jv tr ty, m (Str.ofString "rest") = some (.int r tr) ∧ m (Str.ofString "year") = some (.int y ty) ∧ 0 ≤ jv ∧ jv ≤ (i : Int) ∧ r = r₀ - c * jv ∧ y = y₀ + dy * jv ∧ 0 ≤ r ∧ (jv < (i : Int) → r < c)
section
variable {prog : Program} {w : World} {A : Around} {E : Value → Shared → Prop} {s : Shared} {env : Env} {h₀ : Heap} {x : Str} {body : List Stmt} {Q : Flow → Shared → Prop}
theorem range_invN {r : Addr} {a₀ b₀ : Int} {t₀ u₀ v₀ : Tok} {n : Nat} {m₀ : Str → Option Value} {news : List (Addr × Obj)} (R : Nat → (Str → Option Value) → List (Addr × Obj) → Prop)
    (hh : A.handled = none) (hr : IsRange s.heap r a₀ b₀ 1 t₀ u₀ v₀) (hsmall : Builtin.Range.small a₀ b₀ 1 = true) (hn : Builtin.Range.rangeSize a₀ b₀ 1 = (n : Int)) (F : Fr h₀ env.locals s.heap m₀) (N : News h₀ env.locals s.heap news) (h0 : R 0 m₀ news)
    (turn : ∀ (i : Nat) t m₁ nx h tk own, i < n → R i m₁ nx → Fr h₀ env.locals h (fun y => if y = x then some (.int (a₀ + i) t) else m₁ y) → News h₀ env.locals h (nx ++ own) →
      wpAny (model prog w) A (execs body env) (InvPostN h₀ env.locals (R (i + 1)) own (news.map (·.1)) { s with heap := h, toks := tk } Q) E { s with heap := h, toks := tk })
    (done : ∀ m₁ nx h tk, R n m₁ nx → Fr h₀ env.locals h m₁ → News h₀ env.locals h nx → Q .next { s with heap := h, toks := tk }) :
    wpAny (model prog w) A (pyIter (.ref r)) (fun it s₂ => LoopAtV prog w A h₀ env x body Q E it s₂) E s := by
  refine wpAny_pyIter_range hr hsmall ?_
  have W : Walks prog w A s.heap.objs.size [s.heap.objs.size] [s.heap.objs.size] n (fun i v => i < n ∧ ∃ t, v = .int (a₀ + i * 1) t)
      (fun i h => IsRangeIter h s.heap.objs.size (a₀ + (i : Nat) * 1) ((n : Int) - (i : Nat)) 1) := (Walks.range hh _ a₀ 1 n).bound
  refine loop_invN (news := news) R W ?_ ?_ ?_ ?_ (by show IsRangeIter _ _ _ _ _; rw [hn]; simpa using Heap.get?_push_size _ rfl) (F.push _) (fun p hp => ⟨Heap.get?_push_of_some _ (N p hp).1, (N p hp).2⟩) h0 ?_ ?_
  · intro hm
    exact absurd F.ns.lt ((List.mem_singleton.mp hm) ▸ Nat.lt_irrefl _)
  · intro b hb
    rw [List.mem_singleton.mp hb]
    exact next_is_new F
  · intro p hp hI
    exact absurd (Heap.lt_size (N p hp).1) ((List.mem_singleton.mp hI) ▸ Nat.lt_irrefl _)
  · intro p hp hI
    exact absurd (Heap.lt_size (N p hp).1) ((List.mem_singleton.mp hI) ▸ Nat.lt_irrefl _)
  · rintro i v m₁ nx h tk own hi ⟨_, t, rfl⟩ _ _ hR F₁ N₁
    rw [Int.mul_one] at F₁
    exact turn i t m₁ nx h tk own hi hR F₁ N₁
  · intro m₁ nx h tk hR F₁ N₁
    exact done m₁ nx h tk hR F₁ N₁
theorem map2 {m₁ : Str → Option Value} {a b : Str} {u v : Value} (h1 : m₁ a = some u) (h2 : m₁ b = some v) : m₁ = fun y => if y = a then some u else if y = b then some v else m₁ y := by
  funext y
  by_cases c1 : y = a
  · rw [if_pos c1, c1, h1]
  · rw [if_neg c1]
    by_cases c2 : y = b
    · rw [if_pos c2, c2, h2]
    · rw [if_neg c2]
theorem loop01 (c dy : Int) {r : Addr} {a₀ b₀ r₀ y₀ : Int} {t₀ u₀ v₀ tr₀ ty₀ : Tok} (n : Nat) {m₀ : Str → Option Value} {news : List (Addr × Obj)}
    (hh : A.handled = none) (hr : IsRange s.heap r a₀ b₀ 1 t₀ u₀ v₀) (ha : a₀ = 0) (hb : b₀ = (n : Int)) (hn : n < 1000) (F : Fr h₀ env.locals s.heap m₀) (N : News h₀ env.locals s.heap news)
    (hrest : m₀ (Str.ofString "rest") = some (.int r₀ tr₀)) (hyear : m₀ (Str.ofString "year") = some (.int y₀ ty₀)) (h0 : 0 ≤ r₀)
    (turn : ∀ (i : Nat) (k rv yv jv : Int) t tr ty (m₁ : Str → Option Value) h tk own, i < n → 0 ≤ jv → jv ≤ (i : Int) → rv = r₀ - c * jv → yv = y₀ + dy * jv → 0 ≤ rv → (jv < (i : Int) → rv < c) →
      Fr h₀ env.locals h (fun y => if y = x then some (.int k t) else if y = Str.ofString "rest" then some (.int rv tr) else if y = Str.ofString "year" then some (.int yv ty) else m₁ y) → News h₀ env.locals h (news ++ own) →
      wpAny (model prog w) A (execs body env) (InvPostN h₀ env.locals (R01 news c dy r₀ y₀ (i + 1)) own (news.map (·.1)) { s with heap := h, toks := tk } Q) E { s with heap := h, toks := tk })
    (done : ∀ (rv yv jv : Int) tr ty (m₁ : Str → Option Value) h tk, 0 ≤ jv → jv ≤ (n : Int) → rv = r₀ - c * jv → yv = y₀ + dy * jv → 0 ≤ rv → (jv < (n : Int) → rv < c) →
      Fr h₀ env.locals h (fun y => if y = Str.ofString "rest" then some (.int rv tr) else if y = Str.ofString "year" then some (.int yv ty) else m₁ y) → News h₀ env.locals h news → Q .next { s with heap := h, toks := tk }) :
    wpAny (model prog w) A (pyIter (.ref r)) (fun it s₂ => LoopAtV prog w A h₀ env x body Q E it s₂) E s := by
  subst ha
  refine range_invN (n := n) (R01 news c dy r₀ y₀) hh hr (small_one (by omega) (by omega) (by omega) (by omega)) (by rw [rangeSize_nat, hb]; omega) F N ⟨rfl, r₀, y₀, 0, tr₀, ty₀, hrest, hyear, by omega, by omega, by simp, by simp, h0, fun h => absurd h (by simp)⟩ ?_ ?_
  · rintro i t m₁ nx h tk own hi ⟨rfl, rv, yv, jv, tr, ty, h1, h2, h3, h4, h5, h6, h7, h8⟩ F₁ N₁
    rw [map2 h1 h2] at F₁
    exact turn i _ rv yv jv t tr ty m₁ h tk own hi h3 h4 h5 h6 h7 h8 F₁ N₁
  · rintro m₁ nx h tk ⟨rfl, rv, yv, jv, tr, ty, h1, h2, h3, h4, h5, h6, h7, h8⟩ F₁ N₁
    rw [map2 h1 h2] at F₁
    exact done rv yv jv tr ty m₁ h tk h3 h4 h5 h6 h7 h8 F₁ N₁
end
end Mine

namespace Mine
open PySem PySem.W PySem.Calls PyProof.Rows
def sizesL (b : Bool) : List Int := [31, if b then 29 else 28, 31, 30, 31, 30, 31, 31, 30, 31, 30, 31]
theorem sizes_sum (b : Bool) : (sizesL b).sum = 365 + b2i b := by cases b <;> decide
/-- the month's loop: the month i + 1 has sz days, r of them and more lie behind -/
theorem greg_law {n y r sz r₀ : Int} {i : Nat} (hY : YearIs n y) (h0 : r₀ = n - jan y) (hi : (sizesL (leap y))[i]? = some sz) (hr : r = r₀ - ((sizesL (leap y)).take i).sum) (hr0 : 0 ≤ r) (hlt : r < sz) :
    GregIs n y (1 + (i : Int)) (r + 1) := by
  have hi12 : i < 12 := by
    rcases Nat.lt_or_ge i 12 with c | c
    · exact c
    · rw [List.getElem?_eq_none (by simp [sizesL]; omega)] at hi; cases hi
  refine ⟨hY, by omega, by omega, by omega, ?_⟩
  unfold dim dayno adj
  cases hb : leap y <;> rw [hb] at hi hr <;> simp only [sizesL] at hi hr <;>
    (rcases (show i = 0 ∨ i = 1 ∨ i = 2 ∨ i = 3 ∨ i = 4 ∨ i = 5 ∨ i = 6 ∨ i = 7 ∨ i = 8 ∨ i = 9 ∨ i = 10 ∨ i = 11 by omega) with h | h | h | h | h | h | h | h | h | h | h | h <;> subst h <;> simp at hi hr ⊢ <;> omega)
section
variable {prog : Program} {w : World} {A : Around} {E : Value → Shared → Prop} {s : Shared} {env : Env} {h₀ : Heap} {x : Str} {body : List Stmt} {Q : Flow → Shared → Prop}
def RM (news : List (Addr × Obj)) (ns : List Int) (r₀ y₀ : Int) (i : Nat) (m : Str → Option Value) (nx : List (Addr × Obj)) : Prop :=
  nx = news ∧ ∃ r mo tr tm ty, m (Str.ofString "rest") = some (.int r tr) ∧ m (Str.ofString "month") = some (.int mo tm) ∧ m (Str.ofString "year") = some (.int y₀ ty) ∧ mo = 1 + (i : Int) ∧ r = r₀ - (ns.take i).sum ∧ 0 ≤ r
theorem map3 {m₁ : Str → Option Value} {a b c : Str} {u v z : Value} (h1 : m₁ a = some u) (h2 : m₁ b = some v) (h3 : m₁ c = some z) : m₁ = fun y => if y = a then some u else if y = b then some v else if y = c then some z else m₁ y := by
  funext y
  by_cases c1 : y = a
  · rw [if_pos c1, c1, h1]
  · rw [if_neg c1]
    by_cases c2 : y = b
    · rw [if_pos c2, c2, h2]
    · rw [if_neg c2]
      by_cases c3 : y = c
      · rw [if_pos c3, c3, h3]
      · rw [if_neg c3]
theorem loopM {l : Addr} {vs : List Value} {ns : List Int} {nn : Nat} {r₀ y₀ : Int} {tr₀ tm₀ ty₀ : Tok} {m₀ : Str → Option Value} {news : List (Addr × Obj)}
    (hh : A.handled = none) (hl : (l, listOf vs.toArray nn) ∈ news) (hi : IntsAre vs ns) (F : Fr h₀ env.locals s.heap m₀) (N : News h₀ env.locals s.heap news)
    (h1 : m₀ (Str.ofString "rest") = some (.int r₀ tr₀)) (h2 : m₀ (Str.ofString "month") = some (.int 1 tm₀)) (h3 : m₀ (Str.ofString "year") = some (.int y₀ ty₀)) (h0 : 0 ≤ r₀) (hs : r₀ < ns.sum)
    (turn : ∀ (i : Nat) (sz r mo : Int) t tr tm ty (m₁ : Str → Option Value) h tk own, ns[i]? = some sz → mo = 1 + (i : Int) → r = r₀ - (ns.take i).sum → 0 ≤ r →
      Fr h₀ env.locals h (fun y => if y = x then some (.int sz t) else if y = Str.ofString "rest" then some (.int r tr) else if y = Str.ofString "month" then some (.int mo tm) else if y = Str.ofString "year" then some (.int y₀ ty) else m₁ y) → News h₀ env.locals h (news ++ own) →
      wpAny (model prog w) A (execs body env) (InvPostN h₀ env.locals (fun m' nx => (l, listOf vs.toArray nn) ∈ nx ∧ RM news ns r₀ y₀ (i + 1) m' nx) own (news.map (·.1)) { s with heap := h, toks := tk } Q) E { s with heap := h, toks := tk }) :
    wpAny (model prog w) A (pyIter (.ref l)) (fun it s₂ => LoopAtV prog w A h₀ env x body Q E it s₂) E s := by
  refine iter_invNL (RM news ns r₀ y₀) hh hl hi F N ⟨rfl, r₀, 1, tr₀, tm₀, ty₀, h1, h2, h3, by simp, by simp, h0⟩ ?_ ?_
  · rintro i sz t m₁ nx h tk own hn _ _ _ ⟨rfl, r, mo, tr, tm, ty, e1, e2, e3, e4, e5, e6⟩ F₁ N₁
    rw [map3 e1 e2 e3] at F₁
    exact turn i sz r mo t tr tm ty m₁ h tk own hn e4 e5 e6 F₁ N₁
  · rintro m₁ nx h tk _ ⟨rfl, r, mo, tr, tm, ty, e1, e2, e3, e4, e5, e6⟩ F₁ N₁
    rw [List.take_length] at e5
    omega
theorem take_next {ns : List Int} {i : Nat} {sz : Int} (h : ns[i]? = some sz) : (ns.take (i + 1)).sum = (ns.take i).sum + sz := by
  rw [List.take_add_one, h]; simp [List.sum_append]
end
theorem year_law {n q j1 j2 j3 r1 r2 r3 y1 y2 y3 : Int} (hq : q = (n - 1721426) / 146097) (a1 : 0 ≤ j1) (b1 : j1 ≤ 3) (hr1 : r1 = (n - 1721426) % 146097 - 36524 * j1) (hy1 : y1 = 400 * q + 1 + 100 * j1) (p1 : 0 ≤ r1) (c1 : j1 < 3 → r1 < 36524)
    (a2 : 0 ≤ j2) (b2 : j2 ≤ 24) (hr2 : r2 = r1 - 1461 * j2) (hy2 : y2 = y1 + 4 * j2) (p2 : 0 ≤ r2) (c2 : j2 < 24 → r2 < 1461)
    (a3 : 0 ≤ j3) (b3 : j3 ≤ 3) (hr3 : r3 = r2 - 365 * j3) (hy3 : y3 = y2 + 1 * j3) (p3 : 0 ≤ r3) (c3 : j3 < 3 → r3 < 365) : YearIs n y3 ∧ r3 = n - jan y3 := by
  have hn : n = 1721426 + 146097 * q + (n - 1721426) % 146097 := by omega
  have hm : (n - 1721426) % 146097 < 146097 := by omega
  generalize (n - 1721426) % 146097 = r0 at *
  have e1 : (y3 - 1) / 4 = 100 * q + 25 * j1 + j2 := by omega
  have e2 : (y3 - 1) / 100 = 4 * q + j1 := by omega
  have e3 : (y3 - 1) / 400 = q := by omega
  have hj : jan y3 = 1721426 + 146097 * q + 36524 * j1 + 1461 * j2 + 365 * j3 := by unfold jan; rw [e1, e2, e3]; omega
  have hlen := leap_len y3
  have hb := b2i_le (leap y3)
  have e : leap y3 = true ↔ (y3 % 4 = 0 ∧ (y3 % 100 ≠ 0 ∨ y3 % 400 = 0)) := by simp [leap]
  have h1 : leap y3 = true → b2i (leap y3) = 1 := fun h => by rw [h]; rfl
  have hlt : r3 < 365 + b2i (leap y3) := by
    clear hlen hj e1 e2 e3 hn
    rcases Int.lt_or_eq_of_le b3 with d3 | d3
    · have := c3 d3; omega
    · subst d3
      rcases Int.lt_or_eq_of_le b2 with d2 | d2
      · have := c2 d2
        have := h1 (e.mpr ⟨by omega, .inl (by omega)⟩)
        omega
      · subst d2
        rcases Int.lt_or_eq_of_le b1 with d1 | d1
        · have := c1 d1; omega
        · subst d1
          have := h1 (e.mpr ⟨by omega, .inr (by omega)⟩)
          omega
  clear c1 c2 c3 h1 e
  refine ⟨⟨by omega, by omega⟩, by omega⟩
end Mine

namespace Mine
open PySem PySem.Builtin PySem.Builtin._datetime PySem.Builtin.Time
theorem year_range30 {n r : Int} (hn : -(2 ^ 38) < n ∧ n < 2 ^ 38) (h : YearIs n r) : -(2 ^ 30) < r ∧ r < 2 ^ 30 := by
  obtain ⟨h1, h2⟩ := h
  unfold jan at h1 h2
  omega
theorem greg_month {n y m d : Int} (h : GregIs n y m d) : m = ((n - jan y + (if n - jan y < 58 + b2i (leap y) then 0 else if leap y = true then 1 else 2)) * 12 + 373) / 367 := by
  obtain ⟨_, h1, h2, h3, h4, h5⟩ := h
  unfold dayno adj at h5
  unfold dim at h4
  unfold b2i
  generalize jan y = j at *
  cases hb : leap y <;> rw [hb] at h4 h5 <;> simp only [Bool.false_eq_true, if_false, if_true] at h4 h5 ⊢ <;>
    (rcases twelve h1 h2 with h | h | h | h | h | h | h | h | h | h | h | h <;> subst h <;> simp at h4 h5 ⊢ <;> split <;> omega)
theorem greg_unique {n y m d y' m' d' : Int} (h : GregIs n y m d) (h' : GregIs n y' m' d') : y = y' ∧ m = m' ∧ d = d' := by
  have e := year_unique h.1.1 h.1.2 h'.1.1 h'.1.2
  subst e
  have e : m = m' := (greg_month h).trans (greg_month h').symm
  subst e
  refine ⟨rfl, rfl, ?_⟩
  have h1 := h.2.2.2.2.2
  have h2 := h'.2.2.2.2.2
  unfold dayno at h1 h2
  omega
theorem iso_week {y w d i : Int} (hi : i = wk y) (hw : 1 ≤ w ∧ w ≤ i) (hd : 1 ≤ d ∧ d ≤ 7) : IsoIs (isoJd y w d) y w d := by
  have hl := leap_len y
  unfold wk at hi
  unfold IsoIs isoJd
  rw [hl]
  generalize jan y = j at *
  unfold b2i
  cases hb : leap y <;> rw [hb] at hi <;> simp only [Bool.false_eq_true, and_false, or_false, and_true, if_false, if_true] at hi ⊢ <;> split at hi <;> omega
theorem iso_first {y w d f : Int} (hf : f = jan y + 3) : isoJd y w d = f - f % 7 + 7 * (w - 1) + d - 1 := by
  unfold isoJd; omega
theorem isoJd_range {y w d : Int} (hy : -(2 ^ 27) < y ∧ y < 2 ^ 27) (hw : 0 < w ∧ w < 100) (hd : 0 < d ∧ d < 100) : -(2 ^ 36) < isoJd y w d ∧ isoJd y w d < 2 ^ 36 := by
  unfold isoJd jan; omega
theorem jan_range {y : Int} (hy : -(2 ^ 27) < y ∧ y < 2 ^ 27) : -(2 ^ 36) + 1000000 < jan y ∧ jan y < 2 ^ 36 - 1000000 := by
  unfold jan; omega
theorem greg_range {n y m d : Int} (h : GregIs n y m d) (hy : 1 ≤ y ∧ y ≤ 9999) : 1721426 ≤ n ∧ n < 5373485 := by
  obtain ⟨⟨h1, h2⟩, _⟩ := h
  have e1 : jan 1 = 1721426 := by decide
  have e2 : jan 10000 = 5373485 := by decide
  have h3 := jan_mono hy.1
  have h4 := jan_mono (show y + 1 ≤ 10000 by omega)
  omega
theorem greg_fits {n y m d : Int} (h : GregIs n y m d) : Fits m ∧ Fits d ∧ Fits (dim y m + 1) := by
  obtain ⟨_, h1, h2, h3, h4, _⟩ := h
  have hd : dim y m ≤ 31 := by unfold dim; split <;> split <;> omega
  exact ⟨by omega, by omega, by omega⟩
theorem nv_zero {y m : Int} : ¬ Valid y m 0 := fun h => by have := h.2.2.1; omega
theorem nv_last {y m : Int} : ¬ Valid y m (dim y m + 1) := fun h => by
  have h1 := h.2.1
  have h2 := h.2.2.2
  rw [dim_is h1.1 h1.2] at h2
  omega
theorem nv_year {y m d : Int} (hy : ¬ 1 ≤ y ∨ ¬ y ≤ 9999) : ¬ Valid y m d := fun h => by have := h.1; omega
theorem sizes_at {y m k : Int} (hk : k = m - 1) (h1 : 1 ≤ m) (h2 : m ≤ 12) : (sizesL (leap y))[k.toNat]? = some (dim y m) := by
  subst hk
  unfold dim sizesL
  rcases twelve h1 h2 with h | h | h | h | h | h | h | h | h | h | h | h <;> subst h <;> rfl
theorem thursdays {y f b : Int} (hf0 : 0 ≤ f) (hf : f ≤ (3 - jan y) % 7) (he : (jan y + f) % 7 = 3) (hb : b = 365 + b2i (leap y)) : (b - f - 1) / 7 + 1 = wk y ∧ 52 ≤ (b - f - 1) / 7 + 1 ∧ (b - f - 1) / 7 + 1 ≤ 53 := by
  unfold wk
  subst hb
  generalize jan y = j at *
  unfold b2i
  cases hl : leap y <;> simp only [Bool.false_eq_true, and_false, or_false, and_true, if_false, if_true] <;> split <;> omega
theorem pow8 : (10 : Int) ^ Int.toNat 8 = 100000000 := by decide
theorem fm8 (n : Int) : -(2 ^ 27) < n.fmod (10 ^ Int.toNat 8) ∧ n.fmod (10 ^ Int.toNat 8) < 2 ^ 27 := by
  rw [pow8, Int.fmod_eq_emod_of_nonneg _ (by decide)]; omega
theorem fm8n (n : Int) : -(2 ^ 27) < -(n.fmod (10 ^ Int.toNat 8)) ∧ -(n.fmod (10 ^ Int.toNat 8)) < 2 ^ 27 := by
  rw [pow8, Int.fmod_eq_emod_of_nonneg _ (by decide)]; omega
theorem iso_told {i j y w d y' w' d' k : Int} (h : IsoIs i y' w' d') (e1 : i = j) (e2 : j = isoJd y w d) (hk : k = wk y) (hw : 1 ≤ w ∧ w ≤ k) (hd : 1 ≤ d ∧ d ≤ 7) : y' = y ∧ w' = w ∧ d' = d := by
  subst e1 e2
  exact iso_unique h (iso_week hk hw hd)
end Mine

set_option maxRecDepth 100000
namespace Mine
open PySem PySem.W PySem.Calls PyProof.Rows PySem.Builtin PySem.Builtin._datetime
theorem year_words {y : Int} (h : Fits y) : ((s!"year {y} is out of range" : String) : Str).length ≤ sizeLine := by
  have h1 := int_text_length_le10 (a := y) (k := 10) (by decide) (by omega)
  show (Str.ofString (toString "year " ++ toString y ++ toString " is out of range")).length ≤ sizeLine
  rw [ofString_len, String.length_append, String.length_append]
  have e1 : (toString "year ").length = 5 := rfl
  have e2 : (toString " is out of range").length = 16 := rfl
  rw [e1, e2]
  unfold sizeLine
  omega
theorem check_bad {M : Model} {A : Around} {E : Value → Shared → Prop} {s : Shared} {y m d : Int} {Q : Unit → Shared → Prop} (hv : ¬ Valid y m d) (hf : Fits y) (hh : A.handled = none)
    (h : ∀ h' tk e, Heap.NewExc s.heap h' e "ValueError" → E (.ref e) { s with heap := h', toks := tk }) : wpAny M A (checkDate y m d) Q E s := by
  unfold checkDate
  obtain ⟨hp, g, dd, tk, os⟩ := s
  wp_walk
  refine wpAny_ite_split (fun hx => ?_) (fun hx => ?_)
  · wp_walk
    exact wpAny_raiseErrorMade plainExc_ValueError hh h (year_words hf)
  · wp_walk
    refine wpAny_ite_split (fun hx2 => ?_) (fun hx2 => ?_)
    · wp_walk
      exact wpAny_raiseErrorWords plainExc_ValueError hh h
    · wp_walk
      refine wpAny_ite_split (fun hx3 => ?_) (fun hx3 => ?_)
      · wp_walk
        exact wpAny_raiseErrorWords plainExc_ValueError hh h
      · exfalso
        simp only [Bool.or_eq_true, decide_eq_true_eq] at hx hx2 hx3
        exact hv ⟨by omega, by omega, by omega⟩
set_option maxHeartbeats 4000000 in
theorem date_new_bad (y m d : Int) (t u v : Tok) (hy : Fits y) (hm : Fits m) (hd : Fits d) (hv : ¬ Valid y m d) :
    Meets (Builtin.«datetime.date.__new__» ⟨[.type "datetime.date", .int y t, .int m u, .int d v], []⟩) (raisesNew "ValueError") :=
  .of_wp fun prog w A R s h => by
    obtain ⟨hp, g, dd, tk, os⟩ := s
    have f1 := sub_date_date
    have f2 := sub_date_datetime
    have h1 := h.1
    have h2 := h.2
    repeat (any_goals (first | assumption | refine cint (by assumption) ?_ | refine check_bad (by assumption) (by assumption) (by assumption) ?_ | wp_step))
theorem call_date_bad {prog : Program} {w : World} {A : Around} {E : Value → Shared → Prop} {s : Shared} {y m d : Int} {t u v : Tok} {Q : Value → Shared → Prop} (hh : A.handled = none) (hy : Fits y) (hm : Fits m) (hd : Fits d) (hv : ¬ Valid y m d)
    (h : ∀ h' tk e, Heap.NewExc s.heap h' e "ValueError" → E (.ref e) { s with heap := h', toks := tk }) :
    wpAny (model prog w) A (call (.type "datetime.date") [.int y t, .int m u, .int d v]) Q E s :=
  callType_new called_date newNe_date (typeCall_date _ _ _) (newCall_date _ _ _) (fun obj => initArgs_date obj _ _ _) entry_date_new (date_new_bad y m d t u v hy hm hd hv)
    ⟨hh, h⟩
end Mine

namespace Mine
open PySem PySem.W PySem.Calls PyProof.Rows
def Stop1 (P : Prop) : Prop := P
section
variable {prog : Program} {w : World} {A : Around} {E : Value → Shared → Prop} {s : Shared} {env : Env} {h₀ : Heap} {L : Addr} {m : Str → Option Value} {news : List (Addr × Obj)}
theorem r_range7 {Q : Value → Shared → Prop} {a b : Int} {t u v : Tok} (F : Fr h₀ L s.heap m) (N : News h₀ L s.heap news) (hab : 0 ≤ a ∧ a < 300 ∧ 300 ≤ b ∧ b < 400)
    (h : ∀ r h' tk t₁ u₁ v₁, IsRange h' r a b 7 t₁ u₁ v₁ → Fr h₀ L h' m → News h₀ L h' news → Q (.ref r) { s with heap := h', toks := tk }) :
    wpAny (model prog w) A (call (.type "range") [.int a t, .int b u, .int 7 v]) Q E s :=
  range3_rows F N (by decide) (fun h' tk t₁ u₁ v₁ R F' N' _ => h _ h' tk t₁ u₁ v₁ R F' N') (.inl (PyProof.noPylong_small (by omega)))
theorem r_list7 {Q : Value → Shared → Prop} {r : Addr} {a b : Int} {t u v : Tok} (hh : A.handled = none) (F : Fr h₀ L s.heap m) (N : News h₀ L s.heap news) (hr : IsRange s.heap r a b 7 t u v) (hab : 0 ≤ a ∧ a < 300 ∧ 300 ≤ b ∧ b < 400)
    (h : ∀ D us c h' tk, Fr h₀ L h' m → News h₀ L h' ((D, listOf (List.toArray us) c) :: news) → (us.length : Int) = (b - a - 1) / 7 + 1 → Q (.ref D) { s with heap := h', toks := tk }) :
    wpAny (model prog w) A (call (.type "list") [.ref r]) Q E s := by
  have hn : Builtin.Range.rangeSize a b 7 = ((((b - a - 1) / 7 + 1).toNat : Nat) : Int) := by
    unfold Builtin.Range.rangeSize
    rw [if_pos (by decide), if_pos (by omega)]; omega
  refine call_list_range hh hr ?_ hn (by omega) fun h' tk acc c hk hD hI => ?_
  · unfold Builtin.Range.small
    rw [hn]
    simp only [Builtin.Range.rangeFitsLong, Bool.and_eq_true, Bool.or_eq_true, decide_eq_true_eq, beq_iff_eq, show (7 : Int) > 0 by decide, if_true]
    omega
  · have hD' : h'.get? s.heap.objs.size = some (listOf (List.toArray acc.toList) c) := by
      rw [Array.toArray_toList]; exact hD
    refine h _ acc.toList c h' tk (F.keeps hk) (news_pushed F N hk hD' rfl) ?_
    rw [Array.length_toList, hI.1]; omega
theorem r_len {Q : Value → Shared → Prop} {l : Addr} {us : List Value} {c : Nat} {k : Int} (N : News h₀ L s.heap news) (hl : (l, listOf (List.toArray us) c) ∈ news) (hn : (us.length : Int) = k) (hk : k < 1000)
    (h : Q (.int k (s.toks + 1)) { s with toks := s.toks + 1 + 1 }) : wpAny (model prog w) A (call (.builtin "len") [.ref l]) Q E s := by
  have e : ((List.toArray us).size : Int) = k := by rw [List.size_toArray]; exact hn
  exact call_len_list (N.isList hl) (by omega) (by rw [e]; exact h)
def Fork (b : Bool) (T G : Prop) : Prop := (b = true → T) ∧ (b = false → G)
theorem fork_ne {a b : Int} {T G : Prop} (h1 : ¬ a = b → T) (h2 : a = b → G) : Fork (a != b) T G := ⟨fun h => h1 (by simpa using h), fun h => h2 (by simpa using h)⟩
theorem stop_while {test : Expr} {body : List Stmt} {pos : Pos} {M : Model} {Q : Flow → Shared → Prop} (h : Stop1 (wpAny M A (exec (.While test body [] pos) env) Q E s)) : wpAny M A (exec (.While test body [] pos) env) Q E s := h
def JW (news : List (Addr × Obj)) (y : Int) (n : Nat) (m : Str → Option Value) (nx : List (Addr × Obj)) : Prop :=
  nx = news ∧ ∃ k t ty, m (Str.ofString "first") = some (.int k t) ∧ m (Str.ofString "year") = some (.int y ty) ∧ 0 ≤ k ∧ k ≤ (3 - jan y) % 7 ∧ (n : Int) = 7 - k
theorem loopW {Q : Flow → Shared → Prop} {test : Expr} {body : List Stmt} {pos : Pos} {y : Int} {t0 ty0 : Tok} (F : Fr h₀ L s.heap m) (N : News h₀ L s.heap news) (h1 : m (Str.ofString "first") = some (.int 0 t0)) (h2 : m (Str.ofString "year") = some (.int y ty0))
    (turn : ∀ (n : Nat) (k : Int) t ty (m₁ : Str → Option Value) h tk, 0 ≤ k → k ≤ (3 - jan y) % 7 → (n : Int) = 7 - k →
      Fr h₀ L h (fun z => if z = Str.ofString "first" then some (.int k t) else if z = Str.ofString "year" then some (.int y ty) else m₁ z) → News h₀ L h news →
      wpAny (model prog w) A (isTrue test env (eval test env)) (fun b s₂ => Fork b (wpAny (model prog w) A (execs body env) (WhileStep h₀ L s (JW news y) n) E s₂) (Q .next s₂)) E { s with heap := h, toks := tk })
    (hE : PassesOwn (model prog w) A env E := by passes_own) : wpAny (model prog w) A (exec (.While test body [] pos) env) Q E s := by
  refine While_inv (JW news y) (n₀ := 7) F N ⟨rfl, 0, t0, ty0, h1, h2, by omega, by omega, by omega⟩ ?_ hE
  rintro n m₁ nx h tk F₁ N₁ ⟨rfl, k, t, ty, e1, e2, e3, e4, e5⟩
  rw [map2 e1 e2] at F₁
  refine wpAny_mono (turn n k t ty m₁ h tk e3 e4 e5 F₁ N₁) (fun b s₂ hf => ?_) fun _ _ x => x
  cases b with
  | true => rw [if_pos rfl]; exact hf.1 rfl
  | false => rw [if_neg Bool.false_ne_true]; exact hf.2 rfl
end
end Mine

namespace Mine
open PySem PySem.W PySem.Calls PyProof.Rows PySem.SeqAt
theorem int_at {A : Around} {s : Shared} {i j : Int} {t u : Tok} (h : i = j) : EqAt A s (.int i t) (.int j u) true := fun prog w E Q hq => by
  refine wpAny_eqBool_int ?_
  have e : (i == j) = true := by simpa using h
  first | (rw [e]; exact hq) | simpa [h] using hq
section
variable {prog : Program} {w : World} {A : Around} {E : Value → Shared → Prop} {s : Shared} {h₀ : Heap} {L : Addr} {news : List (Addr × Obj)} {x b : Addr} {i j k i' j' k' : Int} {ti tj tk ti' tj' tk' : Tok} {n n' : Nat} {Q : Value → Shared → Prop}
theorem tup3_at (he : i = i' ∧ j = j' ∧ k = k') : ∀ q (h1 : q < (#[Value.int i ti, .int j tj, .int k tk]).size) (h2 : q < (#[Value.int i' ti', .int j' tj', .int k' tk']).size), EqAt A s (#[Value.int i ti, .int j tj, .int k tk])[q] (#[Value.int i' ti', .int j' tj', .int k' tk'])[q] ((fun _ => true) q) := by
  intro q h1 h2
  match q, h1, h2 with
  | 0, _, _ => exact int_at he.1
  | 1, _, _ => exact int_at he.2.1
  | 2, _, _ => exact int_at he.2.2
  | q + 3, h1, _ => exact absurd h1 (by simp)
theorem ne_tup_eq (N : News h₀ L s.heap news) (hx : (x, ({ cls := .type "tuple", data := .seq #[.int i ti, .int j tj, .int k tk] n } : Obj)) ∈ news) (hb : (b, ({ cls := .type "tuple", data := .seq #[.int i' ti', .int j' tj', .int k' tk'] n' } : Obj)) ∈ news)
    (hu : A.units < cLine) (he : i = i' ∧ j = j' ∧ k = k') (h : Q (.bool false) s) : wpAny (model prog w) A (compareOp .NotEq (.ref x) (.ref b)) Q E s :=
  RcNeAt.tuples (N.isTup hx) (N.isTup hb) hu (tup3_at he) prog w E Q h
theorem eq_tup_eq (N : News h₀ L s.heap news) (hx : (x, ({ cls := .type "tuple", data := .seq #[.int i ti, .int j tj, .int k tk] n } : Obj)) ∈ news) (hb : (b, ({ cls := .type "tuple", data := .seq #[.int i' ti', .int j' tj', .int k' tk'] n' } : Obj)) ∈ news)
    (hu : A.units < cLine) (he : i = i' ∧ j = j' ∧ k = k') (h : Q (.bool true) s) : wpAny (model prog w) A (compareOp .Eq (.ref x) (.ref b)) Q E s :=
  eq_tupleAt (N.isTup hx) (N.isTup hb) hu (tup3_at he) h
theorem ne_iso_tup (N : News h₀ L s.heap news) (hx : (x, isoObj i j k ti tj tk n) ∈ news) (hb : (b, ({ cls := .type "tuple", data := .seq #[.int i' ti', .int j' tj', .int k' tk'] n' } : Obj)) ∈ news)
    (hu : A.units < cLine) (he : i = i' ∧ j = j' ∧ k = k') (h : Q (.bool false) s) : wpAny (model prog w) A (compareOp .NotEq (.ref x) (.ref b)) Q E s := by
  obtain ⟨rfl, rfl, rfl⟩ := he
  exact ne_iso N hx hb hu (by simpa using h)
end
end Mine

namespace Mine
open PySem PySem.W PySem.Calls PyProof.Rows
section
variable {prog : Program} {w : World} {A : Around} {E : Value → Shared → Prop} {s : Shared} {h₀ : Heap} {L : Addr} {news : List (Addr × Obj)}
theorem item_list {value slice : Expr} {l : Addr} {items : Array Value} {nn : Nat} {k : Int} {u : Tok} {z : Value} {Q : Value → Shared → Prop} (N : News h₀ L s.heap news) (hl : (l, listOf items nn) ∈ news) (h0 : 0 ≤ k) (hhi : k < 2 ^ 63) (hx : items[k.toNat]? = some z) (h : Q z s)
    (hs : subscripted slice false (.ref l) (.int k u) = operate [.ref l, .int k u] (getItem (.ref l) (.int k u))) : wpAny (model prog w) A (subscriptTail value slice (.ref l) (.int k u)) Q E s :=
  tail_any (N.isList hl).typeIs slot_list_getitem.lookup (wpAny_getItem_list (N.isList hl) h0 hhi hx h) hs
theorem r_menu {value slice : Expr} {l : Addr} {c k : Int} {nn : Nat} {t0 t1 t2 t3 t4 t5 t6 t7 t8 t9 t10 u : Tok} {Q : Value → Shared → Prop} (N : News h₀ L s.heap news)
    (hl : (l, listOf #[.int (-4) t0, .int (-3) t1, .int (-2) t2, .int (-1) t3, .int 0 t4, .int 1 t5, .int 2 t6, .int 3 t7, .int 4 t8, .int 5 t9, .int c t10] nn) ∈ news) (hk : 0 ≤ k ∧ k ≤ 10) (hc : 0 ≤ c ∧ c ≤ 365)
    (h : ∀ p t, -4 ≤ p → p ≤ 365 → Q (.int p t) s)
    (hs : subscripted slice false (.ref l) (.int k u) = operate [.ref l, .int k u] (getItem (.ref l) (.int k u)) := by with_unfolding_all rfl) : wpAny (model prog w) A (subscriptTail value slice (.ref l) (.int k u)) Q E s := by
  obtain ⟨i, hi, rfl⟩ : ∃ i : Nat, i < 11 ∧ k = (i : Int) := ⟨k.toNat, by omega, by omega⟩
  have hz : ∃ p t, -4 ≤ p ∧ p ≤ 365 ∧ (#[Value.int (-4) t0, .int (-3) t1, .int (-2) t2, .int (-1) t3, .int 0 t4, .int 1 t5, .int 2 t6, .int 3 t7, .int 4 t8, .int 5 t9, .int c t10])[((i : Nat) : Int).toNat]? = some (.int p t) := by
    rcases (show i = 0 ∨ i = 1 ∨ i = 2 ∨ i = 3 ∨ i = 4 ∨ i = 5 ∨ i = 6 ∨ i = 7 ∨ i = 8 ∨ i = 9 ∨ i = 10 by omega) with h | h | h | h | h | h | h | h | h | h | h <;> subst h <;> exact ⟨_, _, by omega, by omega, rfl⟩
  obtain ⟨p, t, h1, h2, h3⟩ := hz
  exact item_list N hl (by omega) (by omega) h3 (h p t h1 h2) hs
end
end Mine

open PySem PySem.W PySem.Calls PyProof.Rows
namespace Mine
set_option maxRecDepth 100000 in
set_option maxHeartbeats 8000000 in
open_top hd for PySem.Challenge.rw_ad5013_01
theorem news_skip1 {h₀ h : Heap} {L : Addr} {p q : Addr × Obj} {news : List (Addr × Obj)} (N : News h₀ L h (p :: q :: news)) : News h₀ L h ([p] ++ news) := fun r hr => N r (by simp only [List.cons_append, List.nil_append, List.mem_cons] at hr ⊢; rcases hr with e | e; exact .inl e; exact .inr (.inr e))
theorem news_skip2 {h₀ h : Heap} {L : Addr} {p q q' : Addr × Obj} {news : List (Addr × Obj)} (N : News h₀ L h (p :: q :: q' :: news)) : News h₀ L h ([p] ++ news) := fun r hr => N r (by simp only [List.cons_append, List.nil_append, List.mem_cons] at hr ⊢; rcases hr with e | e; exact .inl e; exact .inr (.inr (.inr e)))
local macro_rules | `(tactic| walk_at "binaryOp Add float int") => `(tactic| (k_dflt (first
  | (refine' r_addDi ?hx ?ha ?hb ?_; (case hx => (with_reducible first | rfl | exact epoch_D)); (case ha => omega); (case hb => omega))
  | (refine' r_addIi ?hx ?ha ?hb ?_; (case hx => with_reducible rfl); (case ha => omega); (case hb => omega)))))
local macro_rules | `(tactic| walk_at "binaryOp Add int float") => `(tactic| (k_dflt (first
  | (refine' r_addih ?hx ?hb ?_; (case hx => with_reducible rfl); (case hb => omega))
  | (refine' r_addiD ?hx ?ha ?hb ?_; (case hx => (with_reducible first | rfl | exact epoch_D)); (case ha => omega); (case hb => omega)))))
local macro_rules | `(tactic| walk_at "inplaceOp Add int float") => `(tactic| (k_dflt (
  (refine' r_iaddiD ?hx ?ha ?hb ?_; (case hx => (with_reducible first | rfl | exact epoch_D)); (case ha => omega); (case hb => omega)))))
local macro_rules | `(tactic| walk_at "binaryOp Sub float int") => `(tactic| (k_dflt (
  (refine' r_subDi ?hx ?ha ?hb ?_; (case hx => (with_reducible first | rfl | exact epoch_D)); (case ha => omega); (case hb => omega)))))
local macro_rules | `(tactic| walk_at "binaryOp Sub int float") => `(tactic| (k_dflt (
  (refine' r_subih ?hx ?hb ?_; (case hx => with_reducible rfl); (case hb => omega)))))
local macro_rules | `(tactic| walk_at "binaryOp Mult float int") => `(tactic| (k_dflt (
  (refine' r_mulIi ?hx ?ha ?hb ?h0 ?h1 ?_; (case hx => with_reducible rfl); (case ha => omega); (case hb => omega); (case h0 => omega); (case h1 => omega)))))
local macro_rules | `(tactic| walk_at "binaryOp Mult int float") => `(tactic| (k_dflt (
  (refine' r_mul2D ?hx ?ha ?_; (case hx => (with_reducible first | rfl | exact epoch_D)); (case ha => omega)))))
local macro_rules | `(tactic| walk_at "binaryOp Add float float") => `(tactic| (k_dflt (
  (refine' r_addDh ?hx ?hy ?ha ?_; (case hx => with_reducible rfl); (case hy => with_reducible rfl); (case ha => omega)))))
local macro_rules | `(tactic| walk_at "binaryOp Sub float float") => `(tactic| (k_dflt (first
  | (refine' r_subDh ?hx ?hy ?ha ?_; (case hx => with_reducible rfl); (case hy => with_reducible rfl); (case ha => omega))
  | (refine' r_subDD ?hx ?hy ?ha ?hb ?_; (case hx => with_reducible rfl); (case hy => (with_reducible first | rfl | exact epoch_D)); (case ha => omega); (case hb => omega)))))
local macro_rules | `(tactic| walk_at "compareOp NotEq float float") => `(tactic| (k_dflt (
  (refine' r_neDD ?hx ?hy ?ha ?hb ?_; (case hx => with_reducible rfl); (case hy => with_reducible rfl); (case ha => omega); (case hb => omega)))))
local macro_rules | `(tactic| walk_at "compareOp Lt float int") => `(tactic| (k_dflt (
  (refine' r_ltIi ?hx ?ha ?_; (case hx => with_reducible rfl); (case ha => omega)))))
local macro_rules | `(tactic| walk_at "binaryOp Div int int") => `(tactic| (k_dflt (
  (refine' r_divii ?hb ?ha ?_; (case hb => omega); (case ha => omega); intro hFl))))
local macro_rules | `(tactic| walk_at "binaryOp Div float int") => `(tactic| (k_dflt (
  (refine' r_divIi ?hx ?hb ?ha ?_; (case hx => with_reducible rfl); (case hb => omega); (case ha => omega); intro qFl hFl))))
local macro_rules | `(tactic| walk_at "binaryOp Mod float int") => `(tactic| (k_dflt (
  (refine' r_modIi ?hx ?ha ?hb ?_; (case hx => with_reducible rfl); (case ha => omega); (case hb => omega)))))
local macro_rules | `(tactic| walk_at "binaryOp Mod int int") => `(tactic| (k_dflt (
  (refine' r_modii ?hb ?_; (case hb => omega)))))
local macro_rules | `(tactic| walk_at "binaryOp FloorDiv int int") => `(tactic| (k_dflt (
  (refine' r_fdivii ?hb ?hc ?_; (case hb => omega); (case hc => omega)))))
local macro_rules | `(tactic| walk_at "call builtin:math.floor") => `(tactic| (k_dflt (first
  | (refine' r_floorD rfl ?hx ?ha ?_; (case hx => with_reducible rfl); (case ha => omega))
  | (refine' r_floorI rfl ?hx ?ha ?_; (case hx => with_reducible rfl); (case ha => omega))
  | (refine' r_floor rfl ?hx ?_; (case hx => with_reducible assumption))
  | (refine' r_floor rfl (month_floor ?hm ?hj ?hd) ?_; (case hm => omega); (case hj => omega); (case hd => omega)))))
local macro_rules | `(tactic| walk_at "call builtin:math.trunc") => `(tactic| (k_dflt (
  (refine' r_truncI rfl ?hx ?ha ?_; (case hx => with_reducible rfl); (case ha => omega)))))
local macro_rules | `(tactic| walk_at "call type:int") => `(tactic| (k_dflt (
  (refine' r_intI rfl ?hx ?ha ?_; (case hx => with_reducible rfl); (case ha => omega)))))
local macro_rules | `(tactic| walk_at "binaryOp Add float int") => `(tactic| (k_dflt (first
  | (refine' r_addDi ?hx ?ha ?hb ?_; (case hx => (with_reducible first | rfl | exact epoch_D)); (case ha => omega); (case hb => omega))
  | (refine' r_addIi ?hx ?ha ?hb ?_; (case hx => with_reducible rfl); (case ha => omega); (case hb => omega))
  | (refine' r_addgen ?hb ?_; (case hb => omega)))))
local macro_rules | `(tactic| walk_at "compareOp In int ref") => `(tactic| (k_here; k_dflt (
  (refine' in_topTup4 ?F ?X ?l ?_; (case F => k_asm); (case X => k_asm); (case l => k_is)))))
set_option maxRecDepth 100000 in
set_option maxHeartbeats 8000000 in
theorem c_jwday {w : World} {p : Program} {loose : List Str} {mean : ExcName → Option Value} {mg mb : Str → Option Value} (x : UInt64) (n : Int) (tk : Tok) (hx : x = D n) (hn : Small n) (news : List (Addr × Obj)) : ClP PySem.Challenge.rw_ad5013_01.row.prog w (Mine.hd.heap_39 w.params) p loose mean mg mb 2 59 [.float x tk] news (PInt fun i => i = n % 7) := by
  unfold ClP
  intro dp un gd cn cs a ccd cl outer A₀ base h₀ L m s Q E B F X N T hk hdp hun hret
  subst hx
  refine wpAny_call ?_
  k_dflt cell_enter
  k_steps
  (refine' cl_ret (post := (PInt fun i => i = n % 7)) (Q := Q) [] hret ?e ?F ?N; (case F => k_asm); (case N => first | k_asm | exact news_skip1 (by assumption) | exact news_skip2 (by assumption)); (case e => exact ⟨_, _, rfl, rfl, rfl⟩))
local macro_rules | `(tactic| walk_at "call ref") => `(tactic| (k_here; k_dflt (refine' ClP.use (c_jwday _ _ _ ?p3 ?p4) ?k1 ?k2 ?k3 ?k4 ?k5 ?kK ?kd ?ku ?_; (case p3 => (with_reducible first | rfl | exact epoch_D)); (case p4 => omega); (case k1 => k_asm); (case k2 => k_asm); (case k3 => k_asm); (case k4 => k_asm); (case k5 => k_asm); (case kK => first | exact rfl | assumption); (case kd => ktr_room); (case ku => ktr_units); intro v9 ex9 h9 tk9 P9 F9 N9; obtain ⟨i9, t9, hv9, hx9, e9⟩ := P9; subst hv9; subst hx9; (try dsimp only [List.nil_append, List.cons_append] at N9); (try dsimp only at e9); (try dsimp only); (try k_fold))))
set_option maxRecDepth 100000 in
set_option maxHeartbeats 8000000 in
theorem c_weekday_before {w : World} {p : Program} {loose : List Str} {mean : ExcName → Option Value} {mg mb : Str → Option Value} (x : UInt64) (k n : Int) (t1 tk : Tok) (hx : x = D n) (hn : -(2^46) < n ∧ n < 2^46) (hk : -100 < k ∧ k < 100) (news : List (Addr × Obj)) : ClP PySem.Challenge.rw_ad5013_01.row.prog w (Mine.hd.heap_39 w.params) p loose mean mg mb 4 66 [.int k t1, .float x tk] news (PDay fun j => j = n - (n - k) % 7) := by
  unfold ClP
  intro dp un gd cn cs a ccd cl outer A₀ base h₀ L m s Q E B F X N T hk hdp hun hret
  subst hx
  refine wpAny_call ?_
  k_dflt cell_enter
  k_steps
  (refine' cl_ret (post := (PDay fun j => j = n - (n - k) % 7)) (Q := Q) [] hret ?e ?F ?N; (case F => k_asm); (case N => first | k_asm | exact news_skip1 (by assumption) | exact news_skip2 (by assumption)); (case e => exact ⟨_, _, rfl, rfl, by omega⟩))
local macro_rules | `(tactic| walk_at "call ref") => `(tactic| (k_here; k_dflt (refine' ClP.use (c_weekday_before _ _ _ _ _ ?p5 ?p6 ?p7) ?k1 ?k2 ?k3 ?k4 ?k5 ?kK ?kd ?ku ?_; (case p5 => (with_reducible first | rfl | exact epoch_D)); (case p6 => omega); (case p7 => omega); (case k1 => k_asm); (case k2 => k_asm); (case k3 => k_asm); (case k4 => k_asm); (case k5 => k_asm); (case kK => first | exact rfl | assumption); (case kd => ktr_room); (case ku => ktr_units); intro v9 ex9 h9 tk9 P9 F9 N9; obtain ⟨i9, t9, hv9, hx9, e9⟩ := P9; subst hv9; subst hx9; (try dsimp only [List.nil_append, List.cons_append] at N9); (try dsimp only at e9); (try dsimp only); (try k_fold))))
set_option maxRecDepth 100000 in
set_option maxHeartbeats 8000000 in
theorem c_search_weekday {w : World} {p : Program} {loose : List Str} {mean : ExcName → Option Value} {mg mb : Str → Option Value} (x : UInt64) (k n : Int) (t1 t2 t3 tk : Tok) (hx : x = D n) (hn : -(2^45) < n ∧ n < 2^45) (hk : -100 < k ∧ k < 100) (news : List (Addr × Obj)) : ClP PySem.Challenge.rw_ad5013_01.row.prog w (Mine.hd.heap_39 w.params) p loose mean mg mb 6 73 [.int k t1, .float x tk, .int (-1) t2, .int 1 t3] news (PDay fun j => j = n - 1 - (n - 1 - k) % 7) := by
  unfold ClP
  intro dp un gd cn cs a ccd cl outer A₀ base h₀ L m s Q E B F X N T hk hdp hun hret
  subst hx
  refine wpAny_call ?_
  k_dflt cell_enter
  k_steps
  (refine' cl_ret (post := (PDay fun j => j = n - 1 - (n - 1 - k) % 7)) (Q := Q) [] hret ?e ?F ?N; (case F => k_asm); (case N => first | k_asm | exact news_skip1 (by assumption) | exact news_skip2 (by assumption)); (case e => exact ⟨_, _, rfl, rfl, by omega⟩))
local macro_rules | `(tactic| walk_at "call ref") => `(tactic| (k_here; k_dflt (refine' ClP.use (c_search_weekday _ _ _ _ _ _ _ ?p7 ?p8 ?p9) ?k1 ?k2 ?k3 ?k4 ?k5 ?kK ?kd ?ku ?_; (case p7 => (with_reducible first | rfl | exact epoch_D)); (case p8 => omega); (case p9 => omega); (case k1 => k_asm); (case k2 => k_asm); (case k3 => k_asm); (case k4 => k_asm); (case k5 => k_asm); (case kK => first | exact rfl | assumption); (case kd => ktr_room); (case ku => ktr_units); intro v9 ex9 h9 tk9 P9 F9 N9; obtain ⟨i9, t9, hv9, hx9, e9⟩ := P9; subst hv9; subst hx9; (try dsimp only [List.nil_append, List.cons_append] at N9); (try dsimp only at e9); (try dsimp only); (try k_fold))))
set_option maxRecDepth 100000 in
set_option maxHeartbeats 8000000 in
theorem c_previous_weekday {w : World} {p : Program} {loose : List Str} {mean : ExcName → Option Value} {mg mb : Str → Option Value} (x : UInt64) (k n : Int) (t1 tk : Tok) (hx : x = D n) (hn : -(2^45) < n ∧ n < 2^45) (hk : -100 < k ∧ k < 100) (news : List (Addr × Obj)) : ClP PySem.Challenge.rw_ad5013_01.row.prog w (Mine.hd.heap_39 w.params) p loose mean mg mb 8 87 [.int k t1, .float x tk] news (PDay fun j => j = n - 1 - (n - 1 - k) % 7) := by
  unfold ClP
  intro dp un gd cn cs a ccd cl outer A₀ base h₀ L m s Q E B F X N T hk hdp hun hret
  subst hx
  refine wpAny_call ?_
  k_dflt cell_enter
  k_steps
  (refine' cl_ret (post := (PDay fun j => j = n - 1 - (n - 1 - k) % 7)) (Q := Q) [] hret ?e ?F ?N; (case F => k_asm); (case N => first | k_asm | exact news_skip1 (by assumption) | exact news_skip2 (by assumption)); (case e => exact ⟨_, _, rfl, rfl, by omega⟩))
local macro_rules | `(tactic| walk_at "call ref") => `(tactic| (k_here; k_dflt (refine' ClP.use (c_previous_weekday _ _ _ _ _ ?p5 ?p6 ?p7) ?k1 ?k2 ?k3 ?k4 ?k5 ?kK ?kd ?ku ?_; (case p5 => (with_reducible first | rfl | exact epoch_D)); (case p6 => omega); (case p7 => omega); (case k1 => k_asm); (case k2 => k_asm); (case k3 => k_asm); (case k4 => k_asm); (case k5 => k_asm); (case kK => first | exact rfl | assumption); (case kd => ktr_room); (case ku => ktr_units); intro v9 ex9 h9 tk9 P9 F9 N9; obtain ⟨i9, t9, hv9, hx9, e9⟩ := P9; subst hv9; subst hx9; (try dsimp only [List.nil_append, List.cons_append] at N9); (try dsimp only at e9); (try dsimp only); (try k_fold))))
set_option maxRecDepth 100000 in
set_option maxHeartbeats 8000000 in
theorem c_n_weeks {w : World} {p : Program} {loose : List Str} {mean : ExcName → Option Value} {mg mb : Str → Option Value} (x : UInt64) (k n wk : Int) (t1 tk t2 : Tok) (hx : x = D n) (hn : -(2^45) < n ∧ n < 2^45) (hk : -100 < k ∧ k < 100) (hw : 0 < wk ∧ wk < 1000) (news : List (Addr × Obj)) : ClP PySem.Challenge.rw_ad5013_01.row.prog w (Mine.hd.heap_39 w.params) p loose mean mg mb 10 94 [.int k t1, .float x tk, .int wk t2] news (PDay fun j => j = 7 * wk + (n - 1 - (n - 1 - k) % 7)) := by
  unfold ClP
  intro dp un gd cn cs a ccd cl outer A₀ base h₀ L m s Q E B F X N T hk hdp hun hret
  subst hx
  refine wpAny_call ?_
  k_dflt cell_enter
  k_steps
  (refine' cl_ret (post := (PDay fun j => j = 7 * wk + (n - 1 - (n - 1 - k) % 7))) (Q := Q) [] hret ?e ?F ?N; (case F => k_asm); (case N => first | k_asm | exact news_skip1 (by assumption) | exact news_skip2 (by assumption)); (case e => exact ⟨_, _, rfl, rfl, by omega⟩))
local macro_rules | `(tactic| walk_at "call ref") => `(tactic| (k_here; k_dflt (refine' ClP.use (c_n_weeks _ _ _ _ _ _ _ ?p7 ?p8 ?p9 ?p10) ?k1 ?k2 ?k3 ?k4 ?k5 ?kK ?kd ?ku ?_; (case p7 => (with_reducible first | rfl | exact epoch_D)); (case p8 => omega); (case p9 => omega); (case p10 => omega); (case k1 => k_asm); (case k2 => k_asm); (case k3 => k_asm); (case k4 => k_asm); (case k5 => k_asm); (case kK => first | exact rfl | assumption); (case kd => ktr_room); (case ku => ktr_units); intro v9 ex9 h9 tk9 P9 F9 N9; obtain ⟨i9, t9, hv9, hx9, e9⟩ := P9; subst hv9; subst hx9; (try dsimp only [List.nil_append, List.cons_append] at N9); (try dsimp only at e9); (try dsimp only); (try k_fold))))
set_option maxRecDepth 100000 in
set_option maxHeartbeats 8000000 in
theorem c_isleap {w : World} {p : Program} {loose : List Str} {mean : ExcName → Option Value} {mg mb : Str → Option Value} (y : Int) (t1 : Tok) (news : List (Addr × Obj)) : ClP PySem.Challenge.rw_ad5013_01.row.prog w (Mine.hd.heap_39 w.params) p loose mean mg mb 2 102 [.int y t1] news (PBool (leap y)) := by
  unfold ClP
  intro dp un gd cn cs a ccd cl outer A₀ base h₀ L m s Q E B F X N T hk hdp hun hret
  refine wpAny_call ?_
  k_dflt cell_enter
  k_steps
  all_goals (refine' cl_ret (post := (PBool (leap y))) (Q := Q) [] hret ?e ?F ?N; (case F => k_asm); (case N => first | k_asm | exact news_skip1 (by assumption) | exact news_skip2 (by assumption)); (case e => exact ⟨vbool (by simp_all [leap]), rfl⟩))
local macro_rules | `(tactic| walk_at "call ref") => `(tactic| (k_here; k_dflt (refine' ClP.use (c_isleap _ _) ?k1 ?k2 ?k3 ?k4 ?k5 ?kK ?kd ?ku ?_; (case k1 => k_asm); (case k2 => k_asm); (case k3 => k_asm); (case k4 => k_asm); (case k5 => k_asm); (case kK => first | exact rfl | assumption); (case kd => ktr_room); (case ku => ktr_units); intro v9 ex9 h9 tk9 P9 F9 N9; obtain ⟨hv9, hx9⟩ := P9; subst hv9; subst hx9; (try dsimp only [List.nil_append, List.cons_append] at N9); (try dsimp only at e9); (try dsimp only); (try k_fold))))
set_option maxRecDepth 100000 in
set_option maxHeartbeats 8000000 in
theorem c_legal_date {w : World} {p : Program} {loose : List Str} {mean : ExcName → Option Value} {mg mb : Str → Option Value} (y mo d : Int) (t1 t2 t3 : Tok) (hdd : d = 1 ∨ d = 28) (news : List (Addr × Obj)) : ClP PySem.Challenge.rw_ad5013_01.row.prog w (Mine.hd.heap_39 w.params) p loose mean mg mb 4 109 [.int y t1, .int mo t2, .int d t3] news (PBool true) := by
  unfold ClP
  intro dp un gd cn cs a ccd cl outer A₀ base h₀ L m s Q E B F X N T hk hdp hun hret
  refine wpAny_call ?_
  k_dflt cell_enter
  k_steps
  all_goals (refine' cl_ret (post := (PBool true)) (Q := Q) [] hret ?e ?F ?N; (case F => k_asm); (case N => first | k_asm | exact news_skip1 (by assumption) | exact news_skip2 (by assumption)); (case e => exact ⟨rfl, rfl⟩))
local macro_rules | `(tactic| walk_at "call ref") => `(tactic| (k_here; k_dflt (refine' ClP.use (c_legal_date _ _ _ _ _ _ ?p6) ?k1 ?k2 ?k3 ?k4 ?k5 ?kK ?kd ?ku ?_; (case p6 => omega); (case k1 => k_asm); (case k2 => k_asm); (case k3 => k_asm); (case k4 => k_asm); (case k5 => k_asm); (case kK => first | exact rfl | assumption); (case kd => ktr_room); (case ku => ktr_units); intro v9 ex9 h9 tk9 P9 F9 N9; obtain ⟨hv9, hx9⟩ := P9; subst hv9; subst hx9; (try dsimp only [List.nil_append, List.cons_append] at N9); (try dsimp only at e9); (try dsimp only); (try k_fold))))
set_option maxRecDepth 100000 in
set_option maxHeartbeats 8000000 in
theorem c_gto_jd {w : World} {p : Program} {loose : List Str} {mean : ExcName → Option Value} {mg mb : Str → Option Value} (y mo d : Int) (t1 t2 t3 : Tok) (hy : -(2^33) < y ∧ y < 2^33) (hm : 1 ≤ mo ∧ mo ≤ 12) (hdd : d = 1 ∨ d = 28) (news : List (Addr × Obj)) : ClP PySem.Challenge.rw_ad5013_01.row.prog w (Mine.hd.heap_39 w.params) p loose mean mg mb 6 116 [.int y t1, .int mo t2, .int d t3] news (PDay fun j => j = dayno y mo d ∧ -(2^44) < j ∧ j < 2^44) := by
  unfold ClP
  intro dp un gd cn cs a ccd cl outer A₀ base h₀ L m s Q E B F X N T hk hdp hun hret
  refine wpAny_call ?_
  k_dflt cell_enter
  k_steps
  all_goals (refine' cl_ret (post := (PDay fun j => j = dayno y mo d ∧ -(2^44) < j ∧ j < 2^44)) (Q := Q) [] hret ?e ?F ?N; (case F => k_asm); (case N => first | k_asm | exact news_skip1 (by assumption) | exact news_skip2 (by assumption)); (case e => exact ⟨_, _, rfl, rfl, by first | exact dayno_a (by assumption) rfl | exact dayno_b (by assumption) (by assumption) rfl | exact dayno_c (by assumption) (by first | assumption | simp_all) rfl, by omega, by omega⟩))
local macro_rules | `(tactic| walk_at "call ref") => `(tactic| (k_here; k_dflt (refine' ClP.use (c_gto_jd _ _ _ _ _ _ ?p6 ?p7 ?p8) ?k1 ?k2 ?k3 ?k4 ?k5 ?kK ?kd ?ku ?_; (case p6 => omega); (case p7 => first | omega | (with_reducible exact month_ok3 (by assumption) (by assumption) (by assumption))); (case p8 => omega); (case k1 => k_asm); (case k2 => k_asm); (case k3 => k_asm); (case k4 => k_asm); (case k5 => k_asm); (case kK => first | exact rfl | assumption); (case kd => ktr_room); (case ku => ktr_units); intro v9 ex9 h9 tk9 P9 F9 N9; obtain ⟨j9, t9, hv9, hx9, e9, lo9, hi9⟩ := P9; subst hv9; subst hx9; (try dsimp only [List.nil_append, List.cons_append] at N9); (try dsimp only at e9); (try dsimp only); (try k_fold))))
set_option maxRecDepth 100000 in
set_option maxHeartbeats 8000000 in
theorem c_gto_year {w : World} {p : Program} {loose : List Str} {mean : ExcName → Option Value} {mg mb : Str → Option Value} (N0 y : Int) (t1 t2 t3 : Tok) (hy : -(2^33) < y ∧ y < 2^33) (hY : YearIs N0 y) (news : List (Addr × Obj)) : ClP PySem.Challenge.rw_ad5013_01.row.prog w (Mine.hd.heap_39 w.params) p loose mean mg mb 6 116 [.int y t1, .int 1 t2, .int 1 t3] news (PDay fun j => j = jan y ∧ 0 ≤ N0 - j ∧ N0 - j < 365 + b2i (leap y) ∧ N0 - j ≤ 365) := by
  intro dp un gd cn cs a ccd cl outer A₀ base h₀ L m s Q E B F X N T hk hdp hun hret
  refine c_gto_jd y 1 1 t1 t2 t3 hy (by omega) (by omega) news dp un gd cn cs a ccd cl outer A₀ base h₀ L m s Q E B F X N T hk hdp hun ?_
  rintro v ex h' tk' ⟨j, t, hv, hx, e, lo, hi⟩ F9 N9
  have h1 := hY.1
  have h2 := hY.2
  have h3 := b2i_le (leap y)
  rw [leap_len] at h2
  have e' : j = jan y := e.trans (by unfold dayno adj; simp)
  exact hret v ex h' tk' ⟨j, t, hv, hx, e', by omega, by omega, by omega⟩ F9 N9
theorem r_addih2 {x : UInt64} {c b : Int} {prog : Program} {w : World} {A : Around} {E : Value → Shared → Prop} {s : Shared} {Q : Value → Shared → Prop} {t u : Tok} (hx : x = 0x3fe0000000000000) (hc : c = b - 1) (hb : Small c) (h : Q (.float (D b) s.toks) { s with toks := s.toks + 1 }) : wpAny (model prog w) A (binaryOp .Add (.int c u) (.float x t)) Q E s := by
  subst hc; exact r_addih hx hb (by rwa [Int.sub_add_cancel])
local macro_rules | `(tactic| walk_at "call ref") => `(tactic| (k_here; k_dflt (refine' ClP.use (c_gto_year _ _ _ _ _ ?p4 ?p5) ?k1 ?k2 ?k3 ?k4 ?k5 ?kK ?kd ?ku ?_; (case p5 => with_reducible assumption); (case p4 => omega); (case k1 => k_asm); (case k2 => k_asm); (case k3 => k_asm); (case k4 => k_asm); (case k5 => k_asm); (case kK => first | exact rfl | assumption); (case kd => ktr_room); (case ku => ktr_units); intro v9 ex9 h9 tk9 P9 F9 N9; obtain ⟨j9, t9, hv9, hx9, e9, lo9, hi9, le9⟩ := P9; subst hv9; subst hx9; (try dsimp only [List.nil_append, List.cons_append] at N9); (try dsimp only at e9); (try dsimp only); (try k_fold))))
local macro_rules | `(tactic| walk_at "binaryOp Add int float") => `(tactic| (k_dflt ((refine' r_addih2 ?hx ?hc ?hb ?_; (case hx => with_reducible rfl); (case hc => with_reducible rfl); (case hb => omega)))))
local macro_rules | `(tactic| walk_at "KJoinC") => `(tactic| (refine ⟨?_, ⟨⟨_, _, rfl, by assumption, by assumption⟩⟩⟩; k_dflt (first | exact yc1 (by with_reducible assumption) | exact yc2 (by with_reducible assumption) | exact yc3 (by with_reducible assumption) (by with_reducible assumption))))
local macro_rules | `(tactic| walk_at "exec If") => `(tactic| (k_here; (with_reducible show wpAny _ _ (exec (Stmt.If (Expr.UnaryOp _ _ _) [Stmt.AugAssign (Expr.Name (Str.ofString "year") _) _ _ _] [] _) _) _ _ _); (rename Fr _ _ _ _ => F'); (rename News _ _ _ _ => N'); k_dflt (refine' kj_year F' N' ?hn ?hold ?ha ?_ ?_ ?_; (case hold => with_unfolding_all rfl)); (case ha => with_reducible rfl); (case hn => omega)))
local macro_rules | `(tactic| walk_at "KJoinB2") => `(tactic| ((show ∀ (r : Int) (t : Tok) (s₃ : Shared), YearIs _ r ∧ _ → _ → _); intro r' t' s' hr' hJ'; obtain ⟨h', tk', e', F'', N''⟩ := KJoinAt.at_ hJ'; subst e'; obtain ⟨hY', hlo', hhi'⟩ := hr'))
set_option maxRecDepth 100000 in
set_option maxHeartbeats 8000000 in
theorem c_gfrom_D {w : World} {p : Program} {loose : List Str} {mean : ExcName → Option Value} {mg mb : Str → Option Value} (x : UInt64) (n : Int) (tk : Tok) (hx : x = D n) (hn : -(2^39) < n ∧ n < 2^39) (news : List (Addr × Obj)) : ClP PySem.Challenge.rw_ad5013_01.row.prog w (Mine.hd.heap_39 w.params) p loose mean mg mb 8 123 [.float x tk] news (PTup3 "tuple" fun y mo d => GregIs n y mo d) := by
  unfold ClP
  intro dp un gd cn cs a ccd cl outer A₀ base h₀ L m s Q E B F X N T hk hdp hun hret
  subst hx
  refine wpAny_call ?_
  k_dflt cell_enter
  k_steps
  all_goals (refine' cl_ret (post := (PTup3 "tuple" fun y mo d => GregIs n y mo d)) (Q := Q) [_] hret ?e ?F ?N; (case F => k_asm); (case N => first | k_asm | exact news_skip1 (by assumption) | exact news_skip2 (by assumption)); (case e => exact ⟨_, _, _, _, _, _, _, _, rfl, rfl, by with_reducible first | exact greg_a (by assumption) (by assumption) (by assumption) (by assumption) (by assumption) | exact greg_b (by assumption) (by assumption) (by assumption) (by assumption) (by assumption) (by assumption) | exact greg_c (by assumption) (by assumption) (by assumption) (by assumption) (by assumption) (by assumption)⟩))
local macro_rules | `(tactic| walk_at "call ref") => `(tactic| (k_here; k_dflt (refine' ClP.use (c_gfrom_D _ _ _ ?p3 ?p4) ?k1 ?k2 ?k3 ?k4 ?k5 ?kK ?kd ?ku ?_; (case p3 => (with_reducible first | rfl | exact epoch_D)); (case p4 => omega); (case k1 => k_asm); (case k2 => k_asm); (case k3 => k_asm); (case k4 => k_asm); (case k5 => k_asm); (case kK => first | exact rfl | assumption); (case kd => ktr_room); (case ku => ktr_units); intro v9 ex9 h9 tk9 P9 F9 N9; obtain ⟨x9, y9, m9, d9, ty9, tm9, td9, n9, hv9, hx9, e9⟩ := P9; subst hv9; subst hx9; (try dsimp only [List.nil_append, List.cons_append] at N9); (try dsimp only at e9); (try dsimp only); (try k_fold))))
set_option maxRecDepth 100000 in
set_option maxHeartbeats 8000000 in
theorem c_to_jd {w : World} {p : Program} {loose : List Str} {mean : ExcName → Option Value} {mg mb : Str → Option Value} (y wk d : Int) (t1 t2 t3 : Tok) (hy : -(2^32) < y ∧ y < 2^32) (hw : 0 < wk ∧ wk < 1000) (hdd : -1000 < d ∧ d < 1000) (news : List (Addr × Obj)) : ClP PySem.Challenge.rw_ad5013_01.row.prog w (Mine.hd.heap_39 w.params) p loose mean mg mb 14 130 [.int y t1, .int wk t2, .int d t3] news (PDay fun j => j = isoJd y wk d ∧ -(2^45) < j ∧ j < 2^45) := by
  unfold ClP
  intro dp un gd cn cs a ccd cl outer A₀ base h₀ L m s Q E B F X N T hk hdp hun hret
  refine wpAny_call ?_
  k_dflt cell_enter
  k_steps
  all_goals (refine' cl_ret (post := (PDay fun j => j = isoJd y wk d ∧ -(2^45) < j ∧ j < 2^45)) (Q := Q) [] hret ?e ?F ?N; (case F => k_asm); (case N => first | k_asm | exact news_skip1 (by assumption) | exact news_skip2 (by assumption)); (case e => exact ⟨_, _, rfl, rfl, isoJd_of (by with_reducible assumption) (by omega), by omega, by omega⟩))
local macro_rules | `(tactic| walk_at "call ref") => `(tactic| (k_here; k_dflt (refine' ClP.use (c_to_jd _ _ _ _ _ _ ?p6 ?p7 ?p8) ?k1 ?k2 ?k3 ?k4 ?k5 ?kK ?kd ?ku ?_; (case p6 => omega); (case p7 => omega); (case p8 => omega); (case k1 => k_asm); (case k2 => k_asm); (case k3 => k_asm); (case k4 => k_asm); (case k5 => k_asm); (case kK => first | exact rfl | assumption); (case kd => ktr_room); (case ku => ktr_units); intro v9 ex9 h9 tk9 P9 F9 N9; obtain ⟨j9, t9, hv9, hx9, e9, lo9, hi9⟩ := P9; subst hv9; subst hx9; (try dsimp only [List.nil_append, List.cons_append] at N9); (try dsimp only at e9); (try dsimp only); (try k_fold))))
set_option maxRecDepth 100000 in
set_option maxHeartbeats 8000000 in
theorem c_weeks {w : World} {p : Program} {loose : List Str} {mean : ExcName → Option Value} {mg mb : Str → Option Value} (y : Int) (t1 : Tok) (hy : -(2^32) < y ∧ y < 2^32) (news : List (Addr × Obj)) : ClP PySem.Challenge.rw_ad5013_01.row.prog w (Mine.hd.heap_39 w.params) p loose mean mg mb 10 144 [.int y t1] news (PInt fun i => i = wk y) := by
  unfold ClP
  intro dp un gd cn cs a ccd cl outer A₀ base h₀ L m s Q E B F X N T hk hdp hun hret
  refine wpAny_call ?_
  k_dflt cell_enter
  k_steps
  all_goals (refine' cl_ret (post := (PInt fun i => i = wk y)) (Q := Q) [] hret ?e ?F ?N; (case F => k_asm); (case N => first | k_asm | exact news_skip1 (by assumption) | exact news_skip2 (by assumption)); (case e => exact ⟨_, _, rfl, rfl, by with_reducible first | exact wk_a (by assumption) (by assumption) (by assumption) | exact wk_b (by assumption) (by assumption) (by assumption) (by assumption) | exact wk_d (by assumption) (by assumption) (by assumption) (by assumption) | exact wk_c (by assumption) (by assumption) (by assumption) (by assumption)⟩))
local macro_rules | `(tactic| walk_at "call ref") => `(tactic| (k_here; k_dflt (refine' ClP.use (c_weeks _ _ ?p2) ?k1 ?k2 ?k3 ?k4 ?k5 ?kK ?kd ?ku ?_; (case p2 => omega); (case k1 => k_asm); (case k2 => k_asm); (case k3 => k_asm); (case k4 => k_asm); (case k5 => k_asm); (case kK => first | exact rfl | assumption); (case kd => ktr_room); (case ku => ktr_units); intro v9 ex9 h9 tk9 P9 F9 N9; obtain ⟨i9, t9, hv9, hx9, e9⟩ := P9; subst hv9; subst hx9; (try dsimp only [List.nil_append, List.cons_append] at N9); (try dsimp only at e9); (try dsimp only); (try k_fold))))
local macro_rules | `(tactic| walk_at "call type:datetime.date") => `(tactic| (k_here; k_dflt (refine' call_date_ok ?F ?N ?hy ?hm ?hd ?hv ?_; (case F => k_asm); (case N => k_asm); (case hy => assumption); (case hm => assumption); (case hd => assumption); (case hv => assumption)); intro x9 h9 F9 N9))
local macro_rules | `(tactic| walk_at "getMethod ref") => `(tactic| (k_here; k_dflt (refine' getMethod_iso ?N ?m ?_; (case N => k_asm); (case m => k_mem))))
local macro_rules | `(tactic| walk_at "call builtin:datetime.date.isocalendar") => `(tactic| (k_here; k_dflt (refine' call_iso ?F ?N ?m ?_; (case F => k_asm); (case N => k_asm); (case m => k_mem)); intro r9 h9 tk9 F9 N9; replace N9 := N9 _ _ _ rfl rfl rfl))
set_option maxRecDepth 100000 in
set_option maxHeartbeats 8000000 in
theorem c_from_greg {w : World} {p : Program} {loose : List Str} {mean : ExcName → Option Value} {mg mb : Str → Option Value} (n y mo d : Int) (t1 t2 t3 : Tok) (hG : GregIs n y mo d) (hn : 1721426 ≤ n ∧ n < 5373485) (news : List (Addr × Obj)) : ClP PySem.Challenge.rw_ad5013_01.row.prog w (Mine.hd.heap_39 w.params) p loose mean mg mb 4 151 [.int y t1, .int mo t2, .int d t3] news (PTup3 "datetime.IsoCalendarDate" fun a b c => IsoIs n a b c ∧ (0 ≤ a ∧ a ≤ 10000) ∧ (1 ≤ b ∧ b ≤ 53) ∧ 1 ≤ c ∧ c ≤ 7) := by
  unfold ClP
  intro dp un gd cn cs a ccd cl outer A₀ base h₀ L m s Q E B F X N T hk hdp hun hret
  obtain ⟨hv, hfy, hfm, hfd⟩ := valid_of hG (year_in hG hn)
  refine wpAny_call ?_
  k_dflt cell_enter
  k_steps
  all_goals (refine' cl_ret (post := (PTup3 "datetime.IsoCalendarDate" fun a b c => IsoIs n a b c ∧ (0 ≤ a ∧ a ≤ 10000) ∧ (1 ≤ b ∧ b ≤ 53) ∧ 1 ≤ c ∧ c ≤ 7)) (Q := Q) [_] hret ?e ?F ?N; (case F => k_asm); (case N => first | k_asm | exact news_skip1 (by assumption) | exact news_skip2 (by assumption)); (case e => exact ⟨_, _, _, _, _, _, _, _, rfl, rfl, iso_of hG, iso_year (iso_of hG) hn⟩))
local macro_rules | `(tactic| walk_at "call ref") => `(tactic| (k_here; k_dflt (refine' ClP.use (c_from_greg _ _ _ _ _ _ _ ?p7 ?p8) ?k1 ?k2 ?k3 ?k4 ?k5 ?kK ?kd ?ku ?_; (case p7 => with_reducible assumption); (case p8 => omega); (case k1 => k_asm); (case k2 => k_asm); (case k3 => k_asm); (case k4 => k_asm); (case k5 => k_asm); (case kK => first | exact rfl | assumption); (case kd => ktr_room); (case ku => ktr_units); intro v9 ex9 h9 tk9 P9 F9 N9; obtain ⟨x9, y9, m9, d9, ty9, tm9, td9, n9, hv9, hx9, e9, lo9⟩ := P9; subst hv9; subst hx9; (try dsimp only [List.nil_append, List.cons_append] at N9); (try dsimp only at e9); (try dsimp only); (try k_fold))))
set_option maxRecDepth 100000 in
set_option maxHeartbeats 8000000 in
theorem c_ifrom_D {w : World} {p : Program} {loose : List Str} {mean : ExcName → Option Value} {mg mb : Str → Option Value} (x : UInt64) (n : Int) (tk : Tok) (hx : x = D n) (hn : 1721426 ≤ n ∧ n < 5373485) (news : List (Addr × Obj)) : ClP PySem.Challenge.rw_ad5013_01.row.prog w (Mine.hd.heap_39 w.params) p loose mean mg mb 12 137 [.float x tk] news (PTup3 "datetime.IsoCalendarDate" fun a b c => IsoIs n a b c ∧ (0 ≤ a ∧ a ≤ 10000) ∧ (1 ≤ b ∧ b ≤ 53) ∧ 1 ≤ c ∧ c ≤ 7) := by
  unfold ClP
  intro dp un gd cn cs a ccd cl outer A₀ base h₀ L m s Q E B F X N T hk hdp hun hret
  subst hx
  refine wpAny_call ?_
  k_dflt cell_enter
  k_steps
  all_goals (refine' cl_ret (post := (PTup3 "datetime.IsoCalendarDate" fun a b c => IsoIs n a b c ∧ (0 ≤ a ∧ a ≤ 10000) ∧ (1 ≤ b ∧ b ≤ 53) ∧ 1 ≤ c ∧ c ≤ 7)) (Q := Q) [_] hret ?e ?F ?N; (case F => k_asm); (case N => first | k_asm | exact news_skip1 (by assumption) | exact news_skip2 (by assumption)); (case e => exact ⟨_, _, _, _, _, _, _, _, rfl, rfl, by with_reducible assumption, by with_reducible assumption⟩))
local macro_rules | `(tactic| walk_at "call ref") => `(tactic| (k_here; k_dflt (refine' ClP.use (c_ifrom_D _ _ _ ?p3 ?p4) ?k1 ?k2 ?k3 ?k4 ?k5 ?kK ?kd ?ku ?_; (case p3 => (with_reducible first | rfl | exact epoch_D)); (case p4 => omega); (case k1 => k_asm); (case k2 => k_asm); (case k3 => k_asm); (case k4 => k_asm); (case k5 => k_asm); (case kK => first | exact rfl | assumption); (case kd => ktr_room); (case ku => ktr_units); intro v9 ex9 h9 tk9 P9 F9 N9; obtain ⟨x9, y9, m9, d9, ty9, tm9, td9, n9, hv9, hx9, e9, lo9⟩ := P9; subst hv9; subst hx9; (try dsimp only [List.nil_append, List.cons_append] at N9); (try dsimp only at e9); (try dsimp only); (try k_fold))))
set_option maxRecDepth 100000 in
set_option maxHeartbeats 8000000 in
theorem c_gfrom_I {w : World} {p : Program} {loose : List Str} {mean : ExcName → Option Value} {mg mb : Str → Option Value} (n : Int) (tk : Tok) (hn : -(2^39) < n ∧ n < 2^39) (news : List (Addr × Obj)) : ClP PySem.Challenge.rw_ad5013_01.row.prog w (Mine.hd.heap_39 w.params) p loose mean mg mb 8 123 [.int n tk] news (PTup3 "tuple" fun y mo d => GregIs n y mo d) := by
  unfold ClP
  intro dp un gd cn cs a ccd cl outer A₀ base h₀ L m s Q E B F X N T hk hdp hun hret
  refine wpAny_call ?_
  k_dflt cell_enter
  k_steps
  all_goals (refine' cl_ret (post := (PTup3 "tuple" fun y mo d => GregIs n y mo d)) (Q := Q) [_] hret ?e ?F ?N; (case F => k_asm); (case N => first | k_asm | exact news_skip1 (by assumption) | exact news_skip2 (by assumption)); (case e => exact ⟨_, _, _, _, _, _, _, _, rfl, rfl, by with_reducible first | exact greg_a (by assumption) (by assumption) (by assumption) (by assumption) (by assumption) | exact greg_b (by assumption) (by assumption) (by assumption) (by assumption) (by assumption) (by assumption) | exact greg_c (by assumption) (by assumption) (by assumption) (by assumption) (by assumption) (by assumption)⟩))
local macro_rules | `(tactic| walk_at "call ref") => `(tactic| (k_here; k_dflt (refine' ClP.use (c_gfrom_I _ _ ?p2) ?k1 ?k2 ?k3 ?k4 ?k5 ?kK ?kd ?ku ?_; (case p2 => omega); (case k1 => k_asm); (case k2 => k_asm); (case k3 => k_asm); (case k4 => k_asm); (case k5 => k_asm); (case kK => first | exact rfl | assumption); (case kd => ktr_room); (case ku => ktr_units); intro v9 ex9 h9 tk9 P9 F9 N9; obtain ⟨x9, y9, m9, d9, ty9, tm9, td9, n9, hv9, hx9, e9⟩ := P9; subst hv9; subst hx9; (try dsimp only [List.nil_append, List.cons_append] at N9); (try dsimp only at e9); (try dsimp only); (try k_fold))))
theorem news_drop1 {h₀ h : Heap} {L : Addr} {p : Addr × Obj} {news : List (Addr × Obj)} (N : News h₀ L h (p :: news)) : News h₀ L h ([] ++ news) := fun r hr => N r (.tail _ hr)
theorem news_drop2 {h₀ h : Heap} {L : Addr} {p q : Addr × Obj} {news : List (Addr × Obj)} (N : News h₀ L h (p :: q :: news)) : News h₀ L h ([] ++ news) := fun r hr => N r (.tail _ (.tail _ hr))
theorem news_drop3 {h₀ h : Heap} {L : Addr} {p q q' : Addr × Obj} {news : List (Addr × Obj)} (N : News h₀ L h (p :: q :: q' :: news)) : News h₀ L h ([] ++ news) := fun r hr => N r (.tail _ (.tail _ (.tail _ hr)))
theorem r_divmod {prog : Program} {w : World} {A : Around} {E : Value → Shared → Prop} {s : Shared} {Q : Value → Shared → Prop} {t u : Tok} {a b : Int} {h₀ : Heap} {L : Addr} {m : Str → Option Value} {news : List (Addr × Obj)} (F : Fr h₀ L s.heap m) (N : News h₀ L s.heap news) (hb : 0 < b) (hb2 : b < 1000000000)
    (h : ∀ x h' tk, Fr h₀ L h' m → (∀ t1 t2, t1 = s.toks → t2 = s.toks + 1 → News h₀ L h' ((x, { cls := .type "tuple", data := .seq #[.int (a / b) t1, .int (a % b) t2] }) :: news)) → Q (.ref x) { s with toks := tk, heap := h' }) :
    wpAny (model prog w) A (call (.builtin "divmod") [.int a t, .int b u]) Q E s :=
  divmod_N F N (by omega) (fun h' F' N' => h _ h' _ F' (fun t1 t2 e1 e2 => by subst e1 e2; rw [Int.fdiv_eq_ediv_of_nonneg _ (by omega), Int.fmod_eq_emod_of_nonneg _ (by omega)] at N'; exact N')) (.inl (PyProof.noPylong_small (by omega)))
local macro_rules | `(tactic| walk_at "call builtin:divmod") => `(tactic| (k_here; k_dflt (refine' r_divmod ?F ?N ?hb ?hc ?_; (case F => k_asm); (case N => k_asm); (case hb => omega); (case hc => omega); intro x9 h9 tk9 F9 N9; replace N9 := N9 _ _ rfl rfl)))
set_option maxRecDepth 100000 in
set_option maxHeartbeats 8000000 in
theorem c_ljan {w : World} {p : Program} {loose : List Str} {mean : ExcName → Option Value} {mg mb : Str → Option Value} (y : Int) (t1 : Tok) (hy : -(2^33) < y ∧ y < 2^33) (news : List (Addr × Obj)) : ClP PySem.Challenge.rw_ad5013_01.row.prog w (Mine.hd.heap_39 w.params) p loose mean mg mb 4 207 [.int y t1] news (PInt fun i => i = jan y) := by
  unfold ClP
  intro dp un gd cn cs a ccd cl outer A₀ base h₀ L m s Q E B F X N T hk hdp hun hret
  refine wpAny_call ?_
  k_dflt cell_enter
  k_steps
  all_goals (refine' cl_ret (post := (PInt fun i => i = jan y)) (Q := Q) [] hret ?e ?F ?N; (case F => k_asm); (case N => first | k_asm | exact news_skip1 (by assumption) | exact news_skip2 (by assumption) | exact news_drop1 (by assumption) | exact news_drop2 (by assumption) | exact news_drop3 (by assumption)); (case e => exact ⟨_, _, rfl, rfl, by unfold jan; omega⟩))
local macro_rules | `(tactic| walk_at "call ref") => `(tactic| (k_here; k_dflt (refine' ClP.use (c_ljan _ _ ?p2) ?k1 ?k2 ?k3 ?k4 ?k5 ?kK ?kd ?ku ?_; (case p2 => omega); (case k1 => k_asm); (case k2 => k_asm); (case k3 => k_asm); (case k4 => k_asm); (case k5 => k_asm); (case kK => first | exact rfl | assumption); (case kd => ktr_room); (case ku => ktr_units); intro v9 ex9 h9 tk9 P9 F9 N9; obtain ⟨i9, t9, hv9, hx9, e9⟩ := P9; subst hv9; subst hx9; (try dsimp only [List.nil_append, List.cons_append] at N9); (try dsimp only at e9); (try dsimp only); (try k_fold))))
set_option maxRecDepth 100000 in
set_option maxHeartbeats 8000000 in
theorem c_llong {w : World} {p : Program} {loose : List Str} {mean : ExcName → Option Value} {mg mb : Str → Option Value} (y : Int) (t1 : Tok) (news : List (Addr × Obj)) : ClP PySem.Challenge.rw_ad5013_01.row.prog w (Mine.hd.heap_39 w.params) p loose mean mg mb 2 193 [.int y t1] news (PBool (leap y)) := by
  unfold ClP
  intro dp un gd cn cs a ccd cl outer A₀ base h₀ L m s Q E B F X N T hk hdp hun hret
  refine wpAny_call ?_
  k_dflt cell_enter
  k_steps
  all_goals (refine' cl_ret (post := (PBool (leap y))) (Q := Q) [] hret ?e ?F ?N; (case F => k_asm); (case N => first | k_asm | exact news_skip1 (by assumption) | exact news_skip2 (by assumption) | exact news_drop1 (by assumption) | exact news_drop2 (by assumption) | exact news_drop3 (by assumption)); (case e => exact ⟨vbool (by simp_all [leap]; try omega), rfl⟩))
local macro_rules | `(tactic| walk_at "call ref") => `(tactic| (k_here; k_dflt (refine' ClP.use (c_llong _ _) ?k1 ?k2 ?k3 ?k4 ?k5 ?kK ?kd ?ku ?_; (case k1 => k_asm); (case k2 => k_asm); (case k3 => k_asm); (case k4 => k_asm); (case k5 => k_asm); (case kK => first | exact rfl | assumption); (case kd => ktr_room); (case ku => ktr_units); intro v9 ex9 h9 tk9 P9 F9 N9; obtain ⟨hv9, hx9⟩ := P9; subst hv9; subst hx9; (try dsimp only [List.nil_append, List.cons_append] at N9); (try dsimp only at e9); (try dsimp only); (try k_fold))))
set_option maxRecDepth 100000 in
set_option maxHeartbeats 8000000 in
theorem c_lday {w : World} {p : Program} {loose : List Str} {mean : ExcName → Option Value} {mg mb : Str → Option Value} (x : UInt64) (n : Int) (tk : Tok) (hx : x = D n) (hn : -(2^46) < n ∧ n < 2^46) (news : List (Addr × Obj)) : ClP PySem.Challenge.rw_ad5013_01.row.prog w (Mine.hd.heap_39 w.params) p loose mean mg mb 2 179 [.float x tk] news (PInt fun i => i = n) := by
  unfold ClP
  intro dp un gd cn cs a ccd cl outer A₀ base h₀ L m s Q E B F X N T hk hdp hun hret
  subst hx
  refine wpAny_call ?_
  k_dflt cell_enter
  k_steps
  all_goals (refine' cl_ret (post := (PInt fun i => i = n)) (Q := Q) [] hret ?e ?F ?N; (case F => k_asm); (case N => first | k_asm | exact news_skip1 (by assumption) | exact news_skip2 (by assumption) | exact news_drop1 (by assumption) | exact news_drop2 (by assumption) | exact news_drop3 (by assumption)); (case e => exact ⟨_, _, rfl, rfl, by omega⟩))
local macro_rules | `(tactic| walk_at "call ref") => `(tactic| (k_here; k_dflt (refine' ClP.use (c_lday _ _ _ ?p3 ?p4) ?k1 ?k2 ?k3 ?k4 ?k5 ?kK ?kd ?ku ?_; (case p3 => (with_reducible first | rfl | exact epoch_D)); (case p4 => omega); (case k1 => k_asm); (case k2 => k_asm); (case k3 => k_asm); (case k4 => k_asm); (case k5 => k_asm); (case kK => first | exact rfl | assumption); (case kd => ktr_room); (case ku => ktr_units); intro v9 ex9 h9 tk9 P9 F9 N9; obtain ⟨i9, t9, hv9, hx9, e9⟩ := P9; subst hv9; subst hx9; (try dsimp only [List.nil_append, List.cons_append] at N9); (try dsimp only at e9); (try dsimp only); (try k_fold))))
/-- the walk stops at a loop -/
def Stop (P : Prop) : Prop := P
theorem stop_in {M : Model} {A : Around} {E : Value → Shared → Prop} {s : Shared} {v : Value} {Q : Value → Shared → Prop} (h : Stop (wpAny M A (pyIter v) Q E s)) : wpAny M A (pyIter v) Q E s := h
theorem news_take1 {h₀ h : Heap} {L : Addr} {p q1 : Addr × Obj} {news own : List (Addr × Obj)} (N : News h₀ L h (p :: ((q1 :: news) ++ own))) : News h₀ L h ([p] ++ news) := fun r hr => N r (by simp only [List.cons_append, List.nil_append, List.mem_cons, List.mem_append] at hr ⊢; rcases hr with e | e <;> simp [e])
theorem news_take2 {h₀ h : Heap} {L : Addr} {p q1 q2 : Addr × Obj} {news own : List (Addr × Obj)} (N : News h₀ L h (p :: ((q1 :: q2 :: news) ++ own))) : News h₀ L h ([p] ++ news) := fun r hr => N r (by simp only [List.cons_append, List.nil_append, List.mem_cons, List.mem_append] at hr ⊢; rcases hr with e | e <;> simp [e])
theorem news_take3 {h₀ h : Heap} {L : Addr} {p q1 q2 q3 : Addr × Obj} {news own : List (Addr × Obj)} (N : News h₀ L h (p :: ((q1 :: q2 :: q3 :: news) ++ own))) : News h₀ L h ([p] ++ news) := fun r hr => N r (by simp only [List.cons_append, List.nil_append, List.mem_cons, List.mem_append] at hr ⊢; rcases hr with e | e <;> simp [e])
theorem news_take4 {h₀ h : Heap} {L : Addr} {p q1 q2 q3 q4 : Addr × Obj} {news own : List (Addr × Obj)} (N : News h₀ L h (p :: ((q1 :: q2 :: q3 :: q4 :: news) ++ own))) : News h₀ L h ([p] ++ news) := fun r hr => N r (by simp only [List.cons_append, List.nil_append, List.mem_cons, List.mem_append] at hr ⊢; rcases hr with e | e <;> simp [e])
theorem stop_range {M : Model} {A : Around} {E : Value → Shared → Prop} {s : Shared} {r : Addr} {a b c : Int} {t u v : Tok} {Q : Value → Shared → Prop} (_hr : IsRange s.heap r a b c t u v) (h : Stop (wpAny M A (pyIter (.ref r)) Q E s)) : wpAny M A (pyIter (.ref r)) Q E s := h
def feb (b : Bool) : Int := if b then 29 else 28
abbrev sizesObj (b : Bool) (u : Nat → Tok) : Obj := listOf #[.int 31 (u 0), .int (feb b) (u 1), .int 31 (u 2), .int 30 (u 3), .int 31 (u 4), .int 30 (u 5), .int 31 (u 6), .int 31 (u 7), .int 30 (u 8), .int 31 (u 9), .int 30 (u 10), .int 31 (u 11)] 0
def PSizes (b : Bool) (v : Value) (ex : List (Addr × Obj)) : Prop := ∃ l u, v = .ref l ∧ ex = [(l, sizesObj b u)]
set_option maxRecDepth 100000 in
set_option maxHeartbeats 8000000 in
theorem c_lsizes {w : World} {p : Program} {loose : List Str} {mean : ExcName → Option Value} {mg mb : Str → Option Value} (b : Bool) (news : List (Addr × Obj)) : ClP PySem.Challenge.rw_ad5013_01.row.prog w (Mine.hd.heap_39 w.params) p loose mean mg mb 2 200 [.bool b] news (PSizes b) := by
  unfold ClP
  intro dp un gd cn cs a ccd cl outer A₀ base h₀ L m s Q E B F X N T hk hdp hun hret
  cases b
  all_goals
    refine wpAny_call ?_
    k_dflt cell_enter
    k_steps
    refine' cl_ret (post := PSizes _) (Q := Q) [_] hret ?e ?F ?N
    (case F => k_asm)
    (case N => k_asm)
    (case e => exact ⟨_, fun i => _ + i, rfl, rfl⟩)
local macro_rules | `(tactic| walk_at "call ref") => `(tactic| (k_here; k_dflt (refine' ClP.use (c_lsizes _) ?k1 ?k2 ?k3 ?k4 ?k5 ?kK ?kd ?ku ?_; (case k1 => k_asm); (case k2 => k_asm); (case k3 => k_asm); (case k4 => k_asm); (case k5 => k_asm); (case kK => first | exact rfl | assumption); (case kd => ktr_room); (case ku => ktr_units); intro v9 ex9 h9 tk9 P9 F9 N9; obtain ⟨l9, u9, hv9, hx9⟩ := P9; subst hv9; subst hx9; (try dsimp only [List.nil_append, List.cons_append] at N9); (try dsimp only at e9); (try dsimp only); (try k_fold))))
local macro_rules | `(tactic| walk_at "pyIter ref") => `(tactic| (k_here; k_dflt (refine stop_range (by assumption) ?_)))
set_option maxRecDepth 100000 in
set_option maxHeartbeats 8000000 in
theorem c_lgreg {w : World} {p : Program} {loose : List Str} {mean : ExcName → Option Value} {mg mb : Str → Option Value} (n : Int) (t1 : Tok) (hn : -(2^38) < n ∧ n < 2^38) (news : List (Addr × Obj)) : ClP PySem.Challenge.rw_ad5013_01.row.prog w (Mine.hd.heap_39 w.params) p loose mean mg mb 6 186 [.int n t1] news (PTup3 "tuple" fun y mo d => GregIs n y mo d ∧ -(2^30) < y ∧ y < 2^30) := by
  unfold ClP
  intro dp un gd cn cs a ccd cl outer A₀ base h₀ L m s Q E B F X N T hk hdp hun hret
  refine wpAny_call ?_
  k_dflt cell_enter
  k_steps
  unfold Stop
  (rename Fr _ _ _ _ => FA1); (rename News _ _ _ _ => NA1); (rename IsRange _ _ _ _ _ _ _ _ => RA1)
  refine' loop01 36524 100 3 ?hh ?hr ?ha ?hb ?hn ?F ?N ?h1 ?h2 ?h0 ?turn ?done
  case F => exact FA1
  case N => exact NA1
  case hr => exact RA1
  case hh => rfl
  case ha => rfl
  case hb => rfl
  case hn => decide
  case h1 => with_unfolding_all rfl
  case h2 => with_unfolding_all rfl
  case h0 => omega
  case turn =>
    intro i k rv yv jv t tr ty m1 h tk own hi hj0 hj1 hr hy hr0 hrc F2 N2
    (try k_fold)
    k_steps
    all_goals
      refine' InvEndN.intro ?F ?N ?J rfl ?in1 ?in2
      (case F => k_asm)
      (case N => k_asm)
      (case in1 => exact fun p hp => List.mem_append_left _ hp)
      (case in2 => exact fun p hp => List.mem_append_right _ hp)
      (case J => first
        | exact ⟨rfl, _, _, jv + 1, _, _, rfl, rfl, by omega, by omega, by omega, by omega, by omega, by omega⟩
        | exact ⟨rfl, _, _, jv, _, _, rfl, rfl, by omega, by omega, by omega, by omega, by omega, by omega⟩)
  case done =>
    intro rv1 yv1 jv1 tr1 ty1 m1 h1 tk1 hj1 hk1 hr1 hy1 hp1 hc1 FB1 NB1
    (try k_fold)
    k_steps
    unfold Stop
    (rename Fr _ _ _ _ => FA2); (rename News _ _ _ _ => NA2); (rename IsRange _ _ _ _ _ _ _ _ => RA2)
    refine' loop01 1461 4 24 ?hh ?hr ?ha ?hb ?hn ?F ?N ?h1 ?h2 ?h0 ?turn ?done
    case F => exact FA2
    case N => exact NA2
    case hr => exact RA2
    case hh => rfl
    case ha => rfl
    case hb => rfl
    case hn => decide
    case h1 => with_unfolding_all rfl
    case h2 => with_unfolding_all rfl
    case h0 => omega
    case turn =>
      intro i k rv yv jv t tr ty m1 h tk own hi hj0 hj1 hr hy hr0 hrc F2 N2
      (try k_fold)
      k_steps
      all_goals
        refine' InvEndN.intro ?F ?N ?J rfl ?in1 ?in2
        (case F => k_asm)
        (case N => k_asm)
        (case in1 => exact fun p hp => List.mem_append_left _ hp)
        (case in2 => exact fun p hp => List.mem_append_right _ hp)
        (case J => first
          | exact ⟨rfl, _, _, jv + 1, _, _, rfl, rfl, by omega, by omega, by omega, by omega, by omega, by omega⟩
          | exact ⟨rfl, _, _, jv, _, _, rfl, rfl, by omega, by omega, by omega, by omega, by omega, by omega⟩)
    case done =>
      intro rv2 yv2 jv2 tr2 ty2 m2 h2 tk2 hj2 hk2 hr2 hy2 hp2 hc2 FB2 NB2
      (try k_fold)
      k_steps
      unfold Stop
      (rename Fr _ _ _ _ => FA3); (rename News _ _ _ _ => NA3); (rename IsRange _ _ _ _ _ _ _ _ => RA3)
      refine' loop01 365 1 3 ?hh ?hr ?ha ?hb ?hn ?F ?N ?h1 ?h2 ?h0 ?turn ?done
      case F => exact FA3
      case N => exact NA3
      case hr => exact RA3
      case hh => rfl
      case ha => rfl
      case hb => rfl
      case hn => decide
      case h1 => with_unfolding_all rfl
      case h2 => with_unfolding_all rfl
      case h0 => omega
      case turn =>
        intro i k rv yv jv t tr ty m1 h tk own hi hj0 hj1 hr hy hr0 hrc F2 N2
        (try k_fold)
        k_steps
        all_goals
          refine' InvEndN.intro ?F ?N ?J rfl ?in1 ?in2
          (case F => k_asm)
          (case N => k_asm)
          (case in1 => exact fun p hp => List.mem_append_left _ hp)
          (case in2 => exact fun p hp => List.mem_append_right _ hp)
          (case J => first
            | exact ⟨rfl, _, _, jv + 1, _, _, rfl, rfl, by omega, by omega, by omega, by omega, by omega, by omega⟩
            | exact ⟨rfl, _, _, jv, _, _, rfl, rfl, by omega, by omega, by omega, by omega, by omega, by omega⟩)
      case done =>
        intro rv3 yv3 jv3 tr3 ty3 m3 h3 tk3 hj3 hk3 hr3 hy3 hp3 hc3 FB3 NB3
        (try k_fold)
        k_steps
        have hyl := year_law (n := n) rfl hj1 hk1 hr1 hy1 hp1 hc1 hj2 hk2 hr2 hy2 hp2 hc2 hj3 hk3 hr3 hy3 hp3 hc3
        obtain ⟨hYI, hrj⟩ := hyl
        have hlen := leap_len yv3
        have hYI2 := hYI.2
        (rename Fr _ _ _ _ => FM); (rename News _ _ _ _ => NM)
        refine' loopM (ns := sizesL (leap yv3)) ?hh ?hl ?hi ?F ?N ?h1 ?h2 ?h3 ?h0 ?hs ?turn
        case F => exact FM
        case N => exact NM
        case hl => k_mem
        case hi => exact .cons _ _ (.cons _ _ (.cons _ _ (.cons _ _ (.cons _ _ (.cons _ _ (.cons _ _ (.cons _ _ (.cons _ _ (.cons _ _ (.cons _ _ (.cons _ _ .nil)))))))))))
        case hh => rfl
        case h1 => with_unfolding_all rfl
        case h2 => with_unfolding_all rfl
        case h3 => with_unfolding_all rfl
        case h0 => omega
        case hs => rw [sizes_sum]; omega
        case turn =>
          intro i sz r mo t tr tm ty m1 h tk own hsz hmo hr hr0 F2 N2
          (try k_fold)
          k_steps
          · refine' cl_ret (post := (PTup3 "tuple" fun y mo d => GregIs n y mo d ∧ -(2^30) < y ∧ y < 2^30)) (Q := Q) [_] hret ?e ?F ?N
            (case F => k_asm)
            (case N => first | exact news_take1 (by assumption) | exact news_take2 (by assumption) | exact news_take3 (by assumption) | exact news_take4 (by assumption))
            (case e => exact ⟨_, _, _, _, _, _, _, _, rfl, rfl, by subst hmo; exact greg_law hYI hrj hsz hr hr0 (by assumption), year_range30 hn hYI⟩)
          · refine' InvEndN.intro ?F ?N ?J rfl ?in1 ?in2
            (case F => k_asm)
            (case N => k_asm)
            (case in1 => exact fun p hp => List.mem_append_left _ hp)
            (case in2 => exact fun p hp => List.mem_append_right _ hp)
            (case J => exact ⟨by k_mem, rfl, _, _, _, _, _, rfl, rfl, rfl, by omega, by rw [take_next hsz]; omega, by omega⟩)
local macro_rules | `(tactic| walk_at "call ref") => `(tactic| (k_here; k_dflt (refine' ClP.use (c_lgreg _ _ ?p2) ?k1 ?k2 ?k3 ?k4 ?k5 ?kK ?kd ?ku ?_; (case p2 => omega); (case k1 => k_asm); (case k2 => k_asm); (case k3 => k_asm); (case k4 => k_asm); (case k5 => k_asm); (case kK => first | exact rfl | assumption); (case kd => ktr_room); (case ku => ktr_units); intro v9 ex9 h9 tk9 P9 F9 N9; obtain ⟨x9, y9, m9, d9, ty9, tm9, td9, n9, hv9, hx9, e9, lo9⟩ := P9; subst hv9; subst hx9; (try dsimp only [List.nil_append, List.cons_append] at N9); (try dsimp only at e9); (try dsimp only); (try k_fold))))
theorem iso_law {n y mo d j : Int} (h : GregIs (n - n % 7 + 3) y mo d) (hj : j = jan y) : IsoIs n y ((n - n % 7 + 3 - j) / 7 + 1) (n % 7 + 1) ∧ 1 ≤ (n - n % 7 + 3 - j) / 7 + 1 ∧ (n - n % 7 + 3 - j) / 7 + 1 ≤ 53 ∧ 1 ≤ n % 7 + 1 ∧ n % 7 + 1 ≤ 7 := by
  have hI : IsoIs n y ((n - n % 7 + 3 - j) / 7 + 1) (n % 7 + 1) := by subst hj; exact ⟨h.1.1, h.1.2, rfl, rfl⟩
  exact ⟨hI, iso_bounds hI⟩
set_option maxRecDepth 100000 in
set_option maxHeartbeats 8000000 in
theorem c_liso {w : World} {p : Program} {loose : List Str} {mean : ExcName → Option Value} {mg mb : Str → Option Value} (n : Int) (t1 : Tok) (hn : -(2^37) < n ∧ n < 2^37) (news : List (Addr × Obj)) : ClP PySem.Challenge.rw_ad5013_01.row.prog w (Mine.hd.heap_39 w.params) p loose mean mg mb 10 214 [.int n t1] news (PTup3 "tuple" fun y w d => (IsoIs n y w d ∧ 1 ≤ w ∧ w ≤ 53 ∧ 1 ≤ d ∧ d ≤ 7) ∧ -(2^30) < y ∧ y < 2^30) := by
  unfold ClP
  intro dp un gd cn cs a ccd cl outer A₀ base h₀ L m s Q E B F X N T hk hdp hun hret
  refine wpAny_call ?_
  k_dflt cell_enter
  k_steps
  all_goals (refine' cl_ret (post := (PTup3 "tuple" fun y w d => (IsoIs n y w d ∧ 1 ≤ w ∧ w ≤ 53 ∧ 1 ≤ d ∧ d ≤ 7) ∧ -(2^30) < y ∧ y < 2^30)) (Q := Q) [_] hret ?e ?F ?N; (case F => k_asm); (case N => first | k_asm | exact news_skip1 (by assumption) | exact news_skip2 (by assumption) | exact news_drop1 (by assumption) | exact news_drop2 (by assumption) | exact news_drop3 (by assumption)); (case e => exact ⟨_, _, _, _, _, _, _, _, rfl, rfl, by with_reducible exact iso_law (by assumption) (by assumption), by assumption⟩))
local macro_rules | `(tactic| walk_at "call ref") => `(tactic| (k_here; k_dflt (refine' ClP.use (c_liso _ _ ?p2) ?k1 ?k2 ?k3 ?k4 ?k5 ?kK ?kd ?ku ?_; (case p2 => omega); (case k1 => k_asm); (case k2 => k_asm); (case k3 => k_asm); (case k4 => k_asm); (case k5 => k_asm); (case kK => first | exact rfl | assumption); (case kd => ktr_room); (case ku => ktr_units); intro v9 ex9 h9 tk9 P9 F9 N9; obtain ⟨x9, y9, m9, d9, ty9, tm9, td9, n9, hv9, hx9, ⟨e9, lo9⟩, up9⟩ := P9; subst hv9; subst hx9; (try dsimp only [List.nil_append, List.cons_append] at N9); (try dsimp only at e9); (try dsimp only); (try k_fold))))
local macro_rules | `(tactic| walk_at "exec While") => `(tactic| (k_here; refine stop_while ?_))
local macro_rules | `(tactic| walk_at "call type:range") => `(tactic| (k_here; k_dflt (refine' r_range7 ?F ?N ?h ?_; (case F => k_asm); (case N => k_asm); (case h => omega); intro r9 h9 tk9 t9 u9 w9 R9 F9 N9)))
local macro_rules | `(tactic| walk_at "call type:list") => `(tactic| (k_here; k_dflt (refine' r_list7 ?hh ?F ?N ?hr ?h ?_; (case hh => rfl); (case F => k_asm); (case N => k_asm); (case hr => assumption); (case h => omega); intro D9 us9 c9 h9 tk9 F9 N9 l9)))
local macro_rules | `(tactic| walk_at "call builtin:len") => `(tactic| (k_here; k_dflt (refine' r_len ?N ?hl ?hn ?h ?_; (case N => k_asm); (case hl => k_mem); (case hn => with_reducible assumption); (case h => omega))))
set_option maxRecDepth 100000 in
set_option maxHeartbeats 8000000 in
theorem c_lthu {w : World} {p : Program} {loose : List Str} {mean : ExcName → Option Value} {mg mb : Str → Option Value} (y : Int) (t1 : Tok) (hy : -(2^32) < y ∧ y < 2^32) (news : List (Addr × Obj)) : ClP PySem.Challenge.rw_ad5013_01.row.prog w (Mine.hd.heap_39 w.params) p loose mean mg mb 6 221 [.int y t1] news (PInt fun i => i = wk y ∧ 52 ≤ i ∧ i ≤ 53) := by
  unfold ClP
  intro dp un gd cn cs a ccd cl outer A₀ base h₀ L m s Q E B F X N T hk hdp hun hret
  refine wpAny_call ?_
  k_dflt cell_enter
  k_steps
  unfold Stop1
  (rename Fr _ _ _ _ => FA); (rename News _ _ _ _ => NA)
  refine' loopW (y := y) ?F ?N ?h1 ?h2 ?turn ?hE
  case F => exact FA
  case N => exact NA
  case h1 => with_unfolding_all rfl
  case h2 => with_unfolding_all rfl
  case hE => passes_own
  case turn =>
    intro n k t ty m1 h tk hk0 hk1 hn F2 N2
    (try k_fold)
    k_steps
    refine fork_ne (fun hb => ?_) (fun hb => ?_)
    · (try k_fold)
      k_steps
      refine' WhileStep.intro (n' := n - 1) ?F ?N ?n ?J
      (case F => k_asm)
      (case N => k_asm)
      (case n => omega)
      (case J => exact ⟨rfl, k + 1, _, _, rfl, rfl, by omega, by omega, by omega⟩)
    · (try k_fold)
      k_steps
      all_goals (refine' cl_ret (post := (PInt fun i => i = wk y ∧ 52 ≤ i ∧ i ≤ 53)) (Q := Q) [] hret ?e ?F ?N; (case F => k_asm); (case N => first | k_asm | exact news_skip1 (by assumption) | exact news_skip2 (by assumption) | exact news_drop1 (by assumption) | exact news_drop2 (by assumption) | exact news_drop3 (by assumption)); (case e => exact ⟨_, _, rfl, rfl, by first | exact thursdays (f := k) (by assumption) (by assumption) (by omega) (by simp_all [b2i]) | skip⟩))
local macro_rules | `(tactic| walk_at "call ref") => `(tactic| (k_here; k_dflt (refine' ClP.use (c_lthu _ _ ?p2) ?k1 ?k2 ?k3 ?k4 ?k5 ?kK ?kd ?ku ?_; (case p2 => omega); (case k1 => k_asm); (case k2 => k_asm); (case k3 => k_asm); (case k4 => k_asm); (case k5 => k_asm); (case kK => first | exact rfl | assumption); (case kd => ktr_room); (case ku => ktr_units); intro v9 ex9 h9 tk9 P9 F9 N9; obtain ⟨i9, t9, hv9, hx9, e9, lo9, hi9⟩ := P9; subst hv9; subst hx9; (try dsimp only [List.nil_append, List.cons_append] at N9); (try dsimp only at e9); (try dsimp only); (try k_fold))))
set_option maxRecDepth 100000 in
set_option maxHeartbeats 8000000 in
theorem c_to_jd_is {w : World} {p : Program} {loose : List Str} {mean : ExcName → Option Value} {mg mb : Str → Option Value} (n y wk d : Int) (t1 t2 t3 : Tok) (hI : IsoIs n y wk d) (hy : -(2^32) < y ∧ y < 2^32) (hw : 0 < wk ∧ wk < 1000) (hdd : -1000 < d ∧ d < 1000) (news : List (Addr × Obj)) : ClP PySem.Challenge.rw_ad5013_01.row.prog w (Mine.hd.heap_39 w.params) p loose mean mg mb 14 130 [.int y t1, .int wk t2, .int d t3] news (PDay fun j => j = n) := by
  intro dp un gd cn cs a ccd cl outer A₀ base h₀ L m s Q E B F X N T hk hdp hun hret
  refine c_to_jd y wk d t1 t2 t3 hy hw hdd news dp un gd cn cs a ccd cl outer A₀ base h₀ L m s Q E B F X N T hk hdp hun ?_
  rintro v ex h' tk' ⟨j, t, hv, hx, e, lo, hi⟩ F9 N9
  exact hret v ex h' tk' ⟨j, t, hv, hx, e.trans (isoJd_is hI)⟩ F9 N9
set_option maxRecDepth 100000 in
set_option maxHeartbeats 8000000 in
theorem c_to_jd_low {w : World} {p : Program} {loose : List Str} {mean : ExcName → Option Value} {mg mb : Str → Option Value} (y wk d : Int) (t1 t2 t3 : Tok) (hy : -(2^27) < y ∧ y < 2^27) (hw : 0 < wk ∧ wk < 100) (hdd : 0 < d ∧ d < 100) (news : List (Addr × Obj)) : ClP PySem.Challenge.rw_ad5013_01.row.prog w (Mine.hd.heap_39 w.params) p loose mean mg mb 14 130 [.int y t1, .int wk t2, .int d t3] news (PDay fun j => j = isoJd y wk d ∧ -(2^36) < j ∧ j < 2^36) := by
  intro dp un gd cn cs a ccd cl outer A₀ base h₀ L m s Q E B F X N T hk hdp hun hret
  refine c_to_jd y wk d t1 t2 t3 (by omega) (by omega) (by omega) news dp un gd cn cs a ccd cl outer A₀ base h₀ L m s Q E B F X N T hk hdp hun ?_
  rintro v ex h' tk' ⟨j, t, hv, hx, e, lo, hi⟩ F9 N9
  exact hret v ex h' tk' ⟨j, t, hv, hx, e, by rw [e]; exact isoJd_range hy hw hdd⟩ F9 N9
local macro_rules | `(tactic| walk_at "call ref") => `(tactic| (k_here; k_dflt (refine' ClP.use (c_to_jd_low _ _ _ _ _ _ ?p6 ?p7 ?p8) ?k1 ?k2 ?k3 ?k4 ?k5 ?kK ?kd ?ku ?_; (case p6 => omega); (case p7 => omega); (case p8 => omega); (case k1 => k_asm); (case k2 => k_asm); (case k3 => k_asm); (case k4 => k_asm); (case k5 => k_asm); (case kK => first | exact rfl | assumption); (case kd => ktr_room); (case ku => ktr_units); intro v9 ex9 h9 tk9 P9 F9 N9; obtain ⟨j9, t9, hv9, hx9, e9, lo9, hi9⟩ := P9; subst hv9; subst hx9; (try dsimp only [List.nil_append, List.cons_append] at N9); (try dsimp only at e9); (try dsimp only); (try k_fold))))
local macro_rules | `(tactic| walk_at "call ref") => `(tactic| (k_here; k_dflt (refine' ClP.use (c_to_jd_is _ _ _ _ _ _ _ ?p7 ?p8 ?p9 ?p10) ?k1 ?k2 ?k3 ?k4 ?k5 ?kK ?kd ?ku ?_; (case p7 => with_reducible assumption); (case p8 => omega); (case p9 => omega); (case p10 => omega); (case k1 => k_asm); (case k2 => k_asm); (case k3 => k_asm); (case k4 => k_asm); (case k5 => k_asm); (case kK => first | exact rfl | assumption); (case kd => ktr_room); (case ku => ktr_units); intro v9 ex9 h9 tk9 P9 F9 N9; obtain ⟨i9, t9, hv9, hx9, e9⟩ := P9; subst hv9; subst hx9; (try dsimp only [List.nil_append, List.cons_append] at N9); (try dsimp only at e9); (try dsimp only); (try k_fold))))
set_option maxRecDepth 100000 in
set_option maxHeartbeats 8000000 in
theorem c_to_greg {w : World} {p : Program} {loose : List Str} {mean : ExcName → Option Value} {mg mb : Str → Option Value} (n y wk d : Int) (t1 t2 t3 : Tok) (hI : IsoIs n y wk d) (hy : -(2^32) < y ∧ y < 2^32) (hw : 0 < wk ∧ wk < 1000) (hdd : -1000 < d ∧ d < 1000) (hn : -(2^39) < n ∧ n < 2^39) (news : List (Addr × Obj)) : ClP PySem.Challenge.rw_ad5013_01.row.prog w (Mine.hd.heap_39 w.params) p loose mean mg mb 18 158 [.int y t1, .int wk t2, .int d t3] news (PTup3 "tuple" fun y mo d => GregIs n y mo d) := by
  unfold ClP
  intro dp un gd cn cs a ccd cl outer A₀ base h₀ L m s Q E B F X N T hk hdp hun hret
  refine wpAny_call ?_
  k_dflt cell_enter
  k_steps
  all_goals (refine' cl_ret (post := (PTup3 "tuple" fun y mo d => GregIs n y mo d)) (Q := Q) [_] hret ?e ?F ?N; (case F => k_asm); (case N => first | k_asm | exact news_skip1 (by assumption) | exact news_skip2 (by assumption) | exact news_drop1 (by assumption) | exact news_drop2 (by assumption) | exact news_drop3 (by assumption)); (case e => exact ⟨_, _, _, _, _, _, _, _, rfl, rfl, by first | with_reducible assumption | (subst_vars; with_reducible assumption)⟩))
local macro_rules | `(tactic| walk_at "call ref") => `(tactic| (k_here; k_dflt (refine' ClP.use (c_to_greg _ _ _ _ _ _ _ ?p7 ?p8 ?p9 ?p10 ?p11) ?k1 ?k2 ?k3 ?k4 ?k5 ?kK ?kd ?ku ?_; (case p7 => with_reducible assumption); (case p8 => omega); (case p9 => omega); (case p10 => omega); (case p11 => omega); (case k1 => k_asm); (case k2 => k_asm); (case k3 => k_asm); (case k4 => k_asm); (case k5 => k_asm); (case kK => first | exact rfl | assumption); (case kd => ktr_room); (case ku => ktr_units); intro v9 ex9 h9 tk9 P9 F9 N9; obtain ⟨x9, y9, m9, d9, ty9, tm9, td9, n9, hv9, hx9, e9⟩ := P9; subst hv9; subst hx9; (try dsimp only [List.nil_append, List.cons_append] at N9); (try dsimp only at e9); (try dsimp only); (try k_fold))))
set_option maxRecDepth 100000 in
set_option maxHeartbeats 8000000 in
theorem c_ifrom_I {w : World} {p : Program} {loose : List Str} {mean : ExcName → Option Value} {mg mb : Str → Option Value} (n : Int) (tk : Tok) (hn : 1721426 ≤ n ∧ n < 5373485) (news : List (Addr × Obj)) : ClP PySem.Challenge.rw_ad5013_01.row.prog w (Mine.hd.heap_39 w.params) p loose mean mg mb 12 137 [.int n tk] news (PTup3 "datetime.IsoCalendarDate" fun a b c => IsoIs n a b c ∧ (0 ≤ a ∧ a ≤ 10000) ∧ (1 ≤ b ∧ b ≤ 53) ∧ 1 ≤ c ∧ c ≤ 7) := by
  unfold ClP
  intro dp un gd cn cs a ccd cl outer A₀ base h₀ L m s Q E B F X N T hk hdp hun hret
  refine wpAny_call ?_
  k_dflt cell_enter
  k_steps
  all_goals (refine' cl_ret (post := (PTup3 "datetime.IsoCalendarDate" fun a b c => IsoIs n a b c ∧ (0 ≤ a ∧ a ≤ 10000) ∧ (1 ≤ b ∧ b ≤ 53) ∧ 1 ≤ c ∧ c ≤ 7)) (Q := Q) [_] hret ?e ?F ?N; (case F => k_asm); (case N => first | k_asm | exact news_skip1 (by assumption) | exact news_skip2 (by assumption) | exact news_drop1 (by assumption) | exact news_drop2 (by assumption) | exact news_drop3 (by assumption)); (case e => exact ⟨_, _, _, _, _, _, _, _, rfl, rfl, by with_reducible assumption, by with_reducible assumption⟩))
local macro_rules | `(tactic| walk_at "call ref") => `(tactic| (k_here; k_dflt (refine' ClP.use (c_ifrom_I _ _ ?p2) ?k1 ?k2 ?k3 ?k4 ?k5 ?kK ?kd ?ku ?_; (case p2 => first | omega | exact greg_range (by with_reducible assumption) (by omega)); (case k1 => k_asm); (case k2 => k_asm); (case k3 => k_asm); (case k4 => k_asm); (case k5 => k_asm); (case kK => first | exact rfl | assumption); (case kd => ktr_room); (case ku => ktr_units); intro v9 ex9 h9 tk9 P9 F9 N9; obtain ⟨x9, y9, m9, d9, ty9, tm9, td9, n9, hv9, hx9, e9, lo9⟩ := P9; subst hv9; subst hx9; (try dsimp only [List.nil_append, List.cons_append] at N9); (try dsimp only at e9); (try dsimp only); (try k_fold))))
set_option maxRecDepth 100000 in
set_option maxHeartbeats 8000000 in
theorem c_lyear {w : World} {p : Program} {loose : List Str} {mean : ExcName → Option Value} {mg mb : Str → Option Value} (n : Int) (t1 : Tok) (news : List (Addr × Obj)) : ClP PySem.Challenge.rw_ad5013_01.row.prog w (Mine.hd.heap_39 w.params) p loose mean mg mb 2 172 [.int n t1] news (PInt fun i => -(2^27) < i ∧ i < 2^27) := by
  unfold ClP
  intro dp un gd cn cs a ccd cl outer A₀ base h₀ L m s Q E B F X N T hk hdp hun hret
  refine wpAny_call ?_
  k_dflt cell_enter
  k_steps
  all_goals (refine' cl_ret (post := (PInt fun i => -(2^27) < i ∧ i < 2^27)) (Q := Q) [] hret ?e ?F ?N; (case F => k_asm); (case N => first | k_asm | exact news_skip1 (by assumption) | exact news_skip2 (by assumption) | exact news_drop1 (by assumption) | exact news_drop2 (by assumption) | exact news_drop3 (by assumption)); (case e => exact ⟨_, _, rfl, rfl, by with_reducible first | exact fm8 _ | exact fm8n _ | omega⟩))
local macro_rules | `(tactic| walk_at "call ref") => `(tactic| (k_here; k_dflt (refine' ClP.use (c_lyear _ _) ?k1 ?k2 ?k3 ?k4 ?k5 ?kK ?kd ?ku ?_; (case k1 => k_asm); (case k2 => k_asm); (case k3 => k_asm); (case k4 => k_asm); (case k5 => k_asm); (case kK => first | exact rfl | assumption); (case kd => ktr_room); (case ku => ktr_units); intro v9 ex9 h9 tk9 P9 F9 N9; obtain ⟨i9, t9, hv9, hx9, lo9, hi9⟩ := P9; subst hv9; subst hx9; (try dsimp only [List.nil_append, List.cons_append] at N9); (try dsimp only at e9); (try dsimp only); (try k_fold))))
set_option maxRecDepth 100000 in
set_option maxHeartbeats 8000000 in
theorem c_ljan_low {w : World} {p : Program} {loose : List Str} {mean : ExcName → Option Value} {mg mb : Str → Option Value} (y : Int) (t1 : Tok) (hy : -(2^27) < y ∧ y < 2^27) (news : List (Addr × Obj)) : ClP PySem.Challenge.rw_ad5013_01.row.prog w (Mine.hd.heap_39 w.params) p loose mean mg mb 4 207 [.int y t1] news (PInt fun i => i = jan y ∧ -(2 ^ 36) + 1000000 < i ∧ i < 2 ^ 36 - 1000000) := by
  intro dp un gd cn cs a ccd cl outer A₀ base h₀ L m s Q E B F X N T hk hdp hun hret
  refine c_ljan y t1 (by omega) news dp un gd cn cs a ccd cl outer A₀ base h₀ L m s Q E B F X N T hk hdp hun ?_
  rintro v ex h' tk' ⟨j, t, hv, hx, e⟩ F9 N9
  exact hret v ex h' tk' ⟨j, t, hv, hx, e, by rw [e]; exact jan_range hy⟩ F9 N9
theorem r_sizes {prog : Program} {w : World} {A : Around} {E : Value → Shared → Prop} {s : Shared} {h₀ : Heap} {L : Addr} {news : List (Addr × Obj)} {value slice : Expr} {l : Addr} {y m k : Int} {tk : Tok} {u : Nat → Tok} {Q : Value → Shared → Prop}
    (N : News h₀ L s.heap news) (hl : (l, sizesObj (leap y) u) ∈ news) (hk : k = m - 1) (hm : 1 ≤ m ∧ m ≤ 12) (h : ∀ t, Q (.int (dim y m) t) s)
    (hs : subscripted slice false (.ref l) (.int k tk) = operate [.ref l, .int k tk] (getItem (.ref l) (.int k tk))) : wpAny (model prog w) A (subscriptTail value slice (.ref l) (.int k tk)) Q E s := by
  have hz : ∃ t, (sizesObj (leap y) u).data = (sizesObj (leap y) u).data ∧ (#[Value.int 31 (u 0), .int (feb (leap y)) (u 1), .int 31 (u 2), .int 30 (u 3), .int 31 (u 4), .int 30 (u 5), .int 31 (u 6), .int 31 (u 7), .int 30 (u 8), .int 31 (u 9), .int 30 (u 10), .int 31 (u 11)])[k.toNat]? = some (.int (dim y m) t) := by
    subst hk
    rcases twelve hm.1 hm.2 with h | h | h | h | h | h | h | h | h | h | h | h <;> subst h <;> exact ⟨_, rfl, rfl⟩
  obtain ⟨t, _, h3⟩ := hz
  exact item_list N hl (by omega) (by omega) h3 (h t) hs
theorem nv_same {n y m d y' m' d' : Int} (h : GregIs n y' m' d') (h2 : GregIs n y m d) (hy : ¬ 1 ≤ y ∨ ¬ y ≤ 9999) : ¬ Valid y' m' d' := by
  obtain ⟨rfl, rfl, rfl⟩ := greg_unique h h2
  exact nv_year hy
theorem greg_year {n y m d : Int} (h : GregIs n y m d) (hn : -(2 ^ 38) < n ∧ n < 2 ^ 38) : Fits y := by
  have := year_range30 hn h.1
  omega
theorem greg_mon {n y m d : Int} (h : GregIs n y m d) : 1 ≤ m ∧ m ≤ 12 := ⟨h.2.1, h.2.2.1⟩
local macro_rules | `(tactic| walk_at "call ref") => `(tactic| (k_here; k_dflt (refine' ClP.use (c_from_greg _ _ _ _ _ _ _ ?p7 ?p8) ?k1 ?k2 ?k3 ?k4 ?k5 ?kK ?kd ?ku ?_; (case p7 => with_reducible assumption); (case p8 => exact greg_range (by with_reducible assumption) (by omega)); (case k1 => k_asm); (case k2 => k_asm); (case k3 => k_asm); (case k4 => k_asm); (case k5 => k_asm); (case kK => first | exact rfl | assumption); (case kd => ktr_room); (case ku => ktr_units); intro v9 ex9 h9 tk9 P9 F9 N9; obtain ⟨x9, y9, m9, d9, ty9, tm9, td9, n9, hv9, hx9, e9, lo9⟩ := P9; subst hv9; subst hx9; (try dsimp only [List.nil_append, List.cons_append] at N9); (try dsimp only at e9); (try dsimp only); (try k_fold))))
local macro_rules | `(tactic| walk_at "call ref") => `(tactic| (k_here; k_dflt (refine' ClP.use (c_ljan_low _ _ ?p2) ?k1 ?k2 ?k3 ?k4 ?k5 ?kK ?kd ?ku ?_; (case p2 => omega); (case k1 => k_asm); (case k2 => k_asm); (case k3 => k_asm); (case k4 => k_asm); (case k5 => k_asm); (case kK => first | exact rfl | assumption); (case kd => ktr_room); (case ku => ktr_units); intro v9 ex9 h9 tk9 P9 F9 N9; obtain ⟨i9, t9, hv9, hx9, e9, lo9, hi9⟩ := P9; subst hv9; subst hx9; (try dsimp only [List.nil_append, List.cons_append] at N9); (try dsimp only at e9); (try dsimp only); (try k_fold))))
local macro_rules | `(tactic| walk_at "eval Call") => `(tactic| (k_here; (with_reducible show wpAny _ _ (eval (Expr.Call (Expr.Name (Str.ofString "_law_year") _) _ _ _) _) _ _ _); k_dflt (refine Call_ ?_)))
local macro_rules | `(tactic| walk_at "subscriptTail") => `(tactic| (k_here; (with_reducible show wpAny _ _ (subscriptTail _ (Expr.BinOp _ _ _ _) (Value.ref _) (Value.int _ _)) _ _ _); k_dflt (refine' r_menu ?N ?hl ?hk ?hc ?_ ?hs; (case N => k_asm); (case hl => k_mem); (case hk => omega); (case hc => omega); (case hs => with_unfolding_all rfl); intro p9 t9 lo9 hi9)))
local macro_rules | `(tactic| walk_at "subscriptTail") => `(tactic| (k_here; (with_reducible show wpAny _ _ (subscriptTail _ (Expr.BinOp _ _ _ _) (Value.ref _) (Value.int _ _)) _ _ _); k_dflt (refine' r_sizes ?N ?hl ?hk ?hm ?_ ?hs; (case N => k_asm); (case hl => k_mem); (case hk => with_reducible rfl); (case hm => exact greg_mon (by with_reducible assumption)); (case hs => with_unfolding_all rfl); intro t9)))
local macro_rules | `(tactic| walk_at "compareOp NotEq ref ref") => `(tactic| (k_here; k_dflt (refine' ne_iso_tup ?N ?x ?b ?u ?e ?_; (case N => k_asm); (case x => k_mem); (case b => k_mem); (case u => exact Nat.lt_of_lt_of_le (Nat.lt_succ_self _) (Nat.le_of_ble_eq_true rfl)); (case e => with_reducible exact iso_unique (by assumption) (by assumption)))))
local macro_rules | `(tactic| walk_at "compareOp NotEq ref ref") => `(tactic| (k_here; k_dflt (refine' ne_tup_eq ?N ?x ?b ?u ?e ?_; (case N => k_asm); (case x => k_mem); (case b => k_mem); (case u => exact Nat.lt_of_lt_of_le (Nat.lt_succ_self _) (Nat.le_of_ble_eq_true rfl)); (case e => with_reducible exact greg_unique (by assumption) (by assumption)))))
local macro_rules | `(tactic| walk_at "compareOp Eq ref ref") => `(tactic| (k_here; k_dflt (refine' eq_tup_eq ?N ?x ?b ?u ?e ?_; (case N => k_asm); (case x => k_mem); (case b => k_mem); (case u => exact Nat.lt_of_lt_of_le (Nat.lt_succ_self _) (Nat.le_of_ble_eq_true rfl)); (case e => exact iso_told (by with_reducible assumption) (by with_reducible assumption) (by with_reducible assumption) (by with_reducible assumption) (by omega) (by omega)))))
local macro_rules | `(tactic| walk_at "call type:datetime.date") => `(tactic| (k_here; k_dflt (refine' call_date_bad ?hh ?hy ?hm ?hd ?hv ?_; (case hh => rfl); (case hv => first | exact nv_zero | exact nv_last | exact nv_year (by omega) | ((rename GregIs _ _ _ _ => g1); (revert g1); (rename GregIs _ _ _ _ => g2); intro g1; exact nv_same g1 g2 (by omega))); (case hy => first | omega | exact greg_year (by with_reducible assumption) (by omega)); (case hm => exact (greg_fits (by with_reducible assumption)).1); (case hd => first | exact (greg_fits (by with_reducible assumption)).2.1 | exact (greg_fits (by with_reducible assumption)).2.2 | decide); intro h9 tk9 x9 X9)))
theorem r_modv {prog : Program} {w : World} {A : Around} {E : Value → Shared → Prop} {s : Shared} {a b : Int} {t u : Tok} {Q : Value → Shared → Prop} (hb : 52 ≤ b ∧ b ≤ 53) (h : ∀ r, 0 ≤ r → r < b → Q (.int r s.toks) { s with toks := s.toks + 1 }) : wpAny (model prog w) A (binaryOp .Mod (.int a t) (.int b u)) Q E s :=
  r_modii (by omega) (h _ (Int.emod_nonneg _ (by omega)) (Int.emod_lt_of_pos _ (by omega)))
theorem eq_int_same {prog : Program} {w : World} {A : Around} {E : Value → Shared → Prop} {s : Shared} {i j : Int} {t u : Tok} {Q : Value → Shared → Prop} (e : i = j) (h : Q (.bool true) s) : wpAny (model prog w) A (compareOp .Eq (.int i t) (.int j u)) Q E s := by
  refine eq_int ?_
  subst e
  simpa using h
theorem room1 (e : Env) : (callerA.deeper e).depth < recursionLimit := by show 302 < recursionLimit; decide
theorem ne_int_same {prog : Program} {w : World} {A : Around} {E : Value → Shared → Prop} {s : Shared} {i j : Int} {t u : Tok} {Q : Value → Shared → Prop} (e : i = j) (h : Q (.bool false) s) : wpAny (model prog w) A (compareOp .NotEq (.int i t) (.int j u)) Q E s := by
  refine ne_int ?_
  subst e
  simpa using h
local macro_rules | `(tactic| walk_at "call ref") => `(tactic| (k_here; (fail_if_success k_inElt); kts_any; k_dflt (refine wpAny_call ?_; refine' code_defS0 ?hB ?hF ?hX ?hN ?hT ?hA ?ho ?hc ?hr ?hb ?hl ?_ ?x1 ?x2 ?x3 ?x4 ?x5; (case hA => exact rfl); (case hF => k_asm); (case hB => k_asm); (case hX => k_asm); (case hN => k_asm); (case hT => k_asm); (case ho => k_is); (case hc => k_is); (case hr => exact room1 _); (case hb => exact BindsTo.of_eq rfl); (case hl => exact locs rfl); (case x1 => exact rfl); (case x2 => exact rfl); (case x3 => exact rfl); (case x4 => exact rfl); (case x5 => decide); k_whole; intro g9 l9 h9 G9 F9 N9 B9 X9 T9 D9; (try dsimp only); (try k_lift B9); (try k_fold))))
local macro_rules | `(tactic| walk_at "compareOp Eq int int") => `(tactic| (k_here; k_dflt (refine' eq_int_same ?e ?_; (case e => exact (Eq.trans (by with_reducible assumption) (Eq.trans (by with_reducible assumption) (iso_first (by omega))))))))
local macro_rules | `(tactic| walk_at "binaryOp Mod int int") => `(tactic| (k_here; k_dflt (refine' r_modv ?hb ?_; (case hb => omega); intro r9 lo9 hi9)))
local macro_rules | `(tactic| walk_at "compareOp NotEq int int") => `(tactic| (k_here; k_dflt (refine' ne_int_same ?e ?_; (case e => omega))))
local macro_rules | `(tactic| walk_at "eval Call") => `(tactic| (k_here; (with_reducible show wpAny _ _ (eval (Expr.Call (Expr.Name (Str.ofString "_law_long") _) _ _ _) _) _ _ _); k_dflt (refine Call_ ?_)))
set_option maxRecDepth 100000 in
set_option maxHeartbeats 8000000 in
theorem law01 : PySem.Challenge.rw_ad5013_01.Holds := hd (by
  k_go0
  (all_goals try k_fold)
  k_steps)
end Mine
theorem PySem.Challenge.cw_ad5013_01_holds : PySem.Challenge.rw_ad5013_01.Holds :=
  Mine.law01
