import Ieee.Arith
namespace Go.Proofs.Qxb6613305a.Flt
open Ieee
set_option exponentiation.threshold 3000

/-- 'A / B' to the nearest whole number, ties to even. -/
def rne (A B : Nat) : Nat := A / B + (decide (B < 2 * (A % B)) || (B == 2 * (A % B) && A / B % 2 == 1)).toNat

theorem rne_lo (A B : Nat) : A / B ≤ rne A B := by unfold rne; omega
theorem rne_hi (A B : Nat) : rne A B ≤ A / B + 1 := by
  unfold rne
  have := Bool.toNat_le (decide (B < 2 * (A % B)) || (B == 2 * (A % B) && A / B % 2 == 1))
  omega

theorem rne_scale (A B k : Nat) (hk : 0 < k) : rne (A * k) (B * k) = rne A B := by
  unfold rne
  rw [Nat.mul_div_mul_right _ _ hk, Nat.mul_mod_mul_right]
  have e1 : decide (B * k < 2 * (A % B * k)) = decide (B < 2 * (A % B)) := by
    rw [decide_eq_decide, ← Nat.mul_assoc]
    exact Nat.mul_lt_mul_right hk
  have e2 : (B * k == 2 * (A % B * k)) = (B == 2 * (A % B)) := by
    rw [Bool.eq_iff_iff, beq_iff_eq, beq_iff_eq, ← Nat.mul_assoc]
    exact Nat.mul_right_cancel_iff hk
  rw [e1, e2]

theorem rne_mono_same (a b D : Nat) (h : a ≤ b) : rne a D ≤ rne b D := by
  have hq : a / D ≤ b / D := Nat.div_le_div_right h
  by_cases e : a / D = b / D
  · have ha := Nat.div_add_mod a D
    have hb := Nat.div_add_mod b D
    rw [e] at ha
    have hr : a % D ≤ b % D := by omega
    unfold rne
    rw [e]
    by_cases h1 : D < 2 * (a % D)
    · have h2 : D < 2 * (b % D) := by omega
      simp [h1, h2]
    · by_cases h3 : D = 2 * (a % D)
      · by_cases h4 : D < 2 * (b % D)
        · simp only [h4, decide_true, Bool.true_or]
          have := Bool.toNat_le (decide (D < 2 * (a % D)) || (D == 2 * (a % D) && b / D % 2 == 1))
          simp only [Bool.toNat_true]
          omega
        · have h5 : a % D = b % D := by omega
          rw [h5]; exact Nat.le_refl _
      · have h6 : (decide (D < 2 * (a % D)) || (D == 2 * (a % D) && b / D % 2 == 1)) = false := by
          simp only [Bool.or_eq_false_iff, decide_eq_false_iff_not, Bool.and_eq_false_iff, beq_eq_false_iff_ne]
          exact ⟨h1, Or.inl h3⟩
        rw [h6]; simp only [Bool.toNat_false]; omega
  · have := rne_hi a D
    have := rne_lo b D
    omega

theorem rne_mono (A1 B1 A2 B2 : Nat) (h1 : 0 < B1) (h2 : 0 < B2) (h : A1 * B2 ≤ A2 * B1) : rne A1 B1 ≤ rne A2 B2 := by
  rw [← rne_scale A1 B1 B2 h2, ← rne_scale A2 B2 B1 h1, Nat.mul_comm B2 B1]
  exact rne_mono_same _ _ _ h

theorem rne_err (A B : Nat) (_hB : 0 < B) : 2 * A ≤ 2 * (rne A B * B) + B ∧ 2 * (rne A B * B) ≤ 2 * A + B := by
  have hd := Nat.div_add_mod A B
  have hm := Nat.mod_lt A _hB
  have hc : B * (A / B) = A / B * B := Nat.mul_comm _ _
  by_cases h : (decide (B < 2 * (A % B)) || (B == 2 * (A % B) && A / B % 2 == 1)) = true
  · have e : rne A B = A / B + 1 := by unfold rne; rw [h]; rfl
    rw [e, Nat.add_mul, Nat.one_mul]
    simp only [Bool.or_eq_true, decide_eq_true_eq, Bool.and_eq_true, beq_iff_eq] at h
    omega
  · have e : rne A B = A / B := by
      unfold rne
      rw [Bool.not_eq_true] at h
      rw [h]; rfl
    rw [e]
    simp only [Bool.or_eq_true, decide_eq_true_eq, Bool.and_eq_true, beq_iff_eq, not_or] at h
    omega

theorem rne_exact (K B : Nat) (hB : 0 < B) : rne (K * B) B = K := by
  unfold rne
  rw [Nat.mul_div_cancel _ hB, Nat.mul_mod_left]
  have e1 : decide (B < 2 * 0) = false := by simp
  have e2 : (B == 2 * 0) = false := by rw [beq_eq_false_iff_ne]; omega
  rw [e1, e2]; rfl

/-- The odd-rounded quotient rounds as the quotient itself does. -/
theorem rne_sticky (N n d : Nat) (hn : 0 < n) : rne (2 * (N / n) + (N % n != 0).toNat) (2 ^ (d + 2)) = rne (2 * N) (n * 2 ^ (d + 2)) := by
  have hN := Nat.div_add_mod N n
  have hr := Nat.mod_lt N hn
  generalize N / n = Q at *
  generalize N % n = r at *
  have h2 : (2 : Nat) ^ (d + 2) = 4 * 2 ^ d := by rw [Nat.pow_succ, Nat.pow_succ]; omega
  have hp : 0 < 2 ^ d := Nat.two_pow_pos d
  rw [h2]
  generalize 2 ^ d = h at *
  have hQ := Nat.div_add_mod Q (2 * h)
  have hu := Nat.mod_lt Q (show 0 < 2 * h by omega)
  generalize Q / (2 * h) = q at *
  generalize Q % (2 * h) = u at *
  have hs : (r != 0).toNat = if r = 0 then 0 else 1 := by
    by_cases e : r = 0
    · simp [e]
    · simp [e]
  rw [hs]
  have hu1 : u * n + r < 2 * h * n := by
    have : (u + 1) * n ≤ 2 * h * n := Nat.mul_le_mul_right n (by omega)
    rw [Nat.add_mul, Nat.one_mul] at this
    omega
  have a1 : 2 * Q + (if r = 0 then 0 else 1) = (4 * h) * q + (2 * u + (if r = 0 then 0 else 1)) := by
    rw [← hQ, show 4 * h = 2 * (2 * h) by omega, Nat.mul_assoc 2 (2 * h) q]; omega
  have a2 : 2 * N = (n * (4 * h)) * q + 2 * (u * n + r) := by
    rw [← hN, ← hQ]
    have : n * (2 * h * q + u) = n * (2 * h) * q + u * n := by rw [Nat.mul_add, ← Nat.mul_assoc, Nat.mul_comm n u]
    rw [this]
    have : n * (4 * h) = 2 * (n * (2 * h)) := by rw [show 4 * h = 2 * (2 * h) by omega, Nat.mul_left_comm]
    rw [this, Nat.mul_assoc 2]
    omega
  have l1 : 2 * u + (if r = 0 then 0 else 1) < 4 * h := by split <;> omega
  have hnh : 2 * h * n = n * (2 * h) := Nat.mul_comm _ _
  have hnh4 : n * (4 * h) = 2 * (n * (2 * h)) := by rw [show 4 * h = 2 * (2 * h) by omega, Nat.mul_left_comm]
  have l2 : 2 * (u * n + r) < n * (4 * h) := by omega
  have d1 : (2 * Q + (if r = 0 then 0 else 1)) / (4 * h) = q := by
    rw [a1, Nat.mul_add_div (by omega), Nat.div_eq_of_lt l1, Nat.add_zero]
  have m1 : (2 * Q + (if r = 0 then 0 else 1)) % (4 * h) = 2 * u + (if r = 0 then 0 else 1) := by
    rw [a1, Nat.mul_add_mod, Nat.mod_eq_of_lt l1]
  have hn4 : 0 < n * (4 * h) := Nat.mul_pos hn (by omega)
  have d2 : 2 * N / (n * (4 * h)) = q := by
    rw [a2, Nat.mul_add_div hn4, Nat.div_eq_of_lt l2, Nat.add_zero]
  have m2 : 2 * N % (n * (4 * h)) = 2 * (u * n + r) := by
    rw [a2, Nat.mul_add_mod, Nat.mod_eq_of_lt l2]
  unfold rne
  rw [d1, m1, d2, m2]
  have huh : h * n = n * h := Nat.mul_comm _ _
  have hn2 : n * (2 * h) = 2 * (n * h) := Nat.mul_left_comm _ _ _
  -- three ways: u < h, u = h, h < u
  have e1 : decide (4 * h < 2 * (2 * u + (if r = 0 then 0 else 1))) = decide (n * (4 * h) < 2 * (2 * (u * n + r))) := by
    rw [decide_eq_decide]
    rcases Nat.lt_trichotomy u h with c | c | c
    · have : (u + 1) * n ≤ h * n := Nat.mul_le_mul_right n c
      rw [Nat.add_mul, Nat.one_mul] at this
      constructor <;> intro g
      · exfalso; split at g <;> omega
      · exfalso; omega
    · subst c
      by_cases e : r = 0
      · simp only [e, if_true]; omega
      · simp only [e, if_false]; omega
    · have : (h + 1) * n ≤ u * n := Nat.mul_le_mul_right n c
      rw [Nat.add_mul, Nat.one_mul] at this
      constructor <;> intro g
      · omega
      · split <;> omega
  have e2 : (4 * h == 2 * (2 * u + (if r = 0 then 0 else 1))) = (n * (4 * h) == 2 * (2 * (u * n + r))) := by
    rw [Bool.eq_iff_iff, beq_iff_eq, beq_iff_eq]
    rcases Nat.lt_trichotomy u h with c | c | c
    · have : (u + 1) * n ≤ h * n := Nat.mul_le_mul_right n c
      rw [Nat.add_mul, Nat.one_mul] at this
      constructor <;> intro g
      · exfalso; split at g <;> omega
      · exfalso; omega
    · subst c
      by_cases e : r = 0
      · simp only [e, if_true]; omega
      · simp only [e, if_false]; omega
    · have : (h + 1) * n ≤ u * n := Nat.mul_le_mul_right n c
      rw [Nat.add_mul, Nat.one_mul] at this
      constructor <;> intro g
      · omega
      · exfalso; omega
  rw [e1, e2]

/-- The rung of '(A / B) * 2 ^ -1074'. -/
def R (A B : Nat) : Nat := ((A / B).log2 - 52) * 2 ^ 52 + rne A (B * 2 ^ ((A / B).log2 - 52))

/-- What the rung k stands for, in units of '2 ^ -1074'. -/
def V (k : Nat) : Nat := if k < 2 ^ 52 then k else (2 ^ 52 + k % 2 ^ 52) * 2 ^ (k / 2 ^ 52 - 1)

/-- In the normal range the kept digits are 53, or one more by a carry. -/
theorem kept_normal (A B : Nat) (h : 2 ^ 52 ≤ A / B) :
    2 ^ 52 ≤ A / (B * 2 ^ ((A / B).log2 - 52)) ∧ A / (B * 2 ^ ((A / B).log2 - 52)) < 2 ^ 53 := by
  have h0 : A / B ≠ 0 := by have := Nat.two_pow_pos 52; omega
  have l1 := Nat.log2_self_le h0
  have l2 := @Nat.lt_log2_self (A / B)
  have l3 : 52 ≤ (A / B).log2 := (Nat.le_log2 h0).2 h
  generalize (A / B).log2 = L at *
  obtain ⟨E, rfl⟩ : ∃ E, L = 52 + E := ⟨L - 52, by omega⟩
  rw [Nat.add_sub_cancel_left, ← Nat.div_div_eq_div_mul]
  have hE : 0 < 2 ^ E := Nat.two_pow_pos E
  constructor
  · rw [Nat.le_div_iff_mul_le hE, ← Nat.pow_add]; exact l1
  · rw [Nat.div_lt_iff_lt_mul hE, ← Nat.pow_add, show 53 + E = 52 + E + 1 by omega]; exact l2

theorem R_mono (A1 B1 A2 B2 : Nat) (h1 : 0 < B1) (h2 : 0 < B2) (h : A1 * B2 ≤ A2 * B1) : R A1 B1 ≤ R A2 B2 := by
  have hq : A1 / B1 ≤ A2 / B2 := by
    rw [Nat.le_div_iff_mul_le h2]
    have : A1 / B1 * B1 ≤ A1 := Nat.div_mul_le_self _ _
    have k : A1 / B1 * B2 * B1 ≤ A2 * B1 := by
      calc A1 / B1 * B2 * B1 = A1 / B1 * B1 * B2 := by rw [Nat.mul_right_comm]
        _ ≤ A1 * B2 := Nat.mul_le_mul_right _ this
        _ ≤ A2 * B1 := h
    exact Nat.le_of_mul_le_mul_right k h1
  have hl : (A1 / B1).log2 ≤ (A2 / B2).log2 := by
    by_cases z : A1 / B1 = 0
    · rw [z]; simp
    · exact (Nat.le_log2 (Nat.ne_of_gt (Nat.lt_of_lt_of_le (Nat.pos_of_ne_zero z) hq))).2 (Nat.le_trans (Nat.log2_self_le z) hq)
  unfold R
  by_cases e : (A1 / B1).log2 - 52 = (A2 / B2).log2 - 52
  · rw [e]
    apply Nat.add_le_add_left
    refine rne_mono _ _ _ _ (Nat.mul_pos h1 (Nat.two_pow_pos _)) (Nat.mul_pos h2 (Nat.two_pow_pos _)) ?_
    rw [← Nat.mul_assoc, ← Nat.mul_assoc]
    exact Nat.mul_le_mul_right _ h
  · have hE : (A1 / B1).log2 - 52 + 1 ≤ (A2 / B2).log2 - 52 := by omega
    have n2 : 2 ^ 52 ≤ A2 / B2 := by
      have z : A2 / B2 ≠ 0 := by
        intro z; rw [z] at hE; simp at hE
      exact (Nat.le_log2 z).1 (by omega)
    have k2 := (kept_normal A2 B2 n2).1
    have r2 := rne_lo A2 (B2 * 2 ^ ((A2 / B2).log2 - 52))
    have k1 : A1 / (B1 * 2 ^ ((A1 / B1).log2 - 52)) < 2 ^ 53 := by
      by_cases n1 : 2 ^ 52 ≤ A1 / B1
      · exact (kept_normal A1 B1 n1).2
      · refine Nat.lt_of_le_of_lt (Nat.div_le_div_left (Nat.le_mul_of_pos_right _ (Nat.two_pow_pos _)) h1) ?_
        omega
    have r1 := rne_hi A1 (B1 * 2 ^ ((A1 / B1).log2 - 52))
    generalize rne A1 (B1 * 2 ^ ((A1 / B1).log2 - 52)) = K1 at *
    generalize rne A2 (B2 * 2 ^ ((A2 / B2).log2 - 52)) = K2 at *
    generalize (A1 / B1).log2 - 52 = E1 at *
    generalize (A2 / B2).log2 - 52 = E2 at *
    have := Nat.mul_le_mul_right (2 ^ 52) hE
    rw [Nat.add_mul] at this
    omega

theorem R_congr (A1 B1 A2 B2 : Nat) (h1 : 0 < B1) (h2 : 0 < B2) (h : A1 * B2 = A2 * B1) : R A1 B1 = R A2 B2 :=
  Nat.le_antisymm (R_mono _ _ _ _ h1 h2 (Nat.le_of_eq h)) (R_mono _ _ _ _ h2 h1 (Nat.le_of_eq h.symm))

theorem V_pair (E K : Nat) (h1 : 2 ^ 52 ≤ K) (h2 : K ≤ 2 ^ 53) : V (E * 2 ^ 52 + K) = K * 2 ^ E := by
  unfold V
  have hn : ¬ (E * 2 ^ 52 + K < 2 ^ 52) := by omega
  rw [if_neg hn]
  by_cases e : K = 2 ^ 53
  · subst e
    have d : (E * 2 ^ 52 + 2 ^ 53) / 2 ^ 52 = E + 2 := by omega
    have m : (E * 2 ^ 52 + 2 ^ 53) % 2 ^ 52 = 0 := by omega
    rw [d, m, Nat.add_zero, show E + 2 - 1 = 1 + E by omega, Nat.pow_add, ← Nat.mul_assoc]
  · have d : (E * 2 ^ 52 + K) / 2 ^ 52 = E + 1 := by omega
    have m : (E * 2 ^ 52 + K) % 2 ^ 52 = K - 2 ^ 52 := by omega
    rw [d, m, Nat.add_sub_cancel, Nat.add_sub_of_le h1]

theorem V_step (k : Nat) : V k < V (k + 1) := by
  unfold V
  by_cases h : k + 1 < 2 ^ 52
  · rw [if_pos h, if_pos (by omega)]; omega
  · by_cases h' : k < 2 ^ 52
    · rw [if_pos h', if_neg h]
      have : k + 1 = 2 ^ 52 := by omega
      rw [this]
      have : (2 : Nat) ^ 52 % 2 ^ 52 = 0 := by omega
      rw [this]
      have : (2 : Nat) ^ 52 / 2 ^ 52 - 1 = 0 := by omega
      rw [this]
      omega
    · rw [if_neg h', if_neg h]
      by_cases c : k % 2 ^ 52 + 1 = 2 ^ 52
      · have d : (k + 1) / 2 ^ 52 - 1 = (k / 2 ^ 52 - 1) + 1 := by omega
        have m : (k + 1) % 2 ^ 52 = 0 := by omega
        rw [d, m, Nat.pow_succ 2 (k / 2 ^ 52 - 1)]
        have hp := Nat.two_pow_pos (k / 2 ^ 52 - 1)
        generalize 2 ^ (k / 2 ^ 52 - 1) = g at *
        have : (2 ^ 52 + k % 2 ^ 52 + 1) * g = 2 ^ 53 * g := by congr 1; omega
        rw [Nat.add_mul] at this
        omega
      · have d : (k + 1) / 2 ^ 52 - 1 = k / 2 ^ 52 - 1 := by omega
        have m : (k + 1) % 2 ^ 52 = k % 2 ^ 52 + 1 := by omega
        rw [d, m]
        exact Nat.mul_lt_mul_of_pos_right (by omega) (Nat.two_pow_pos _)

theorem V_lt {a b : Nat} (h : a < b) : V a < V b := by
  obtain ⟨d, rfl⟩ : ∃ d, b = a + 1 + d := ⟨b - (a + 1), by omega⟩
  induction d with
  | zero => exact V_step a
  | succ d ih => exact Nat.lt_trans (ih (by omega)) (V_step _)

theorem V_le {a b : Nat} (h : a ≤ b) : V a ≤ V b := by
  rcases Nat.lt_or_eq_of_le h with h | h
  · exact Nat.le_of_lt (V_lt h)
  · rw [h]; exact Nat.le_refl _

/-- What the rung of a normal quotient stands for is within a half unit of it. -/
theorem R_err (A B : Nat) (hB : 0 < B) (h : 2 ^ 52 ≤ A / B) :
    2 ^ 53 * A ≤ 2 ^ 53 * (B * V (R A B)) + A ∧ 2 ^ 53 * (B * V (R A B)) ≤ 2 ^ 53 * A + A := by
  have hk := kept_normal A B h
  have r1 := rne_lo A (B * 2 ^ ((A / B).log2 - 52))
  have r2 := rne_hi A (B * 2 ^ ((A / B).log2 - 52))
  have hp : 0 < B * 2 ^ ((A / B).log2 - 52) := Nat.mul_pos hB (Nat.two_pow_pos _)
  have er := rne_err A (B * 2 ^ ((A / B).log2 - 52)) hp
  have hV : V (R A B) = rne A (B * 2 ^ ((A / B).log2 - 52)) * 2 ^ ((A / B).log2 - 52) := by
    unfold R; exact V_pair _ _ (by omega) (by omega)
  rw [hV]
  have hu : 2 ^ 52 * (B * 2 ^ ((A / B).log2 - 52)) ≤ A := by
    have := (Nat.le_div_iff_mul_le hp).1 hk.1
    exact this
  have e : B * (rne A (B * 2 ^ ((A / B).log2 - 52)) * 2 ^ ((A / B).log2 - 52)) = rne A (B * 2 ^ ((A / B).log2 - 52)) * (B * 2 ^ ((A / B).log2 - 52)) := by
    rw [Nat.mul_left_comm]
  rw [e]
  generalize rne A (B * 2 ^ ((A / B).log2 - 52)) * (B * 2 ^ ((A / B).log2 - 52)) = S at *
  generalize B * 2 ^ ((A / B).log2 - 52) = U at *
  omega

/-- Two quotients over one denominator that part by more than a unit part in their rungs. -/
theorem R_lt (a b B : Nat) (hB : 0 < B) (ha : 2 ^ 52 ≤ a / B) (hb : 2 ^ 52 ≤ b / B) (h : 2 ^ 53 * a + a + b < 2 ^ 53 * b) : R a B < R b B := by
  rcases Nat.lt_or_ge (R a B) (R b B) with g | g
  · exact g
  · exfalso
    have v := Nat.mul_le_mul_left B (V_le g)
    have e1 := (R_err a B hB ha).2
    have e2 := (R_err b B hB hb).1
    omega

theorem R_zero (B : Nat) (hB : 0 < B) : R 0 B = 0 := by
  unfold R
  rw [Nat.zero_div]
  have := rne_exact 0 (B * 2 ^ (Nat.log2 0 - 52)) (Nat.mul_pos hB (Nat.two_pow_pos _))
  rw [Nat.zero_mul] at this
  rw [this]; simp

theorem R_normal (A B : Nat) (h : 2 ^ 52 ≤ A / B) : 2 ^ 52 ≤ R A B := by
  have := (kept_normal A B h).1
  have := rne_lo A (B * 2 ^ ((A / B).log2 - 52))
  unfold R; omega


theorem cut_even (neg : Bool) (n drop : Nat) : Toward.even.cut neg n drop = rne n (2 ^ min drop (n.log2 + 2)) := by
  unfold Toward.cut rne
  rw [Nat.shiftLeft_eq, Nat.one_mul]

theorem log2_shift (m P : Nat) (h : m ≠ 0) : (m * 2 ^ P).log2 = m.log2 + P := by
  have hp := Nat.two_pow_pos P
  rw [Nat.log2_eq_iff (Nat.mul_ne_zero h (by omega))]
  constructor
  · rw [Nat.pow_add]; exact Nat.mul_le_mul_right _ (Nat.log2_self_le h)
  · rw [show m.log2 + P + 1 = m.log2 + 1 + P by omega, Nat.pow_add]
    exact Nat.mul_lt_mul_of_pos_right Nat.lt_log2_self hp

theorem nearest_eq (mag P : Nat) (h : mag ≠ 0) : double.nearest false mag (-1074 + (P : Int)) = min (R (mag * 2 ^ P) 1) (2047 * 2 ^ 52) := by
  unfold Format.nearest
  rw [if_neg h]
  have lp : double.leastPlace = -1074 := by decide
  have fb : double.fractionBits = 52 := rfl
  have bn : double.binade = 2 ^ 52 := rfl
  have ir : double.infRung = 2047 * 2 ^ 52 := by decide
  have wd : ∀ r, double.word false r = r := fun r => rfl
  rw [wd, lp, fb, bn, ir]
  unfold R
  rw [Nat.div_one, log2_shift mag P h, Nat.one_mul]
  rw [cut_even, Nat.shiftLeft_eq]
  by_cases c : 52 ≤ mag.log2
  · have e1 : (max (-1074 + (P : Int) + (mag.log2 : Int) - ((52 : Nat) : Int)) (-1074) - -1074).toNat = mag.log2 + P - 52 := by omega
    have e2 : (-1074 + (P : Int) - max (-1074 + (P : Int) + (mag.log2 : Int) - ((52 : Nat) : Int)) (-1074)).toNat = 0 := by omega
    have e3 : (max (-1074 + (P : Int) + (mag.log2 : Int) - ((52 : Nat) : Int)) (-1074) - (-1074 + (P : Int))).toNat = mag.log2 - 52 := by omega
    rw [e1, e2, e3, Nat.pow_zero, Nat.mul_one, Nat.min_eq_left (by omega : mag.log2 - 52 ≤ mag.log2 + 2)]
    have e4 : (2 : Nat) ^ (mag.log2 + P - 52) = 2 ^ (mag.log2 - 52) * 2 ^ P := by rw [← Nat.pow_add]; congr 1; omega
    rw [e4, rne_scale _ _ _ (Nat.two_pow_pos P)]
  · have e1 : (max (-1074 + (P : Int) + (mag.log2 : Int) - ((52 : Nat) : Int)) (-1074) - -1074).toNat = mag.log2 + P - 52 := by omega
    have e2 : (-1074 + (P : Int) - max (-1074 + (P : Int) + (mag.log2 : Int) - ((52 : Nat) : Int)) (-1074)).toNat = P - (mag.log2 + P - 52) := by omega
    have e3 : (max (-1074 + (P : Int) + (mag.log2 : Int) - ((52 : Nat) : Int)) (-1074) - (-1074 + (P : Int))).toNat = 0 := by omega
    rw [e1, e2, e3, Nat.zero_min, Nat.pow_zero]
    have e4 : (2 : Nat) ^ P = 2 ^ (P - (mag.log2 + P - 52)) * 2 ^ (mag.log2 + P - 52) := by rw [← Nat.pow_add]; congr 1; omega
    have e5 : mag * 2 ^ P = mag * 2 ^ (P - (mag.log2 + P - 52)) * 2 ^ (mag.log2 + P - 52) := by rw [Nat.mul_assoc, ← e4]
    rw [e5, rne_exact _ _ (Nat.two_pow_pos _)]
    have := rne_exact (mag * 2 ^ (P - (mag.log2 + P - 52))) 1 (by omega)
    rw [Nat.mul_one] at this
    rw [this]

theorem read_rung (k : Nat) (hk : k < 2047 * 2 ^ 52) : ∃ M e : Nat, double.read k = .number false M (-1074 + (e : Int)) ∧ M * 2 ^ e = V k := by
  have lp : double.leastPlace = -1074 := by decide
  have bn : double.binade = 2 ^ 52 := rfl
  have ir : double.infRung = 2047 * 2 ^ 52 := by decide
  have sw : double.signWeight = 2 ^ 63 := rfl
  have hm : k % 2 ^ 63 = k := Nat.mod_eq_of_lt (by omega)
  have hd : k / 2 ^ 63 = 0 := Nat.div_eq_of_lt (by omega)
  unfold Format.read V
  rw [lp, bn, ir, sw, hm, hd]
  dsimp only
  by_cases c : k < 2 ^ 52
  · rw [if_pos c, if_pos c]
    exact ⟨k, 0, rfl, by rw [Nat.pow_zero, Nat.mul_one]⟩
  · rw [if_neg c, if_neg c, if_pos hk]
    exact ⟨_, _, rfl, rfl⟩

theorem order_rungs (a b : Nat) (ha : a < 2047 * 2 ^ 52) (hb : b < 2047 * 2 ^ 52) : double.order a b = some (compare a b) := by
  obtain ⟨m, i, h1, h2⟩ := read_rung a ha
  obtain ⟨n, j, h3, h4⟩ := read_rung b hb
  unfold Format.order
  rw [h1, h3]
  unfold Datum.order signed
  dsimp only
  have e1 : (-1074 + (i : Int) - min (-1074 + (i : Int)) (-1074 + (j : Int))).toNat = i - min i j := by omega
  have e2 : (-1074 + (j : Int) - min (-1074 + (i : Int)) (-1074 + (j : Int))).toNat = j - min i j := by omega
  rw [e1, e2, Nat.shiftLeft_eq, Nat.shiftLeft_eq]
  have e3 : m * 2 ^ (i - min i j) * 2 ^ min i j = V a := by
    rw [Nat.mul_assoc, ← Nat.pow_add, Nat.sub_add_cancel (Nat.min_le_left _ _), h2]
  have e4 : n * 2 ^ (j - min i j) * 2 ^ min i j = V b := by
    rw [Nat.mul_assoc, ← Nat.pow_add, Nat.sub_add_cancel (Nat.min_le_right _ _), h4]
  have hp := Nat.two_pow_pos (min i j)
  generalize m * 2 ^ (i - min i j) = x at *
  generalize n * 2 ^ (j - min i j) = y at *
  congr 1
  simp only [if_neg (show ¬ (false = true) from nofun)]
  rcases Nat.lt_trichotomy a b with c | c | c
  · have v := V_lt c
    rw [← e3, ← e4] at v
    have v' : x < y := Nat.lt_of_mul_lt_mul_right v
    rw [Nat.compare_eq_lt.2 c, Int.compare_eq_lt.2 (by omega)]
  · subst c
    have v' : x = y := Nat.eq_of_mul_eq_mul_right hp (e3.trans e4.symm)
    subst v'
    rw [Nat.compare_eq_eq.2 rfl, Int.compare_eq_eq.2 rfl]
  · have v := V_lt c
    rw [← e3, ← e4] at v
    have v' : y < x := Nat.lt_of_mul_lt_mul_right v
    rw [Nat.compare_eq_gt.2 c, Int.compare_eq_gt.2 (by omega)]

/-- 'float64(n)' for a whole number n that is not negative. -/
def F (n : Nat) : Nat := double.nearest false n 0

/-- The rung of a quotient below 2^200 is finite. -/
theorem R_fin (A B : Nat) (hB : 0 < B) (h : A < B * 2 ^ 1274) : R A B < 2047 * 2 ^ 52 := by
  have e : R A B ≤ R (2 ^ 1274) 1 := R_mono _ _ _ _ hB (by omega) (by rw [Nat.mul_one, Nat.mul_comm (2 ^ 1274)]; exact Nat.le_of_lt h)
  have : R (2 ^ 1274) 1 < 2047 * 2 ^ 52 := by decide +kernel
  omega

theorem F_eq (n : Nat) (h : n < 2 ^ 60) : F n = R (n * 2 ^ 1074) 1 := by
  unfold F
  by_cases z : n = 0
  · subst z; rw [Nat.zero_mul, R_zero 1 (by omega)]; rfl
  · have e : double.nearest false n (-1074 + ((1074 : Nat) : Int)) = _ := nearest_eq n 1074 z
    have := R_fin (n * 2 ^ 1074) 1 (by omega) (by
      have : (2 : Nat) ^ 1274 = 2 ^ 200 * 2 ^ 1074 := by rw [← Nat.pow_add]
      rw [Nat.one_mul, this]
      exact Nat.mul_lt_mul_of_pos_right (Nat.lt_of_lt_of_le h (Nat.pow_le_pow_right (by omega) (by omega))) (Nat.two_pow_pos _))
    rw [Nat.min_eq_left (by omega)] at e
    rw [← e]; rfl

theorem F_fin (n : Nat) (h : n < 2 ^ 60) : F n < 2047 * 2 ^ 52 := by
  rw [F_eq n h]
  refine R_fin _ 1 (by omega) ?_
  have : (2 : Nat) ^ 1274 = 2 ^ 200 * 2 ^ 1074 := by rw [← Nat.pow_add]
  rw [Nat.one_mul, this]
  exact Nat.mul_lt_mul_of_pos_right (Nat.lt_of_lt_of_le h (Nat.pow_le_pow_right (by omega) (by omega))) (Nat.two_pow_pos _)

/-- A whole number below 2^53 is a float: it reads as itself, its leading digit at place 52. -/
theorem F_read (n : Nat) (h0 : n ≠ 0) (h : n < 2 ^ 53) : double.read (F n) = .number false (n * 2 ^ (52 - n.log2)) ((n.log2 : Int) - 52) := by
  have hl : n.log2 < 53 := by rw [Nat.log2_lt h0]; exact h
  have l1 := Nat.log2_self_le h0
  have l2 := @Nat.lt_log2_self n
  have k1 : 2 ^ 52 ≤ n * 2 ^ (52 - n.log2) := by
    calc 2 ^ 52 = 2 ^ n.log2 * 2 ^ (52 - n.log2) := by rw [← Nat.pow_add]; congr 1; omega
      _ ≤ _ := Nat.mul_le_mul_right _ l1
  have k2 : n * 2 ^ (52 - n.log2) < 2 ^ 53 := by
    calc n * 2 ^ (52 - n.log2) < 2 ^ (n.log2 + 1) * 2 ^ (52 - n.log2) := Nat.mul_lt_mul_of_pos_right l2 (Nat.two_pow_pos _)
      _ = 2 ^ 53 := by rw [← Nat.pow_add]; congr 1; omega
  have e : F n = (n.log2 + 1022) * 2 ^ 52 + n * 2 ^ (52 - n.log2) := by
    rw [F_eq n (by omega)]
    unfold R
    rw [Nat.div_one, log2_shift n 1074 h0, Nat.one_mul, show n.log2 + 1074 - 52 = n.log2 + 1022 by omega]
    have e5 : n * 2 ^ 1074 = n * 2 ^ (52 - n.log2) * 2 ^ (n.log2 + 1022) := by
      rw [Nat.mul_assoc, ← Nat.pow_add, show 52 - n.log2 + (n.log2 + 1022) = 1074 by omega]
    rw [e5, rne_exact _ _ (Nat.two_pow_pos _)]
  generalize n * 2 ^ (52 - n.log2) = K at *
  rw [e]
  have lp : double.leastPlace = -1074 := by decide
  have bn : double.binade = 2 ^ 52 := rfl
  have ir : double.infRung = 2047 * 2 ^ 52 := by decide
  have sw : double.signWeight = 2 ^ 63 := rfl
  have hm : ((n.log2 + 1022) * 2 ^ 52 + K) % 2 ^ 63 = (n.log2 + 1022) * 2 ^ 52 + K := Nat.mod_eq_of_lt (by omega)
  have hd : ((n.log2 + 1022) * 2 ^ 52 + K) / 2 ^ 63 = 0 := Nat.div_eq_of_lt (by omega)
  unfold Format.read
  rw [lp, bn, ir, sw, hm, hd]
  dsimp only
  rw [if_neg (by omega), if_pos (by omega)]
  have d : ((n.log2 + 1022) * 2 ^ 52 + K) / 2 ^ 52 = n.log2 + 1023 := by omega
  have m : ((n.log2 + 1022) * 2 ^ 52 + K) % 2 ^ 52 = K - 2 ^ 52 := by omega
  rw [d, m, Nat.add_sub_of_le k1]
  have : (-1074 + ((n.log2 + 1023 - 1 : Nat) : Int)) = (n.log2 : Int) - 52 := by omega
  rw [this]; rfl

theorem F_zero : F 0 = 0 := by decide
theorem read_zero : double.read 0 = .number false 0 (-1074) := by decide

theorem write_value (mag P n : Nat) (p : Int) (hp : p = -1074 + (P : Int)) (e : mag * 2 ^ P = n * 2 ^ 1074) (hn : n < 2 ^ 60) : double.write (.number false mag p) = F n := by
  show double.nearest false mag p = F n
  by_cases z : mag = 0
  · have : n = 0 := by
      rw [z, Nat.zero_mul] at e
      rcases Nat.mul_eq_zero.1 e.symm with h | h
      · exact h
      · have := Nat.two_pow_pos 1074; omega
    subst this; subst z; rw [F_zero]; rfl
  · have g := F_fin n hn
    rw [hp, nearest_eq mag P z, e, ← F_eq n hn, Nat.min_eq_left (by omega)]

theorem mulF (a b : Nat) (ha : a < 2 ^ 53) (hb : b < 2 ^ 53) (h : a * b < 2 ^ 60) : double.mul (F a) (F b) = some (F (a * b)) := by
  unfold Format.mul
  by_cases za : a = 0
  · subst za
    obtain ⟨M, e, h1, _⟩ := read_rung (F b) (F_fin b (by omega))
    rw [F_zero, read_zero, h1, Nat.zero_mul, F_zero]
    unfold Datum.product
    simp only [Option.map_some, Nat.zero_mul]
    rfl
  · by_cases zb : b = 0
    · subst zb
      obtain ⟨M, e, h1, _⟩ := read_rung (F a) (F_fin a (by omega))
      rw [F_zero, read_zero, h1, Nat.mul_zero, F_zero]
      unfold Datum.product
      simp only [Option.map_some, Nat.mul_zero]
      rfl
    · have la : a.log2 < 53 := by rw [Nat.log2_lt za]; exact ha
      have lb : b.log2 < 53 := by rw [Nat.log2_lt zb]; exact hb
      rw [F_read a za ha, F_read b zb hb]
      unfold Datum.product
      rw [Option.map_some, Option.some_inj]
      refine write_value _ (970 + a.log2 + b.log2) _ _ (by omega) ?_ h
      have e1 : a * 2 ^ (52 - a.log2) * (b * 2 ^ (52 - b.log2)) = a * b * (2 ^ (52 - a.log2) * 2 ^ (52 - b.log2)) := by
        rw [Nat.mul_mul_mul_comm]
      rw [e1, Nat.mul_assoc, ← Nat.pow_add, ← Nat.pow_add, show 52 - a.log2 + (52 - b.log2) + (970 + a.log2 + b.log2) = 1074 by omega]

theorem addF (a : Nat) (ha : a < 2 ^ 53) : double.add (F a) (F 1) = some (F (a + 1)) := by
  unfold Format.add
  rw [F_read 1 (by omega) (by omega)]
  have l1 : Nat.log2 1 = 0 := by decide
  rw [l1]
  by_cases za : a = 0
  · subst za; decide +kernel
  · have la : a.log2 < 53 := by rw [Nat.log2_lt za]; exact ha
    rw [F_read a za ha]
    unfold Datum.sum signed
    dsimp only
    have eb : min ((a.log2 : Int) - 52) (((0 : Nat) : Int) - 52) = -52 := by omega
    rw [eb, Nat.shiftLeft_eq, Nat.shiftLeft_eq]
    have e1 : ((a.log2 : Int) - 52 - -52).toNat = a.log2 := by omega
    have e2 : (((0 : Nat) : Int) - 52 - -52).toNat = 0 := by omega
    rw [e1, e2, Nat.mul_assoc, ← Nat.pow_add, show 52 - a.log2 + a.log2 = 52 by omega, Nat.one_mul, show 52 - 0 = 52 from rfl, Nat.pow_zero, Nat.mul_one]
    simp only [if_neg (show ¬ (false = true) from nofun)]
    have e3 : ((a * 2 ^ 52 : Nat) : Int) + ((2 ^ 52 : Nat) : Int) = (((a + 1) * 2 ^ 52 : Nat) : Int) := by rw [Nat.add_mul, Nat.one_mul]; rfl
    rw [e3, if_neg (by omega), Int.natAbs_natCast, Option.map_some, Option.some_inj]
    have e4 : decide ((((a + 1) * 2 ^ 52 : Nat) : Int) < 0) = false := by rw [decide_eq_false_iff_not]; omega
    rw [e4]
    refine write_value _ 1022 _ _ (by omega) ?_ (by omega)
    rw [Nat.mul_assoc, ← Nat.pow_add]

theorem R_sticky (N n P : Nat) (hn : 0 < n) (h : 2 ^ 53 ≤ N / n) : R ((2 * (N / n) + (N % n != 0).toNat) * 2 ^ P) 1 = R (N * 2 ^ (P + 1)) n := by
  have st := fun d => rne_sticky N n d hn
  have s1 := Bool.toNat_le (N % n != 0)
  have q1 : N / n * n ≤ N := Nat.div_mul_le_self _ _
  have q2 : N < (N / n + 1) * n := by
    have := Nat.lt_div_mul_add (a := N) hn
    rw [Nat.add_mul, Nat.one_mul]; exact this
  generalize hm : 2 * (N / n) + (N % n != 0).toNat = mag at *
  have z : mag ≠ 0 := by omega
  have l1 := Nat.log2_self_le z
  have l2 := @Nat.lt_log2_self mag
  have hL : 54 ≤ mag.log2 := (Nat.le_log2 z).2 (by omega)
  have hl : (N * 2 ^ (P + 1) / n).log2 = mag.log2 + P := by
    generalize mag.log2 = L at *
    obtain ⟨j, rfl⟩ : ∃ j, L = j + 1 := ⟨L - 1, by omega⟩
    rw [Nat.pow_succ] at l1 l2
    have hQ1 : 2 ^ j ≤ N / n := by omega
    have hQ2 : N / n + 1 ≤ 2 ^ (j + 1) := by omega
    have g1 : 2 ^ (j + 1 + P) ≤ N * 2 ^ (P + 1) / n := by
      rw [Nat.le_div_iff_mul_le hn]
      calc 2 ^ (j + 1 + P) * n = 2 ^ j * n * 2 ^ (P + 1) := by rw [show j + 1 + P = j + (P + 1) by omega, Nat.pow_add, Nat.mul_right_comm]
        _ ≤ N / n * n * 2 ^ (P + 1) := Nat.mul_le_mul_right _ (Nat.mul_le_mul_right _ hQ1)
        _ ≤ N * 2 ^ (P + 1) := Nat.mul_le_mul_right _ q1
    have g2 : N * 2 ^ (P + 1) / n < 2 ^ (j + 1 + P + 1) := by
      rw [Nat.div_lt_iff_lt_mul hn]
      calc N * 2 ^ (P + 1) < (N / n + 1) * n * 2 ^ (P + 1) := Nat.mul_lt_mul_of_pos_right q2 (Nat.two_pow_pos _)
        _ ≤ 2 ^ (j + 1) * n * 2 ^ (P + 1) := Nat.mul_le_mul_right _ (Nat.mul_le_mul_right _ hQ2)
        _ = 2 ^ (j + 1 + P + 1) * n := by rw [show j + 1 + P + 1 = j + 1 + (P + 1) by omega, Nat.pow_add 2 (j + 1) (P + 1), Nat.mul_right_comm]
    have hz : N * 2 ^ (P + 1) / n ≠ 0 := by have := Nat.two_pow_pos (j + 1 + P); omega
    rw [Nat.log2_eq_iff hz]
    exact ⟨g1, g2⟩
  unfold R
  rw [hl, Nat.div_one, log2_shift mag P z, Nat.one_mul]
  obtain ⟨d, hd⟩ : ∃ d, mag.log2 = d + 2 + 52 := ⟨mag.log2 - 54, by omega⟩
  rw [hd, show d + 2 + 52 + P - 52 = d + 2 + P by omega]
  congr 1
  rw [Nat.pow_add 2 (d + 2) P, rne_scale _ _ _ (Nat.two_pow_pos P), st d, ← Nat.mul_assoc, show N * 2 ^ (P + 1) = 2 * N * 2 ^ P by rw [Nat.pow_succ, Nat.mul_comm (2 ^ P) 2, ← Nat.mul_assoc, Nat.mul_comm N 2], rne_scale _ _ _ (Nat.two_pow_pos P)]

theorem div_core (N n P : Nat) (p : Int) (hp : p = -1074 + (P : Int)) (hn : 0 < n) (hq : 2 ^ 53 ≤ N / n) (hfin : R (N * 2 ^ (P + 1)) n < 2047 * 2 ^ 52) :
    double.nearest false (2 * (N / n) + (N % n != 0).toNat) p = R (N * 2 ^ (P + 1)) n := by
  have z : 2 * (N / n) + (N % n != 0).toNat ≠ 0 := by omega
  rw [hp, nearest_eq _ _ z, R_sticky N n P hn hq, Nat.min_eq_left (by omega)]

theorem divF (a b : Nat) (ha : a < 2 ^ 53) (hb0 : b ≠ 0) (hb : b < 2 ^ 53) : double.div (F a) (F b) = some (R (a * 2 ^ 1074) b) := by
  unfold Format.div
  have lb : b.log2 < 53 := by rw [Nat.log2_lt hb0]; exact hb
  have l1 := Nat.log2_self_le hb0
  have nb : b * 2 ^ (52 - b.log2) ≠ 0 := Nat.mul_ne_zero hb0 (by have := Nat.two_pow_pos (52 - b.log2); omega)
  rw [F_read b hb0 hb]
  by_cases za : a = 0
  · subst za
    rw [F_zero, read_zero, Nat.zero_mul, R_zero b (by omega)]
    unfold Datum.quotient
    dsimp only
    rw [if_neg nb, Nat.zero_shiftLeft, Nat.zero_div, Nat.zero_mod]
    rfl
  · have la : a.log2 < 53 := by rw [Nat.log2_lt za]; exact ha
    rw [F_read a za ha]
    have lma : (a * 2 ^ (52 - a.log2)).log2 = 52 := by rw [log2_shift a _ za]; omega
    have lmb : (b * 2 ^ (52 - b.log2)).log2 = 52 := by rw [log2_shift b _ hb0]; omega
    unfold Datum.quotient
    dsimp only
    rw [if_neg nb, lma, lmb, show double.fractionBits + 2 + 52 - 52 = 54 from rfl, Nat.shiftLeft_eq, Option.map_some, Option.some_inj]
    have hb' : 0 < b * 2 ^ (52 - b.log2) := Nat.pos_of_ne_zero nb
    have na : a * 2 ^ (52 - a.log2) ≠ 0 := Nat.mul_ne_zero za (by have := Nat.two_pow_pos (52 - a.log2); omega)
    have ma1 : 2 ^ 52 ≤ a * 2 ^ (52 - a.log2) := by have := Nat.log2_self_le na; rw [lma] at this; exact this
    have mb2 : b * 2 ^ (52 - b.log2) < 2 ^ 53 := by have := @Nat.lt_log2_self (b * 2 ^ (52 - b.log2)); rw [lmb] at this; exact this
    -- the value: a / b = m * 2^54 / n * 2^(la - lb - 54)
    have hval : a * 2 ^ 1074 * (b * 2 ^ (52 - b.log2)) = a * 2 ^ (52 - a.log2) * 2 ^ 54 * 2 ^ (1020 + a.log2 - b.log2) * b := by
      have e1 : a * 2 ^ 1074 * (b * 2 ^ (52 - b.log2)) = a * b * (2 ^ 1074 * 2 ^ (52 - b.log2)) := by rw [Nat.mul_mul_mul_comm]
      have e2 : a * 2 ^ (52 - a.log2) * 2 ^ 54 * 2 ^ (1020 + a.log2 - b.log2) * b = a * b * (2 ^ (52 - a.log2) * 2 ^ 54 * 2 ^ (1020 + a.log2 - b.log2)) := by
        rw [Nat.mul_assoc a, Nat.mul_assoc a, Nat.mul_right_comm]
      rw [e1, e2, ← Nat.pow_add, ← Nat.pow_add, ← Nat.pow_add]
      congr 2; omega
    have hR : R (a * 2 ^ 1074) b = R (a * 2 ^ (52 - a.log2) * 2 ^ 54 * 2 ^ (1020 + a.log2 - b.log2)) (b * 2 ^ (52 - b.log2)) :=
      R_congr _ _ _ _ (by omega) hb' hval
    have hfin : R (a * 2 ^ 1074) b < 2047 * 2 ^ 52 := by
      refine R_fin _ _ (by omega) ?_
      have e1 : (2 : Nat) ^ 1274 = 2 ^ 200 * 2 ^ 1074 := by rw [← Nat.pow_add]
      rw [e1, ← Nat.mul_assoc]
      refine Nat.mul_lt_mul_of_pos_right ?_ (Nat.two_pow_pos _)
      have : 1 * 2 ^ 200 ≤ b * 2 ^ 200 := Nat.mul_le_mul_right _ (by omega)
      have : (2 : Nat) ^ 53 < 2 ^ 200 := by decide
      omega
    rw [hR] at hfin ⊢
    have hq : 2 ^ 53 ≤ a * 2 ^ (52 - a.log2) * 2 ^ 54 / (b * 2 ^ (52 - b.log2)) := by
      rw [Nat.le_div_iff_mul_le hb']
      generalize a * 2 ^ (52 - a.log2) = m at *
      generalize b * 2 ^ (52 - b.log2) = n at *
      omega
    have hP : 1020 + a.log2 - b.log2 = 1019 + a.log2 - b.log2 + 1 := by omega
    rw [hP] at hfin ⊢
    exact div_core _ _ _ _ (by omega) hb' hq hfin

/-! ### The miss percentage -/
/-- '100 * float64(x) / float64(m)'. -/
def MP (x m : Nat) : Nat := R (100 * x * 2 ^ 1074) m

theorem MP_calc (x m : Nat) (hx : x < 2 ^ 43) (hm : m ≠ 0) (hm' : m < 2 ^ 53) : double.mul (F 100) (F x) = some (F (100 * x)) ∧ double.div (F (100 * x)) (F m) = some (MP x m) :=
  ⟨mulF 100 x (by omega) (by omega) (by omega), divF (100 * x) m (by omega) hm hm'⟩

theorem MP_fin (x m : Nat) (hx : x < 2 ^ 43) (hm : m ≠ 0) : MP x m < 2047 * 2 ^ 52 := by
  refine R_fin _ _ (by omega) ?_
  have e1 : (2 : Nat) ^ 1274 = 2 ^ 200 * 2 ^ 1074 := by rw [← Nat.pow_add]
  rw [e1, ← Nat.mul_assoc]
  refine Nat.mul_lt_mul_of_pos_right ?_ (Nat.two_pow_pos _)
  have : 1 * 2 ^ 200 ≤ m * 2 ^ 200 := Nat.mul_le_mul_right _ (by omega)
  have : (2 : Nat) ^ 53 < 2 ^ 200 := by decide
  omega

theorem MP_ge (x m q : Nat) (hm : m ≠ 0) (hq : q < 2 ^ 60) (h : q * m ≤ 100 * x) : F q ≤ MP x m := by
  rw [F_eq q hq]
  refine R_mono _ _ _ _ (by omega) (by omega) ?_
  rw [Nat.mul_one, Nat.mul_right_comm]
  exact Nat.mul_le_mul_right _ h

theorem MP_le (x m q : Nat) (hm : m ≠ 0) (hq : q < 2 ^ 60) (h : 100 * x ≤ q * m) : MP x m ≤ F q := by
  rw [F_eq q hq]
  refine R_mono _ _ _ _ (by omega) (by omega) ?_
  rw [Nat.mul_one, Nat.mul_right_comm q]
  exact Nat.mul_le_mul_right _ h

theorem MP_eq (x m q : Nat) (hm : m ≠ 0) (hq : q < 2 ^ 60) (h : 100 * x = q * m) : MP x m = F q :=
  Nat.le_antisymm (MP_le x m q hm hq (Nat.le_of_eq h)) (MP_ge x m q hm hq (Nat.le_of_eq h.symm))

theorem MP_twice (x m : Nat) (hm : m ≠ 0) : MP (2 * x) (2 * m) = MP x m := by
  refine R_congr _ _ _ _ (by omega) (by omega) ?_
  rw [show 100 * (2 * x) = 2 * (100 * x) by omega, Nat.mul_assoc 2, Nat.mul_assoc 2, Nat.mul_comm 2 m, ← Nat.mul_assoc (100 * x * 2 ^ 1074), Nat.mul_comm 2]

theorem MP_more (x m : Nat) (hm : m ≠ 0) : MP x (m + 1) ≤ MP x m := by
  refine R_mono _ _ _ _ (by omega) (by omega) ?_
  exact Nat.mul_le_mul_left _ (by omega)

theorem MP_normal (x m : Nat) (hx : x ≠ 0) (hm : m ≠ 0) (hm' : m < 2 ^ 53) : 2 ^ 52 ≤ 100 * x * 2 ^ 1074 / m := by
  rw [Nat.le_div_iff_mul_le (by omega)]
  have h1 : 2 ^ 52 * m ≤ 2 ^ 52 * 2 ^ 53 := Nat.mul_le_mul_left _ (by omega)
  have h2 : (2 : Nat) ^ 52 * 2 ^ 53 ≤ 2 ^ 1074 := by rw [← Nat.pow_add]; exact Nat.pow_le_pow_right (by omega) (by omega)
  exact Nat.le_trans h1 (Nat.le_trans h2 (Nat.le_mul_of_pos_left _ (by omega)))

/-- One more missed: strictly more. -/
theorem MP_lt (x m : Nat) (hx : x < 2 ^ 43) (hm : m ≠ 0) (hm' : m < 2 ^ 53) : MP x m < MP (x + 1) m := by
  by_cases z : x = 0
  · subst z
    have := R_normal _ _ (MP_normal 1 m (by omega) hm hm')
    have e : MP 0 m = 0 := by unfold MP; rw [Nat.mul_zero, Nat.zero_mul]; exact R_zero m (by omega)
    rw [e]; unfold MP; rw [Nat.zero_add]; omega
  · refine R_lt _ _ _ (by omega) (MP_normal x m z hm hm') (MP_normal (x + 1) m (by omega) hm hm') ?_
    have hp := Nat.two_pow_pos 1074
    generalize (2 : Nat) ^ 1074 = u at *
    have e1 : 2 ^ 53 * (100 * (x + 1) * u) = 2 ^ 53 * (100 * x * u) + 2 ^ 53 * (100 * u) := by
      rw [← Nat.mul_add, ← Nat.add_mul]; congr 2
    have e2 : 100 * x * u + 100 * (x + 1) * u < 2 ^ 53 * (100 * u) := by
      rw [← Nat.add_mul, ← Nat.mul_assoc]
      exact Nat.mul_lt_mul_of_pos_right (by omega) hp
    omega

theorem MP_mono (x y m : Nat) (hm : m ≠ 0) (h : x ≤ y) : MP x m ≤ MP y m := by
  refine R_mono _ _ _ _ (by omega) (by omega) ?_
  exact Nat.mul_le_mul_right _ (Nat.mul_le_mul_right _ (by omega))
end Go.Proofs.Qxb6613305a.Flt
