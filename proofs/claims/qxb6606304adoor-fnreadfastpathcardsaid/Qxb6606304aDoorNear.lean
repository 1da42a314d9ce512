/-
  PLAIN LAW (no Go in sight): 'nearest' of the floats' model, told by 're'; the end of internal/strconv's parseFloat64.
-/
import Derived.Test.Qxb6606304aDoorScale
namespace Go.Proofs.Qxb6606304aDoor.Fl
open Ieee

theorem re_one (n : Nat) : re n 1 = n := by
  unfold re
  rw [Nat.mod_one, Nat.div_one, if_neg (by omega)]
theorem cut_even (neg : Bool) (n drop : Nat) (h : drop ≤ n.log2 + 2) : Toward.even.cut neg n drop = re n (2 ^ drop) := by
  unfold Toward.cut re
  simp only [Nat.min_eq_left h, Nat.one_shiftLeft]
  by_cases h1 : 2 ^ drop < 2 * (n % 2 ^ drop)
  · rw [if_pos (.inl h1)]; simp [h1]
  · by_cases h2 : 2 ^ drop = 2 * (n % 2 ^ drop) ∧ n / 2 ^ drop % 2 = 1
    · rw [if_pos (.inr h2)]; simp [h2.1.symm, h2.2]
    · rw [if_neg (by simp only [not_or]; exact ⟨h1, h2⟩)]
      have e : (decide (2 ^ drop < 2 * (n % 2 ^ drop)) || (2 ^ drop == 2 * (n % 2 ^ drop) && n / 2 ^ drop % 2 == 1)) = false := by
        rw [Bool.or_eq_false_iff]
        refine ⟨decide_eq_false h1, ?_⟩
        rw [Bool.and_eq_false_iff]
        by_cases h3 : 2 ^ drop = 2 * (n % 2 ^ drop)
        · right; rw [beq_eq_false_iff_ne]; exact fun h4 => h2 ⟨h3, h4⟩
        · left; rw [beq_eq_false_iff_ne]; exact h3
      rw [e]; rfl

/-- The rung of 'nearest', whatever the sign. -/
def rungOf (mag : Nat) (place : Int) : Nat :=
  if mag = 0 then 0 else
  min ((max (place + mag.log2 - (52 : Nat)) (-1074) - (-1074)).toNat * 4503599627370496 + Toward.even.cut false (mag <<< (place - max (place + mag.log2 - (52 : Nat)) (-1074)).toNat) (max (place + mag.log2 - (52 : Nat)) (-1074) - place).toNat) 9218868437227405312
theorem binade : double.binade = 4503599627370496 := by decide +kernel
theorem infRung : double.infRung = 9218868437227405312 := by decide +kernel
theorem leastPlace : double.leastPlace = -1074 := by decide +kernel
theorem signWeight : double.signWeight = 9223372036854775808 := by decide +kernel
theorem cut_neg (neg : Bool) (n drop : Nat) : Toward.even.cut neg n drop = Toward.even.cut false n drop := rfl
theorem nearest_word (neg : Bool) (mag : Nat) (place : Int) : double.nearest neg mag place = double.word neg (rungOf mag place) := by
  unfold Format.nearest rungOf
  rw [binade, infRung, leastPlace]
  split
  · rfl
  · rw [cut_neg]; rfl
theorem rungOf_le (mag : Nat) (place : Int) : rungOf mag place ≤ 9218868437227405312 := by
  unfold rungOf
  split
  · omega
  · exact Nat.min_le_right _ _
/-- A number of many digits. -/
theorem rungOf_big (mag : Nat) (place : Int) (L : Nat) (hL : mag.log2 = L) (h0 : mag ≠ 0) (h52 : 52 ≤ L) (hp : -1074 ≤ place + (L : Int) - 52) :
    rungOf mag place = min ((place + (L : Int) - 52 + 1074).toNat * 4503599627370496 + re mag (2 ^ (L - 52))) 9218868437227405312 := by
  unfold rungOf
  rw [if_neg h0, hL]
  have e1 : max (place + (L : Int) - (52 : Nat)) (-1074) = place + L - 52 := by omega
  rw [e1]
  have e2 : (place - (place + (L : Int) - 52)).toNat = 0 := by omega
  have e3 : (place + (L : Int) - 52 - place).toNat = L - 52 := by omega
  have e4 : (place + (L : Int) - 52 - -1074) = place + L - 52 + 1074 := by omega
  rw [e2, e3, e4, Nat.shiftLeft_zero, cut_even _ _ _ (by omega)]
/-- A whole number of at most 53 digits: the rung. -/
theorem rungOf_small (mag : Nat) (L : Nat) (hL : mag.log2 = L) (h0 : mag ≠ 0) (h52 : L ≤ 52) :
    rungOf mag 0 = (L + 1022) * 4503599627370496 + mag * 2 ^ (52 - L) := by
  have hlt : mag < 2 ^ (L + 1) := by rw [← hL]; exact Nat.lt_log2_self
  unfold rungOf
  rw [if_neg h0, hL]
  have e1 : max ((0 : Int) + (L : Int) - (52 : Nat)) (-1074) = (L : Int) - 52 := by omega
  rw [e1]
  have e2 : ((0 : Int) - ((L : Int) - 52)).toNat = 52 - L := by omega
  have e3 : ((L : Int) - 52 - 0).toNat = 0 := by omega
  have e4 : ((L : Int) - 52 - -1074).toNat = L + 1022 := by omega
  rw [e2, e3, e4, cut_even _ _ _ (by omega), Nat.pow_zero, re_one, Nat.shiftLeft_eq]
  have hk : mag * 2 ^ (52 - L) < 2 ^ 53 := by
    have h1 : mag * 2 ^ (52 - L) < 2 ^ (L + 1) * 2 ^ (52 - L) := (Nat.mul_lt_mul_right (Nat.two_pow_pos _)).2 hlt
    rw [← Nat.pow_add, show L + 1 + (52 - L) = 53 by omega] at h1
    exact h1
  have e53 : (2 : Nat) ^ 53 = 9007199254740992 := by decide +kernel
  rw [e53] at hk
  generalize mag * 2 ^ (52 - L) = K at *
  clear hlt e53
  exact Nat.min_eq_left (by omega)
/-! ### the end of parseFloat64 -/
def goS (u : Nat) : Nat := if 36028797018963966 ≤ u then 1 else 0
def goM (u : Nat) : Nat := if 36028797018963966 ≤ u then rnd (rsh u) else rnd u
theorem tail_low (A C : Nat) (hC : 0 < C) (h1 : 18014398509481984 * C ≤ A) (h2 : A < 36028797018963968 * C) : 4503599627370496 ≤ goM (uOf A C) ∧ goM (uOf A C) < 9007199254740992 ∧ goM (uOf A C) + 4503599627370496 * goS (uOf A C) = re A (C * 4) := by
  have q1 : 18014398509481984 ≤ A / C := (Nat.le_div_iff_mul_le hC).2 h1
  have q2 : A / C < 36028797018963968 := (Nat.div_lt_iff_lt_mul hC).2 h2
  rw [← rnd_uOf A C hC]
  have hu := uOf_eq A C
  generalize A / C = q at *
  generalize A % C = r at *
  generalize uOf A C = u at *
  have hu' : u = q ∨ (u = q + 1 ∧ q % 2 = 0) := by
    split at hu <;> omega
  unfold goM goS
  by_cases h : 36028797018963966 ≤ u
  · rw [if_pos h, if_pos h]
    have hu2 : u = 36028797018963966 ∨ u = 36028797018963967 := by omega
    rcases hu2 with rfl | rfl
    · decide +kernel
    · decide +kernel
  · rw [if_neg h, if_neg h]
    unfold rnd
    omega
theorem tail_high (A C : Nat) (hC : 0 < C) (h1 : 36028797018963968 * C ≤ A) (h2 : A < 70931694131085312 * C) : 4503599627370496 ≤ goM (uOf A C) ∧ goM (uOf A C) < 9007199254740992 ∧ goM (uOf A C) = re A (C * 8) ∧ goS (uOf A C) = 1 := by
  have q1 : 36028797018963968 ≤ A / C := (Nat.le_div_iff_mul_le hC).2 h1
  have q2 : A / C < 70931694131085312 := (Nat.div_lt_iff_lt_mul hC).2 h2
  have hu := uOf_eq A C
  have hr := rsh_uOf A C hC
  have hn := rnd_uOf A (C * 2) (by omega)
  rw [Nat.mul_assoc] at hn
  have hu2 := uOf_eq A (C * 2)
  have hd : A / (C * 2) = A / C / 2 := (div_parts A C 2).1
  rw [hd] at hu2
  unfold goM goS
  rw [hr]
  have h : 36028797018963966 ≤ uOf A C := by rw [hu]; split <;> omega
  rw [if_pos h, if_pos h]
  refine ⟨?_, ?_, hn, rfl⟩
  · unfold rnd; rw [hu2]; split <;> omega
  · unfold rnd; rw [hu2]; split <;> omega
end Go.Proofs.Qxb6606304aDoor.Fl
