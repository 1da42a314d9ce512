/-
  PLAIN LAW (no Go in sight): the law's own float whole; 1e15 as a bound; the sign.
-/
import Derived.Test.Qxb6606304aDoorWant
namespace Go.Proofs.Qxb6606304aDoor.Fl
open Ieee

theorem xor_sign (r : Nat) (h : r < 9223372036854775808) : r ^^^ 2 ^ 63 = 9223372036854775808 + r := by
  have e63 : (2 : Nat) ^ 63 = 9223372036854775808 := by decide +kernel
  rw [← e63] at h ⊢
  apply Nat.eq_of_testBit_eq
  intro i
  rw [Nat.testBit_xor, Nat.testBit_two_pow]
  rcases Nat.lt_trichotomy i 63 with hi | hi | hi
  · rw [Nat.testBit_two_pow_add_gt hi, decide_eq_false (by omega), Bool.xor_false]
  · subst hi
    rw [Nat.testBit_two_pow_add_eq, Nat.testBit_lt_two_pow h]
    rfl
  · have h1 : r < 2 ^ i := Nat.lt_of_lt_of_le h (Nat.pow_le_pow_right (by omega) (by omega))
    have h2 : 2 ^ 63 + r < 2 ^ i := by
      have : 2 ^ 64 ≤ 2 ^ i := Nat.pow_le_pow_right (by omega) (by omega)
      have h3 : (2 : Nat) ^ 64 = 2 ^ 63 + 2 ^ 63 := by decide +kernel
      omega
    rw [Nat.testBit_lt_two_pow h1, Nat.testBit_lt_two_pow h2, decide_eq_false (by omega)]
    rfl
theorem word_neg (r : Nat) (h : r ≤ 9218868437227405312) : double.word false r ^^^ 2 ^ 63 = double.word true r := by
  unfold Format.word
  rw [signWeight]
  exact xor_sign r (by omega)

/-- The law's operation. -/
def opB (p : Int) (x : Nat) : Option Nat := if 0 ≤ p then double.mul x (pb p.natAbs) else double.div x (pb p.natAbs)
theorem bits_of (d : Nat) (h : d ≠ 0) : ∃ b, 1 ≤ b ∧ 2 ^ (b - 1) ≤ d ∧ d < 2 ^ b :=
  ⟨d.log2 + 1, by omega, by rw [Nat.add_sub_cancel]; exact Nat.log2_self_le h, Nat.lt_log2_self⟩
theorem b_le {d b : Nat} (h1 : 2 ^ (b - 1) ≤ d) (hd : d ≤ 9007199254740992) : b ≤ 54 := by
  rcases Nat.lt_or_ge b 55 with h | h
  · omega
  · have := Nat.pow_le_pow_right (show 0 < 2 by omega) (show 54 ≤ b - 1 by omega)
    rw [show (2 : Nat) ^ 54 = 18014398509481984 by decide +kernel] at this
    omega
/-- Times one. -/
theorem one_want (d b : Nat) (hb : 1 ≤ b) (hb2 : b ≤ 53) (h1 : 2 ^ (b - 1) ≤ d) (h2 : d < 2 ^ b) (hd : d ≤ 9007199254740992) (s : Bool) : double.mul (double.word s (rungOf d 0)) (pb 0) = some (double.word s (rungOf d 0)) := by
  obtain ⟨m, hm, hv, m1, m2⟩ := a_read d b hb h1 h2 hd
  have hL : d.log2 = b - 1 := log2_is h1 (by rw [show b - 1 + 1 = b by omega]; exact h2)
  have h0 : d ≠ 0 := by have := Nat.two_pow_pos (b - 1); omega
  have hr := rungOf_small d (b - 1) hL h0 (by omega)
  rw [show 52 - (b - 1) = 53 - b by omega] at hr
  have hmv : d * 2 ^ (53 - b) = m := by
    refine Nat.eq_of_mul_eq_mul_right (Nat.two_pow_pos b) ?_
    rw [hv, Nat.mul_assoc, ← Nat.pow_add, show 53 - b + b = 53 by omega, show (2 : Nat) ^ 53 = 9007199254740992 by decide +kernel]
  rw [hmv] at hr
  have e52 : (2 : Nat) ^ 52 = 4503599627370496 := by decide +kernel
  unfold Format.mul
  rw [hm s, pb_read 0 (by omega)]
  simp only [Datum.product, Option.map_some, Format.write, Bool.xor_false, nearest_word]
  rw [show pmant 0 = 2 ^ 52 by decide +kernel, show ((pn 0 : Int) - 53) = -52 by decide +kernel]
  have hl : (m * 2 ^ 52).log2 = 104 := by rw [log2_mul_pow m 52 (by omega), log2_52 m1 m2]
  rw [rungOf_big (m * 2 ^ 52) _ 104 hl (by rw [e52]; omega) (by omega) (by omega), hr]
  have hre : re (m * 2 ^ 52) (2 ^ (104 - 52)) = m := by
    have := re_mul m 1 (2 ^ 52) (Nat.two_pow_pos _)
    rw [Nat.one_mul, re_one] at this
    exact this
  rw [hre]
  have e1 : ((b : Int) - 53 + -52 + ((104 : Nat) : Int) - 52 + 1074).toNat = b - 1 + 1022 := by omega
  rw [e1]
  congr 2
  exact Nat.min_eq_left (by omega)

/-- What the law's own float is. -/
theorem want_all (d : Nat) (p : Int) (hd : d ≤ 9007199254740992) (hp1 : -22 ≤ p) (hp2 : p ≤ 22) :
    ∃ r, r ≤ 9218868437227405312 ∧ (∀ s, opB p (double.word s (rungOf d 0)) = some (double.word s r)) ∧ (d = 0 → r = 0) ∧ (p = 0 → d ≠ 0 → d < 4503599627370496 → r = rungOf d 0) ∧
      (∀ b : Nat, 1 ≤ b → 2 ^ (b - 1) ≤ d → d < 2 ^ b → 50 ≤ b → (p ≤ 0 → 53 ≤ b) → 4503599627370496 ≤ goM (usc (d * 2 ^ (64 - b)) (hiT p) (loT p)) ∧ goM (usc (d * 2 ^ (64 - b)) (hiT p) (loT p)) < 9007199254740992 ∧
        goRung (usc (d * 2 ^ (64 - b)) (hiT p) (loT p)) (53 - (b : Int) - lgp p) = r) := by
  by_cases h0 : d = 0
  · subst h0
    have e0 : rungOf 0 0 = 0 := by unfold rungOf; rw [if_pos rfl]
    refine ⟨0, by omega, fun s => ?_, fun _ => rfl, fun _ h => absurd rfl h, fun b hb h => ?_⟩
    · rw [e0]
      unfold opB
      split
      · exact mul_zero _ (by omega) s
      · exact div_zero _ (by omega) s
    · have := Nat.two_pow_pos (b - 1)
      omega
  · obtain ⟨b, hb, h1, h2⟩ := bits_of d h0
    have hb4 := b_le h1 hd
    have uniq : ∀ b' : Nat, 1 ≤ b' → 2 ^ (b' - 1) ≤ d → d < 2 ^ b' → b' = b := fun b' hb' g1 g2 => by
      have e1 : d.log2 = b - 1 := log2_is h1 (by rw [show b - 1 + 1 = b by omega]; exact h2)
      have e2 : d.log2 = b' - 1 := log2_is g1 (by rw [show b' - 1 + 1 = b' by omega]; exact g2)
      omega
    by_cases hp : 0 ≤ p
    · obtain ⟨k, rfl⟩ : ∃ k : Nat, p = k := ⟨p.toNat, by omega⟩
      obtain ⟨r, r1, r2, r3⟩ := mul_want d b k (by omega) hb h1 h2 hd
      refine ⟨r, r1, fun s => ?_, fun h => absurd h h0, fun hp0 _ hlt => ?_, fun b' g0 g1 g2 g3 g4 => ?_⟩
      · unfold opB
        rw [if_pos hp, Int.natAbs_natCast]
        exact r2 s
      · have hk0 : k = 0 := by omega
        subst hk0
        have hb3 : b ≤ 53 := by
          rcases Nat.lt_or_ge b 54 with h | h
          · omega
          · have := Nat.pow_le_pow_right (show 0 < 2 by omega) (show 53 ≤ b - 1 by omega)
            rw [show (2 : Nat) ^ 53 = 9007199254740992 by decide +kernel] at this
            omega
        have h3 := r2 false
        rw [one_want d b hb hb3 h1 h2 hd false] at h3
        have h4 := Option.some.inj h3
        have w1 : ∀ x, double.word false x = x := fun x => by unfold Format.word; rw [if_neg (by simp)]
        rw [w1, w1] at h4
        exact h4.symm
      · obtain rfl := uniq b' g0 g1 g2
        obtain ⟨t1, t2, t3, t4, t5, t6⟩ := tab_pos k (by omega)
        refine r3 hb4 ?_
        by_cases hk : k = 0
        · subst hk
          have := g4 (by omega)
          omega
        · have : 3 ≤ lgp (k : Nat) := by unfold lgp; omega
          omega
    · obtain ⟨k, rfl⟩ : ∃ k : Nat, p = -(k : Int) := ⟨(-p).toNat, by omega⟩
      obtain ⟨r, r1, r2, r3⟩ := div_want d b k (by omega) (by omega) hb h1 h2 hd
      refine ⟨r, r1, fun s => ?_, fun h => absurd h h0, fun hp0 => by omega, fun b' g0 g1 g2 g3 g4 => ?_⟩
      · unfold opB
        rw [if_neg hp, Int.natAbs_neg, Int.natAbs_natCast]
        exact r2 s
      · obtain rfl := uniq b' g0 g1 g2
        exact r3 hb4
theorem goM_small {u : Nat} (h : goM u < 9007199254740992) : u < 9223372036854775808 := by
  unfold goM at h
  split at h
  · unfold rsh rnd at h
    rw [or_bit _ _ (by omega)] at h
    split at h <;> omega
  · omega
theorem hiT_ok : ∀ k, k < 23 → 2 ≤ hiT (k : Nat) ∧ hiT (k : Nat) < 18446744073709551616 ∧ loT (k : Nat) < 18446744073709551616 ∧ 2 ≤ hiT (-(k : Nat)) ∧ hiT (-(k : Nat)) < 18446744073709551616 ∧ loT (-(k : Nat)) < 18446744073709551616 ∧ -75 ≤ lgp (k : Nat) ∧ lgp (k : Nat) ≤ 75 ∧ -75 ≤ lgp (-(k : Nat)) ∧ lgp (-(k : Nat)) ≤ 75 := by decide +kernel

theorem read15 : double.read 4831355200913801216 = .number false (pmant 15) (-3) ∧ double.read 14054727237768577024 = .number true (pmant 15) (-3) := by decide +kernel
theorem signed_le {a b : Nat} (h : a ≤ b) : (a : Int) ≤ b := by omega
/-- A whole number up to 1e15 is not beyond 1e15, nor below -1e15. -/
theorem ord15 (d : Nat) (h0 : d ≠ 0) (hd : d ≤ 1000000000000000) (s : Bool) :
    (double.order (double.word s (rungOf d 0)) 4831355200913801216 == some .gt) = false ∧ (double.order (double.word s (rungOf d 0)) 14054727237768577024 == some .lt) = false := by
  obtain ⟨b, hb, h1, h2⟩ := bits_of d h0
  obtain ⟨m, hm, hv, m1, m2⟩ := a_read d b hb h1 h2 (by omega)
  obtain ⟨pv, p2, p3⟩ := pb_val 15 (by omega)
  have hb5 : b ≤ 50 := by
    rcases Nat.lt_or_ge b 51 with h | h
    · omega
    · have := Nat.pow_le_pow_right (show 0 < 2 by omega) (show 50 ≤ b - 1 by omega)
      rw [show (2 : Nat) ^ 50 = 1125899906842624 by decide +kernel] at this
      omega
  have hle : m ≤ pmant 15 * 2 ^ (50 - b) := by
    refine Nat.le_of_mul_le_mul_right ?_ (Nat.two_pow_pos b)
    rw [hv, Nat.mul_assoc, ← Nat.pow_add, show 50 - b + b = 50 by omega]
    rw [show pn 15 = 50 by decide +kernel] at pv
    rw [pv]
    exact Nat.mul_le_mul_right _ hd
  have e1 : ((b : Int) - 53 - min ((b : Int) - 53) (-3)).toNat = 0 := by omega
  have e2 : ((-3 : Int) - min ((b : Int) - 53) (-3)).toNat = 50 - b := by omega
  unfold Format.order
  rw [hm s, read15.1, read15.2]
  unfold Datum.order signed
  simp only [e1, e2, Nat.shiftLeft_eq, Nat.pow_zero, Nat.mul_one]
  generalize pmant 15 * 2 ^ (50 - b) = Q at *
  cases s
  · simp only [Bool.false_eq_true, if_false, if_true]
    constructor
    · rw [beq_eq_false_iff_ne]
      intro h
      have := Int.compare_eq_gt.1 (Option.some.inj h)
      omega
    · rw [beq_eq_false_iff_ne]
      intro h
      have := Int.compare_eq_lt.1 (Option.some.inj h)
      omega
  · simp only [Bool.false_eq_true, if_false, if_true]
    constructor
    · rw [beq_eq_false_iff_ne]
      intro h
      have := Int.compare_eq_gt.1 (Option.some.inj h)
      omega
    · rw [beq_eq_false_iff_ne]
      intro h
      have := Int.compare_eq_lt.1 (Option.some.inj h)
      omega
end Go.Proofs.Qxb6606304aDoor.Fl
