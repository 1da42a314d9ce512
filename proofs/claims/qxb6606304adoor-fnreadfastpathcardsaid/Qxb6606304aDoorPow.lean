/-
  PLAIN LAW (no Go in sight): internal/strconv's parseFloat64 rounds right at the powers of ten from -22 to 22.
-/
import Derived.Test.Qxb6606304aDoorNear
namespace Go.Proofs.Qxb6606304aDoor.Fl
open Ieee

theorem log2_is {n k : Nat} (h1 : 2 ^ k ≤ n) (h2 : n < 2 ^ (k + 1)) : n.log2 = k := by
  have h0 : n ≠ 0 := by have := Nat.two_pow_pos k; omega
  exact (Nat.log2_eq_iff h0).2 ⟨h1, h2⟩

/-- The end of parseFloat64, where the exponent is e: the rung. -/
def goRung (u : Nat) (e : Int) : Nat := goM u + 4503599627370496 * (1074 - e + goS u).toNat

theorem fin_min (g S M : Nat) (hg : g ≤ 2000) (hS : S ≤ 1) (hM : M < 9007199254740992) : M + 4503599627370496 * (g + S) = min (g * 4503599627370496 + (M + 4503599627370496 * S)) 9218868437227405312 := by
  have hle : g * 4503599627370496 + (M + 4503599627370496 * S) ≤ 9218868437227405312 := by omega
  rw [Nat.min_eq_left hle]
  omega
/-- Where the scaled number is A / C, with 4 * (the number's digits from the place -e on). -/
theorem go_pos (mag A C f : Nat) (hC : 0 < C) (hf : f ≤ 200) (hA : A * 2 ^ f = mag * (C * 4)) (h1 : 18014398509481984 * C ≤ A) (h2 : A < 70931694131085312 * C) :
    4503599627370496 ≤ goM (uOf A C) ∧ goM (uOf A C) < 9007199254740992 ∧ goRung (uOf A C) (-(f : Int)) = rungOf mag 0 := by
  have ht := Nat.two_pow_pos f
  -- where mag stands
  have k1 : 2 ^ f * 4503599627370496 ≤ mag := by
    have h := Nat.mul_le_mul_right (2 ^ f) h1
    rw [hA] at h
    have h' : 2 ^ f * 4503599627370496 * (C * 4) ≤ mag * (C * 4) := by
      refine Nat.le_trans (Nat.le_of_eq ?_) h
      generalize 2 ^ f = t
      have e : t * 4503599627370496 * (C * 4) = 4503599627370496 * 4 * (t * C) := by ac_rfl
      have e2 : 18014398509481984 * C * t = 18014398509481984 * (t * C) := by ac_rfl
      omega
    exact Nat.le_of_mul_le_mul_right h' (by omega)
  by_cases hlow : A < 36028797018963968 * C
  · obtain ⟨b1, b2, b3⟩ := tail_low A C hC h1 hlow
    refine ⟨b1, b2, ?_⟩
    have k2 : mag < 2 ^ f * 9007199254740992 := by
      have h := (Nat.mul_lt_mul_right ht).2 hlow
      rw [hA] at h
      have h' : mag * (C * 4) < 2 ^ f * 9007199254740992 * (C * 4) := by
        refine Nat.lt_of_lt_of_eq h ?_
        generalize 2 ^ f = t
        have e : t * 9007199254740992 * (C * 4) = 9007199254740992 * 4 * (t * C) := by ac_rfl
        have e2 : 36028797018963968 * C * t = 36028797018963968 * (t * C) := by ac_rfl
        omega
      exact Nat.lt_of_mul_lt_mul_right h'
    have hL : mag.log2 = f + 52 := log2_is (by rw [Nat.pow_add]; exact k1) (by rw [show f + 52 + 1 = f + 53 by omega, Nat.pow_add]; exact k2)
    rw [rungOf_big mag 0 (f + 52) hL (by omega) (by omega) (by omega), show f + 52 - 52 = f by omega]
    have hre : re mag (2 ^ f) = re A (C * 4) := re_cross ht (by omega) hA.symm
    rw [hre, ← b3]
    have hs : goS (uOf A C) ≤ 1 := by unfold goS; split <;> omega
    unfold goRung
    generalize goM (uOf A C) = M at *
    generalize goS (uOf A C) = S at *
    have e1 : ((0 : Int) + ((f + 52 : Nat) : Int) - 52 + 1074).toNat = f + 1074 := by omega
    have e2 : (1074 - -(f : Int) + (S : Int)).toNat = f + 1074 + S := by omega
    rw [e1, e2]
    exact fin_min (f + 1074) S M (by omega) hs b2
  · obtain ⟨b1, b2, b3, b4⟩ := tail_high A C hC (by omega) h2
    refine ⟨b1, b2, ?_⟩
    have k3 : 2 ^ f * 9007199254740992 ≤ mag := by
      have h := Nat.mul_le_mul_right (2 ^ f) (show 36028797018963968 * C ≤ A by omega)
      rw [hA] at h
      have h' : 2 ^ f * 9007199254740992 * (C * 4) ≤ mag * (C * 4) := by
        refine Nat.le_trans (Nat.le_of_eq ?_) h
        generalize 2 ^ f = t
        have e : t * 9007199254740992 * (C * 4) = 9007199254740992 * 4 * (t * C) := by ac_rfl
        have e2 : 36028797018963968 * C * t = 36028797018963968 * (t * C) := by ac_rfl
        omega
      exact Nat.le_of_mul_le_mul_right h' (by omega)
    have k2 : mag < 2 ^ f * 18014398509481984 := by
      have h := (Nat.mul_lt_mul_right ht).2 h2
      rw [hA] at h
      have h' : mag * (C * 4) < 2 ^ f * 18014398509481984 * (C * 4) := by
        refine Nat.lt_of_lt_of_le h ?_
        generalize 2 ^ f = t
        have e : t * 18014398509481984 * (C * 4) = 18014398509481984 * 4 * (t * C) := by ac_rfl
        have e2 : 70931694131085312 * C * t = 70931694131085312 * (t * C) := by ac_rfl
        omega
      exact Nat.lt_of_mul_lt_mul_right h'
    have hL : mag.log2 = f + 53 := log2_is (by rw [Nat.pow_add]; exact k3) (by rw [show f + 53 + 1 = f + 54 by omega, Nat.pow_add]; exact k2)
    rw [rungOf_big mag 0 (f + 53) hL (by omega) (by omega) (by omega), show f + 53 - 52 = f + 1 by omega]
    have hre : re mag (2 ^ (f + 1)) = re A (C * 8) := by
      refine re_cross (Nat.two_pow_pos _) (by omega) ?_
      rw [Nat.pow_succ, ← Nat.mul_assoc A, hA, Nat.mul_assoc, Nat.mul_assoc]
    rw [hre, ← b3]
    unfold goRung
    rw [b4]
    generalize goM (uOf A C) = M at *
    have e1 : ((0 : Int) + ((f + 53 : Nat) : Int) - 52 + 1074).toNat = f + 1075 := by omega
    have e2 : (1074 - -(f : Int) + ((1 : Nat) : Int)).toNat = f + 1075 := by omega
    rw [e1, e2]
    exact fin_min (f + 1075) 0 M (by omega) (by omega) b2
/-- The same where the number is a quotient A3 / P, cut behind one digit more. -/
theorem go_neg (A3 P A C : Nat) (pl e : Int) (hP : 0 < P) (hC : 0 < C) (hX : A3 * (C * 2) = A * P) (h1 : 18014398509481984 * C ≤ A) (h2 : A < 70931694131085312 * C) (hpl : pl + 2 = -e) (hr1 : -900 ≤ pl) (hr2 : pl ≤ 900) :
    4503599627370496 ≤ goM (uOf A C) ∧ goM (uOf A C) < 9007199254740992 ∧ goRung (uOf A C) e = rungOf (2 * (A3 / P) + st (A3 % P)) pl := by
  have hst := st_le (A3 % P)
  -- from A / C to A3 / P
  have lo : ∀ c : Nat, 2 * c * C ≤ A → c ≤ A3 / P := fun c hc => by
    rw [Nat.le_div_iff_mul_le hP]
    have h := Nat.mul_le_mul_right P hc
    rw [← hX] at h
    have e1 : 2 * c * C * P = c * P * (C * 2) := by ac_rfl
    rw [e1] at h
    exact Nat.le_of_mul_le_mul_right h (by omega)
  have hi : ∀ c : Nat, A < 2 * c * C → A3 / P < c := fun c hc => by
    rw [Nat.div_lt_iff_lt_mul hP]
    have h := (Nat.mul_lt_mul_right hP).2 hc
    rw [← hX] at h
    have e1 : 2 * c * C * P = c * P * (C * 2) := by ac_rfl
    rw [e1] at h
    exact Nat.lt_of_mul_lt_mul_right h
  by_cases hlow : A < 36028797018963968 * C
  · obtain ⟨b1, b2, b3⟩ := tail_low A C hC h1 hlow
    refine ⟨b1, b2, ?_⟩
    have q1 := lo 9007199254740992 h1
    have q2 := hi 18014398509481984 hlow
    have hre : re (2 * (A3 / P) + st (A3 % P)) (4 * 1) = re A (C * 4) := by
      rw [re_sticky A3 P 1 hP (by omega)]
      refine re_cross (by omega) (by omega) ?_
      have e1 : A3 * (C * 4) = A3 * (C * 2) * 2 := by rw [Nat.mul_assoc, Nat.mul_assoc]
      have e2 : A * (P * (2 * 1)) = A * P * 2 := by rw [Nat.mul_assoc]
      rw [e1, e2, hX]
    rw [← b3] at hre
    clear lo hi hlow h1 h2 hX b3
    have hs : goS (uOf A C) ≤ 1 := by unfold goS; split <;> omega
    unfold goRung
    generalize goM (uOf A C) = M at *
    generalize goS (uOf A C) = S at *
    generalize A3 / P = q at *
    generalize st (A3 % P) = s at *
    clear hP hC
    clear A3 P A C
    generalize hm : 2 * q + s = mag at *
    have hL : mag.log2 = 54 := log2_is (by rw [show (2 : Nat) ^ 54 = 18014398509481984 by decide +kernel]; omega) (by rw [show (2 : Nat) ^ (54 + 1) = 36028797018963968 by decide +kernel]; omega)
    rw [rungOf_big mag pl 54 hL (by omega) (by omega) (by omega), show (2 : Nat) ^ (54 - 52) = 4 * 1 by decide +kernel, hre]
    have e2 : (1074 - e + (S : Int)).toNat = (pl + ((54 : Nat) : Int) - 52 + 1074).toNat + S := by omega
    rw [e2]
    exact fin_min _ S M (by omega) hs b2
  · obtain ⟨b1, b2, b3, b4⟩ := tail_high A C hC (by omega) h2
    refine ⟨b1, b2, ?_⟩
    have q1 := lo 18014398509481984 (show 36028797018963968 * C ≤ A by omega)
    have q2 := hi 36028797018963968 (show A < 72057594037927936 * C by omega)
    have hre : re (2 * (A3 / P) + st (A3 % P)) (4 * 2) = re A (C * 8) := by
      rw [re_sticky A3 P 2 hP (by omega)]
      refine re_cross (by omega) (by omega) ?_
      have e1 : A3 * (C * 8) = A3 * (C * 2) * 4 := by rw [Nat.mul_assoc, Nat.mul_assoc]
      have e2 : A * (P * (2 * 2)) = A * P * 4 := by rw [Nat.mul_assoc]
      rw [e1, e2, hX]
    rw [← b3] at hre
    clear lo hi hlow h1 h2 hX b3
    unfold goRung
    rw [b4]
    generalize goM (uOf A C) = M at *
    generalize A3 / P = q at *
    generalize st (A3 % P) = s at *
    clear b4
    clear hP hC
    clear A3 P A C
    generalize hm : 2 * q + s = mag at *
    have hL : mag.log2 = 55 := log2_is (by rw [show (2 : Nat) ^ 55 = 36028797018963968 by decide +kernel]; omega) (by rw [show (2 : Nat) ^ (55 + 1) = 72057594037927936 by decide +kernel]; omega)
    rw [rungOf_big mag pl 55 hL (by omega) (by omega) (by omega), show (2 : Nat) ^ (55 - 52) = 4 * 2 by decide +kernel, hre]
    have e2 : (1074 - e + ((1 : Nat) : Int)).toNat = (pl + ((55 : Nat) : Int) - 52 + 1074).toNat + 0 := by omega
    rw [e2]
    exact fin_min _ 0 M (by omega) (by omega) b2
end Go.Proofs.Qxb6606304aDoor.Fl
