/-
  PLAIN LAW (no Go in sight): rounding to the nearest, the half to the even; 'nearest' of the floats' model; the unrounded scaling of internal/strconv.
-/
import Ieee.Arith
import GoSem.PinnedTables
namespace Go.Proofs.Qxb6606304aDoor.Fl
open Ieee

/-! ### rounding a quotient -/
/-- a / c to the nearest whole number, a half to the even one. -/
def re (a c : Nat) : Nat := if c < 2 * (a % c) ∨ (c = 2 * (a % c) ∧ a / c % 2 = 1) then a / c + 1 else a / c
theorem re_mul (a c t : Nat) (ht : 0 < t) : re (a * t) (c * t) = re a c := by
  unfold re
  rw [Nat.mul_mod_mul_right, Nat.mul_div_mul_right _ _ ht]
  have h1 : c * t < 2 * (a % c * t) ↔ c < 2 * (a % c) := by rw [← Nat.mul_assoc]; exact Nat.mul_lt_mul_right ht
  have h2 : c * t = 2 * (a % c * t) ↔ c = 2 * (a % c) := by rw [← Nat.mul_assoc]; exact Nat.mul_left_inj (by omega)
  simp only [h1, h2]
theorem re_cross {a c a' c' : Nat} (hc : 0 < c) (hc' : 0 < c') (h : a * c' = a' * c) : re a c = re a' c' := by
  rw [← re_mul a c c' hc', ← re_mul a' c' c hc, h, Nat.mul_comm c c']
/-- How a cut of the dividend tells the remainder. -/
theorem div_parts (A C g : Nat) : A / (C * g) = A / C / g ∧ A % (C * g) = A / C % g * C + A % C := by
  refine ⟨(Nat.div_div_eq_div_mul A C g).symm, ?_⟩
  rw [Nat.mod_mul]
  rw [Nat.mul_comm, Nat.add_comm]
/-- Times against times, by the first factors. -/
theorem cmp_mul (C s h r : Nat) (hr : r < C) : (h * C < s * C + r ↔ h < s ∨ (h = s ∧ 0 < r)) ∧ (h * C = s * C + r ↔ h = s ∧ r = 0) := by
  rcases Nat.lt_trichotomy h s with e | e | e
  · have : (h + 1) * C ≤ s * C := Nat.mul_le_mul_right C e
    rw [Nat.add_mul] at this
    constructor <;> constructor <;> intro hh <;> omega
  · subst e
    constructor <;> constructor <;> intro hh <;> omega
  · have : (s + 1) * C ≤ h * C := Nat.mul_le_mul_right C e
    rw [Nat.add_mul] at this
    constructor <;> constructor <;> intro hh <;> omega
def st (r : Nat) : Nat := if r = 0 then 0 else 1
theorem st_cases (r : Nat) : (r = 0 ∧ st r = 0) ∨ (0 < r ∧ st r = 1) := by
  unfold st
  by_cases h : r = 0
  · exact .inl ⟨h, if_pos h⟩
  · exact .inr ⟨by omega, if_neg h⟩
/-- A quotient with one digit more, which tells whether anything is left over, rounds as the quotient itself. -/
theorem re_sticky (A C h : Nat) (hC : 0 < C) (hh : 0 < h) : re (2 * (A / C) + st (A % C)) (4 * h) = re A (C * (2 * h)) := by
  obtain ⟨d1, d2⟩ := div_parts A C (2 * h)
  have hr := Nat.mod_lt A hC
  generalize hq : A / C = q at *
  generalize hrr : A % C = r at *
  have hs := Nat.mod_lt q (show 0 < 2 * h by omega)
  have hqs := Nat.div_add_mod q (2 * h)
  generalize hQ : q / (2 * h) = Q at *
  generalize hS : q % (2 * h) = s at *
  have k1 : 4 * h * Q = 2 * (2 * h * Q) := by rw [show 4 * h = 2 * (2 * h) by omega, Nat.mul_assoc]
  have e1 : (2 * q + st r) / (4 * h) = Q := by
    have : 2 * q + st r = (4 * h) * Q + (2 * s + st r) := by omega
    rw [this, Nat.mul_add_div (by omega)]
    have : (2 * s + st r) / (4 * h) = 0 := Nat.div_eq_of_lt (by rcases st_cases r with ⟨_, e⟩ | ⟨_, e⟩ <;> omega)
    omega
  have e2 : (2 * q + st r) % (4 * h) = 2 * s + st r := by
    have : 2 * q + st r = (4 * h) * Q + (2 * s + st r) := by omega
    rw [this, Nat.mul_add_mod]
    exact Nat.mod_eq_of_lt (by rcases st_cases r with ⟨_, e⟩ | ⟨_, e⟩ <;> omega)
  obtain ⟨c1, c2⟩ := cmp_mul C s h r hr
  have e3 : C * (2 * h) = 2 * (h * C) := by rw [Nat.mul_comm C, Nat.mul_assoc]
  unfold re
  rw [e1, e2, d1, d2, e3]
  have f1 : 4 * h < 2 * (2 * s + st r) ↔ 2 * (h * C) < 2 * (s * C + r) := by
    rw [show (2 * (h * C) < 2 * (s * C + r)) ↔ (h * C < s * C + r) by omega, c1]
    rcases st_cases r with ⟨g, e⟩ | ⟨g, e⟩ <;> omega
  have f2 : 4 * h = 2 * (2 * s + st r) ↔ 2 * (h * C) = 2 * (s * C + r) := by
    rw [show (2 * (h * C) = 2 * (s * C + r)) ↔ (h * C = s * C + r) by omega, c2]
    rcases st_cases r with ⟨g, e⟩ | ⟨g, e⟩ <;> omega
  simp only [f1, f2]

/-! ### the unrounded of internal/strconv -/
def uOf (A C : Nat) : Nat := A / C ||| st (A % C)
theorem or_bit (n e : Nat) (he : e ≤ 1) : n ||| e = if e = 1 ∧ n % 2 = 0 then n + 1 else n := by
  rcases (show e = 0 ∨ e = 1 by omega) with rfl | rfl
  · simp
  · by_cases h : n % 2 = 0
    · rw [if_pos ⟨rfl, h⟩]
      obtain ⟨k, rfl⟩ : ∃ k, n = 2 * k := ⟨n / 2, by omega⟩
      have := Nat.two_pow_add_eq_or_of_lt (i := 1) (b := 1) (by omega) k
      simpa using this.symm
    · rw [if_neg (fun hh => h hh.2)]
      obtain ⟨k, rfl⟩ : ∃ k, n = 2 * k + 1 := ⟨n / 2, by omega⟩
      have h1 := Nat.two_pow_add_eq_or_of_lt (i := 1) (b := 1) (by omega) k
      have h1' : 2 * k + 1 = 2 * k ||| 1 := by simpa using h1
      rw [h1', Nat.or_assoc, Nat.or_self]
theorem st_le (r : Nat) : st r ≤ 1 := by rcases st_cases r with ⟨_, e⟩ | ⟨_, e⟩ <;> omega
theorem uOf_eq (A C : Nat) : uOf A C = if 0 < A % C ∧ A / C % 2 = 0 then A / C + 1 else A / C := by
  unfold uOf
  rw [or_bit _ _ (st_le _)]
  rcases st_cases (A % C) with ⟨h, e⟩ | ⟨h, e⟩ <;> rw [e] <;> simp [h] <;> omega
def rnd (u : Nat) : Nat := (u + 1 + u / 4 % 2) / 4
def rsh (u : Nat) : Nat := u / 2 ||| u % 2
theorem rnd_uOf (A C : Nat) (hC : 0 < C) : rnd (uOf A C) = re A (C * 4) := by
  obtain ⟨d1, d2⟩ := div_parts A C 4
  have hr := Nat.mod_lt A hC
  rw [uOf_eq]
  generalize hq : A / C = q at *
  generalize hrr : A % C = r at *
  obtain ⟨c1, c2⟩ := cmp_mul C (q % 4) 2 r hr
  unfold re rnd
  rw [d1, d2]
  have f1 : C * 4 < 2 * (q % 4 * C + r) ↔ 2 < q % 4 ∨ (2 = q % 4 ∧ 0 < r) := by rw [← c1]; omega
  have f2 : C * 4 = 2 * (q % 4 * C + r) ↔ 2 = q % 4 ∧ r = 0 := by rw [← c2]; omega
  simp only [f1, f2]
  split <;> split <;> omega
theorem rsh_uOf (A C : Nat) (hC : 0 < C) : rsh (uOf A C) = uOf A (C * 2) := by
  obtain ⟨d1, d2⟩ := div_parts A C 2
  have hr := Nat.mod_lt A hC
  have h1 : 0 < A % (C * 2) ↔ A / C % 2 = 1 ∨ 0 < A % C := by
    rw [d2]
    rcases Nat.mod_two_eq_zero_or_one (A / C) with e | e <;> rw [e] <;> omega
  unfold rsh
  rw [uOf_eq, uOf_eq, d1, or_bit _ _ (by omega)]
  simp only [h1]
  generalize A / C = q
  generalize A % C = r
  split <;> split <;> split <;> omega
end Go.Proofs.Qxb6606304aDoor.Fl
