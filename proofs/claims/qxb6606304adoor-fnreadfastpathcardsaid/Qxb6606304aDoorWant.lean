/-
  PLAIN LAW (no Go in sight): what the law's own product or quotient is, and that parseFloat64 gives the same.
-/
import Derived.Test.Qxb6606304aDoorPow
namespace Go.Proofs.Qxb6606304aDoor.Fl
open Ieee

/-! ### the tables -/
def hiT (p : Int) : Nat := (Go.Pinned.pow10Rows.getD (p + 348).toNat (0, 0)).1
def loT (p : Int) : Nat := (Go.Pinned.pow10Rows.getD (p + 348).toNat (0, 0)).2
def lgp (p : Int) : Int := p * 108853 / 32768
/-- The floats 10^k. -/
def pbs : List Nat := [4607182418800017408, 4621819117588971520, 4636737291354636288, 4652007308841189376, 4666723172467343360, 4681608360884174848, 4696837146684686336, 4711630319722168320, 4726483295884279808, 4741671816366391296, 4756540486875873280, 4771362005757984768, 4786511204640096256, 4801453603149578240, 4816244402031689728, 4831355200913801216, 4846369599423283200, 4861130398305394688, 4876203697187506176, 4891288408196988160, 4906019910204099648, 4921056587992461136, 4936209963552724370]
def pb (k : Nat) : Nat := pbs.getD k 0
/-- 10^k = pm k * 2 ^ (pn k - 53). -/
def pn (k : Nat) : Nat := if k = 0 then 1 else (-lgp (-(k : Int))).toNat
def pmant (k : Nat) : Nat := 4503599627370496 + pb k % 4503599627370496

theorem pb_step : ∀ k, k < 22 → double.mul (pb k) 4621819117588971520 = some (pb (k + 1)) := by decide +kernel
theorem pb_read : ∀ k, k < 23 → double.read (pb k) = .number false (pmant k) ((pn k : Int) - 53) := by decide +kernel
theorem pb_val : ∀ k, k < 23 → pmant k * 2 ^ pn k = 10 ^ k * 9007199254740992 ∧ pmant k < 9007199254740992 ∧ pn k ≤ 74 := by decide +kernel
theorem tab_pos : ∀ k, k < 23 → loT (k : Nat) = 0 ∧ 0 ≤ lgp (k : Nat) ∧ lgp (k : Nat) ≤ 73 ∧ hiT (k : Nat) * 2 ^ (lgp (k : Nat)).toNat = 10 ^ k * 9223372036854775808 ∧ 9223372036854775808 ≤ hiT (k : Nat) ∧ hiT (k : Nat) ≤ 18158513697557839872 := by decide +kernel
theorem tab_neg : ∀ k, k < 23 → 1 ≤ k → lgp (-(k : Nat)) = -(pn k : Int) ∧ loT (-(k : Nat)) < 18446744073709551616 ∧ loT (-(k : Nat)) ≤ 18446744073709551616 * hiT (-(k : Nat)) ∧
    170141183460469231731687303715884105728 * 2 ^ pn k ≤ (18446744073709551616 * hiT (-(k : Nat)) - loT (-(k : Nat))) * 10 ^ k ∧ (18446744073709551616 * hiT (-(k : Nat)) - loT (-(k : Nat))) * 10 ^ k < 170141183460469231731687303715884105728 * 2 ^ pn k + 10 ^ k ∧
    10 ^ k ≤ 2 ^ pn k ∧ 32 * 2 ^ pn k ≤ 63 * 10 ^ k ∧ k ≤ pn k ∧ 2 * 10 ^ k < 18446744073709551616 * 2 ^ k ∧ hiT (-(k : Nat)) < 18446744073709551616 := by decide +kernel

/-! ### reading words -/
theorem read_word (s : Bool) (r : Nat) (h1 : 4503599627370496 ≤ r) (h2 : r < 9218868437227405312) : double.read (double.word s r) = .number s (4503599627370496 + r % 4503599627370496) (-1074 + ((r / 4503599627370496 - 1 : Nat) : Int)) := by
  have e1 : double.word s r % 9223372036854775808 = r := by
    unfold Format.word
    rw [signWeight]
    cases s <;> simp <;> omega
  have e2 : (double.word s r / 9223372036854775808 % 2 == 1) = s := by
    unfold Format.word
    rw [signWeight]
    cases s
    · have : r / 9223372036854775808 % 2 = 0 := by omega
      simp [this]
    · have : (9223372036854775808 + r) / 9223372036854775808 % 2 = 1 := by omega
      show ((9223372036854775808 + r) / 9223372036854775808 % 2 == 1) = true
      rw [this]; rfl
  unfold Format.read
  simp only [signWeight, binade, infRung, leastPlace]
  rw [e1, e2, if_neg (by omega), if_pos h2]
theorem read_zero (s : Bool) : double.read (double.word s 0) = .number s 0 (-1074) := by cases s <;> decide +kernel
/-- A word that is no NaN stands equal to itself. -/
theorem order_self (s : Bool) (r : Nat) (h : r ≤ 9218868437227405312) : double.order (double.word s r) (double.word s r) = some .eq := by
  have e1 : double.word s r % 9223372036854775808 = r := by
    unfold Format.word
    rw [signWeight]
    cases s <;> simp <;> omega
  unfold Format.order Format.read
  simp only [signWeight, binade, infRung, leastPlace]
  rw [e1]
  split
  · unfold Datum.order; simp
  · split
    · unfold Datum.order; simp
    · split
      · unfold Datum.order; simp
      · omega
theorem log2_mul_pow (a i : Nat) (h : a ≠ 0) : (a * 2 ^ i).log2 = a.log2 + i := by
  refine log2_is ?_ ?_
  · rw [Nat.pow_add]; exact Nat.mul_le_mul_right _ (Nat.log2_self_le h)
  · rw [show a.log2 + i + 1 = a.log2 + 1 + i by omega, Nat.pow_add]
    exact (Nat.mul_lt_mul_right (Nat.two_pow_pos i)).2 Nat.lt_log2_self
/-- One number, two spellings. -/
theorem rungOf_eq {a a' i j : Nat} {pl pl' : Int} (h : a * 2 ^ i = a' * 2 ^ j) (hpl : pl - i = pl' - j) (h52 : 52 ≤ a.log2) (h52' : 52 ≤ a'.log2) (hr : -1074 ≤ pl + a.log2 - 52) : rungOf a pl = rungOf a' pl' := by
  have ha : a ≠ 0 := fun e => by rw [e] at h52; simp at h52
  have ha' : a' ≠ 0 := fun e => by rw [e] at h52'; simp at h52'
  have hl := log2_mul_pow a i ha
  rw [h, log2_mul_pow a' j ha'] at hl
  rw [rungOf_big a pl _ rfl ha h52 hr, rungOf_big a' pl' _ rfl ha' h52' (by omega)]
  have e1 : pl + (a.log2 : Int) - 52 + 1074 = pl' + (a'.log2 : Int) - 52 + 1074 := by omega
  rw [e1]
  congr 2
  refine re_cross (Nat.two_pow_pos _) (Nat.two_pow_pos _) ?_
  have h2 : a * 2 ^ (a'.log2 - 52) * 2 ^ (i + j) = a' * 2 ^ (a.log2 - 52) * 2 ^ (i + j) := by
    have g1 : a * 2 ^ (a'.log2 - 52) * 2 ^ (i + j) = a * 2 ^ i * 2 ^ (a'.log2 - 52 + j) := by
      rw [Nat.mul_assoc, ← Nat.pow_add, Nat.mul_assoc, ← Nat.pow_add]; congr 2; omega
    have g2 : a' * 2 ^ (a.log2 - 52) * 2 ^ (i + j) = a' * 2 ^ j * 2 ^ (a'.log2 - 52 + j) := by
      rw [Nat.mul_assoc, ← Nat.pow_add, Nat.mul_assoc, ← Nat.pow_add]; congr 2; omega
    rw [g1, g2, h]
  exact Nat.eq_of_mul_eq_mul_right (Nat.two_pow_pos _) h2

/-- What the float of a whole number up to 2^53 reads as. -/
theorem a_read (d b : Nat) (hb : 1 ≤ b) (h1 : 2 ^ (b - 1) ≤ d) (h2 : d < 2 ^ b) (hd : d ≤ 9007199254740992) :
    ∃ m, (∀ s, double.read (double.word s (rungOf d 0)) = .number s m ((b : Int) - 53)) ∧ m * 2 ^ b = d * 9007199254740992 ∧ 4503599627370496 ≤ m ∧ m < 9007199254740992 := by
  have e53 : (2 : Nat) ^ 53 = 9007199254740992 := by decide +kernel
  have hL : d.log2 = b - 1 := log2_is h1 (by rw [show b - 1 + 1 = b by omega]; exact h2)
  have h0 : d ≠ 0 := by have := Nat.two_pow_pos (b - 1); omega
  by_cases hb3 : b ≤ 53
  · have hr := rungOf_small d (b - 1) hL h0 (by omega)
    rw [show 52 - (b - 1) = 53 - b by omega] at hr
    have k1 : d * 2 ^ (53 - b) * 2 ^ b = d * 9007199254740992 := by
      rw [Nat.mul_assoc, ← Nat.pow_add, show 53 - b + b = 53 by omega, e53]
    have k2 : 4503599627370496 ≤ d * 2 ^ (53 - b) := by
      have h := Nat.mul_le_mul_right (2 ^ (53 - b)) h1
      rw [← Nat.pow_add, show b - 1 + (53 - b) = 52 by omega, show (2 : Nat) ^ 52 = 4503599627370496 by decide +kernel] at h
      exact h
    have k3 : d * 2 ^ (53 - b) < 9007199254740992 := by
      have h := (Nat.mul_lt_mul_right (Nat.two_pow_pos (53 - b))).2 h2
      rw [← Nat.pow_add, show b + (53 - b) = 53 by omega, e53] at h
      exact h
    generalize d * 2 ^ (53 - b) = K at *
    refine ⟨K, fun s => ?_, k1, k2, k3⟩
    clear k1 h1 h2 hL
    rw [hr]
    have g1 : 4503599627370496 ≤ (b - 1 + 1022) * 4503599627370496 + K := by omega
    have g2 : (b - 1 + 1022) * 4503599627370496 + K < 9218868437227405312 := by omega
    rw [read_word s _ g1 g2]
    have q1 : ((b - 1 + 1022) * 4503599627370496 + K) % 4503599627370496 = K - 4503599627370496 := by omega
    have q2 : ((b - 1 + 1022) * 4503599627370496 + K) / 4503599627370496 = b + 1022 := by omega
    rw [q1, q2]
    have q3 : 4503599627370496 + (K - 4503599627370496) = K := by omega
    have q4 : (-1074 + ((b + 1022 - 1 : Nat) : Int)) = (b : Int) - 53 := by omega
    rw [q3, q4]
  · have hb4 : b = 54 := by
      rcases Nat.lt_or_ge b 55 with h | h
      · omega
      · have := Nat.pow_le_pow_right (show 0 < 2 by omega) (show 54 ≤ b - 1 by omega)
        rw [show (2 : Nat) ^ 54 = 18014398509481984 by decide +kernel] at this
        omega
    subst hb4
    have hd' : d = 9007199254740992 := by
      rw [show (2 : Nat) ^ (54 - 1) = 9007199254740992 by decide +kernel] at h1
      omega
    subst hd'
    exact ⟨4503599627370496, fun s => by cases s <;> decide +kernel, by decide +kernel, by omega, by omega⟩

theorem log2_ge {a : Nat} (h : 4503599627370496 ≤ a) : 52 ≤ a.log2 := by
  rw [Nat.le_log2 (by omega), show (2 : Nat) ^ 52 = 4503599627370496 by decide +kernel]
  exact h
theorem log2_52 {a : Nat} (h : 4503599627370496 ≤ a) (h2 : a < 9007199254740992) : a.log2 = 52 :=
  log2_is (by rw [show (2 : Nat) ^ 52 = 4503599627370496 by decide +kernel]; exact h) (by rw [show (2 : Nat) ^ (52 + 1) = 9007199254740992 by decide +kernel]; exact h2)
theorem pmant_ge (k : Nat) : 4503599627370496 ≤ pmant k := by unfold pmant; omega

/-- The product. -/
theorem mul_want (d b k : Nat) (hk : k < 23) (hb : 1 ≤ b) (h1 : 2 ^ (b - 1) ≤ d) (h2 : d < 2 ^ b) (hd : d ≤ 9007199254740992) :
    ∃ r, r ≤ 9218868437227405312 ∧ (∀ s, double.mul (double.word s (rungOf d 0)) (pb k) = some (double.word s r)) ∧
      (b ≤ 54 → 53 ≤ (b : Int) + lgp (k : Nat) → 4503599627370496 ≤ goM (usc (d * 2 ^ (64 - b)) (hiT (k : Nat)) (loT (k : Nat))) ∧ goM (usc (d * 2 ^ (64 - b)) (hiT (k : Nat)) (loT (k : Nat))) < 9007199254740992 ∧
        goRung (usc (d * 2 ^ (64 - b)) (hiT (k : Nat)) (loT (k : Nat))) (53 - (b : Int) - lgp (k : Nat)) = r) := by
  obtain ⟨m, hm, hv, m1, m2⟩ := a_read d b hb h1 h2 hd
  obtain ⟨pv, p2, p3⟩ := pb_val k hk
  have p1 := pmant_ge k
  refine ⟨rungOf (m * pmant k) ((b : Int) - 53 + ((pn k : Int) - 53)), rungOf_le _ _, fun s => ?_, fun hb4 hf => ?_⟩
  · unfold Format.mul
    rw [hm s, pb_read k hk]
    simp only [Datum.product, Option.map_some, Format.write, Bool.xor_false, nearest_word]
  · obtain ⟨t1, t2, t3, t4, t5, t6⟩ := tab_pos k hk
    obtain ⟨l, hl⟩ : ∃ l : Nat, lgp (k : Nat) = l := ⟨(lgp (k : Nat)).toNat, by omega⟩
    rw [hl] at t4 hf t3 ⊢
    rw [t1]
    simp only [Int.toNat_natCast] at t4
    generalize hiT (k : Nat) = hi at *
    obtain ⟨f, hf'⟩ : ∃ f : Nat, (b : Int) + l = 53 + f := ⟨((b : Int) + l - 53).toNat, by omega⟩
    have hbf : b + l = 53 + f := by omega
    have hx10 : d * 2 ^ (64 - b) % 1024 = 0 := by
      rw [show 64 - b = (54 - b) + 10 by omega, Nat.pow_add, ← Nat.mul_assoc, show (2 : Nat) ^ 10 = 1024 by decide +kernel]
      exact Nat.mul_mod_left _ _
    have hxb : d * 2 ^ (64 - b) * 2 ^ b = d * 18446744073709551616 := by
      rw [Nat.mul_assoc, ← Nat.pow_add, show 64 - b + b = 64 by omega, show (2 : Nat) ^ 64 = 18446744073709551616 by decide +kernel]
    have hxl : 9223372036854775808 ≤ d * 2 ^ (64 - b) := by
      have h := Nat.mul_le_mul_right (2 ^ (64 - b)) h1
      rw [← Nat.pow_add, show b - 1 + (64 - b) = 63 by omega, show (2 : Nat) ^ 63 = 9223372036854775808 by decide +kernel] at h
      exact h
    have hxu : d * 2 ^ (64 - b) < 18446744073709551616 := by
      have h := (Nat.mul_lt_mul_right (Nat.two_pow_pos (64 - b))).2 h2
      rw [← Nat.pow_add, show b + (64 - b) = 64 by omega, show (2 : Nat) ^ 64 = 18446744073709551616 by decide +kernel] at h
      exact h
    rw [usc_pos _ hi hx10]
    generalize d * 2 ^ (64 - b) = x at *
    -- A * 2^f = mag * 2^74
    have hA : x * hi * 2 ^ f = d * 10 ^ k * (4722366482869645213696 * 4) := by
      have g : x * hi * 2 ^ f * 9007199254740992 = d * 10 ^ k * (4722366482869645213696 * 4) * 9007199254740992 := by
        have e1 : 2 ^ f * 9007199254740992 = 2 ^ b * 2 ^ l := by
          rw [← Nat.pow_add, hbf, Nat.add_comm 53 f, Nat.pow_add, show (2 : Nat) ^ 53 = 9007199254740992 by decide +kernel]
        have e2 : x * hi * 2 ^ f * 9007199254740992 = (x * 2 ^ b) * (hi * 2 ^ l) := by
          rw [Nat.mul_assoc, e1]; ac_rfl
        rw [e2, hxb, t4]
        generalize 10 ^ k = Z
        have e3 : d * 18446744073709551616 * (Z * 9223372036854775808) = (d * Z) * (18446744073709551616 * 9223372036854775808) := by ac_rfl
        rw [e3, Nat.mul_assoc (d * Z)]
      exact Nat.eq_of_mul_eq_mul_right (show 0 < 9007199254740992 by omega) g
    have hAl : 18014398509481984 * 4722366482869645213696 ≤ x * hi := Nat.le_trans (by decide +kernel) (Nat.mul_le_mul hxl t5)
    have hAu : x * hi < 70931694131085312 * 4722366482869645213696 := Nat.lt_of_le_of_lt (Nat.mul_le_mul (show x ≤ 18446744073709551615 by omega) t6) (by decide +kernel)
    obtain ⟨r1, r2, r3⟩ := go_pos (d * 10 ^ k) (x * hi) 4722366482869645213696 f (by omega) (by omega) hA hAl hAu
    refine ⟨r1, r2, ?_⟩
    have ee : (53 : Int) - b - l = -(f : Int) := by omega
    rw [ee, r3]
    have hmag : d * 10 ^ k * 2 ^ 106 = m * pmant k * 2 ^ (b + pn k) := by
      rw [Nat.pow_add]
      have e1 : m * pmant k * (2 ^ b * 2 ^ pn k) = (m * 2 ^ b) * (pmant k * 2 ^ pn k) := by ac_rfl
      rw [e1, hv, pv, show (2 : Nat) ^ 106 = 9007199254740992 * 9007199254740992 by decide +kernel]
      ac_rfl
    have hml : 4503599627370496 ≤ d * 10 ^ k := by
      have hge := Nat.le_trans hAl (Nat.le_mul_of_pos_right (x * hi) (Nat.two_pow_pos f))
      rw [hA] at hge
      omega
    refine rungOf_eq hmag (by omega) (log2_ge hml) (log2_ge ?_) (by omega)
    exact Nat.le_trans m1 (Nat.le_mul_of_pos_right m (by omega))

theorem cross_neg {m d x P Z tb tn c53 c54 c64 c72 c127 : Nat} (htb : 0 < tb) (h1 : m * tb = d * c53) (h2 : x * tb = d * c64) (h3 : P * tn = Z * c53) (hc : c54 * c72 * 2 = c127) :
    m * c54 * (c72 * (c64 * Z) * 2) = x * (c127 * tn) * P := by
  refine Nat.eq_of_mul_eq_mul_right htb ?_
  have e1 : m * c54 * (c72 * (c64 * Z) * 2) * tb = (m * tb) * (c54 * c72 * 2) * (c64 * Z) := by ac_rfl
  have e2 : x * (c127 * tn) * P * tb = (x * tb) * c127 * (P * tn) := by ac_rfl
  rw [e1, e2, h1, h2, h3, hc]
  ac_rfl
theorem st_bne (r : Nat) : (r != 0).toNat = st r := by
  unfold st
  by_cases h : r = 0
  · rw [if_pos h, h]; rfl
  · rw [if_neg h, show (r != 0) = true from bne_iff_ne.2 h]; rfl
/-- The quotient. -/
theorem div_want (d b k : Nat) (hk : k < 23) (hk1 : 1 ≤ k) (hb : 1 ≤ b) (h1 : 2 ^ (b - 1) ≤ d) (h2 : d < 2 ^ b) (hd : d ≤ 9007199254740992) :
    ∃ r, r ≤ 9218868437227405312 ∧ (∀ s, double.div (double.word s (rungOf d 0)) (pb k) = some (double.word s r)) ∧
      (b ≤ 54 → 4503599627370496 ≤ goM (usc (d * 2 ^ (64 - b)) (hiT (-(k : Nat))) (loT (-(k : Nat)))) ∧ goM (usc (d * 2 ^ (64 - b)) (hiT (-(k : Nat))) (loT (-(k : Nat)))) < 9007199254740992 ∧
        goRung (usc (d * 2 ^ (64 - b)) (hiT (-(k : Nat))) (loT (-(k : Nat)))) (53 - (b : Int) - lgp (-(k : Nat))) = r) := by
  obtain ⟨m, hm, hv, m1, m2⟩ := a_read d b hb h1 h2 hd
  obtain ⟨pv, p2, p3⟩ := pb_val k hk
  have p1 := pmant_ge k
  refine ⟨rungOf (2 * (m * 18014398509481984 / pmant k) + st (m * 18014398509481984 % pmant k)) ((b : Int) - 53 - ((pn k : Int) - 53) - 54 - 1), rungOf_le _ _, fun s => ?_, fun hb4 => ?_⟩
  · unfold Format.div
    rw [hm s, pb_read k hk]
    have hp0 : pmant k ≠ 0 := by omega
    have hmore : double.fractionBits + 2 + (pmant k).log2 - m.log2 = 54 := by
      rw [log2_52 p1 p2, log2_52 m1 m2]; decide +kernel
    simp only [Datum.quotient, if_neg hp0, Option.map_some, Format.write, Bool.xor_false, nearest_word]
    rw [hmore, Nat.shiftLeft_eq, show (2 : Nat) ^ 54 = 18014398509481984 by decide +kernel, st_bne]
    rfl
  · obtain ⟨t1, t2, t3, t4, t5, t6, t7, t8, t9, t10⟩ := tab_neg k hk hk1
    rw [t1]
    generalize hiT (-(k : Nat)) = hi at *
    generalize loT (-(k : Nat)) = lo at *
    have hxb : d * 2 ^ (64 - b) * 2 ^ b = d * 18446744073709551616 := by
      rw [Nat.mul_assoc, ← Nat.pow_add, show 64 - b + b = 64 by omega, show (2 : Nat) ^ 64 = 18446744073709551616 by decide +kernel]
    have hxl : 9223372036854775808 ≤ d * 2 ^ (64 - b) := by
      have h := Nat.mul_le_mul_right (2 ^ (64 - b)) h1
      rw [← Nat.pow_add, show b - 1 + (64 - b) = 63 by omega, show (2 : Nat) ^ 63 = 9223372036854775808 by decide +kernel] at h
      exact h
    have hxu : d * 2 ^ (64 - b) < 18446744073709551616 := by
      have h := (Nat.mul_lt_mul_right (Nat.two_pow_pos (64 - b))).2 h2
      rw [← Nat.pow_add, show b + (64 - b) = 64 by omega, show (2 : Nat) ^ 64 = 18446744073709551616 by decide +kernel] at h
      exact h
    have hx10 : ∃ y, d * 2 ^ (64 - b) = 1024 * y := ⟨d * 2 ^ (54 - b), by
      rw [show 64 - b = (54 - b) + 10 by omega, Nat.pow_add, show (2 : Nat) ^ 10 = 1024 by decide +kernel]; ac_rfl⟩
    have hZ : 10 ^ k = 2 ^ k * 5 ^ k := by rw [← Nat.mul_pow]
    have hn : 2 ^ pn k = 2 ^ k * 2 ^ (pn k - k) := by rw [← Nat.pow_add, show k + (pn k - k) = pn k by omega]
    have hX := cross_neg (Nat.two_pow_pos b) hv hxb pv (show 18014398509481984 * 4722366482869645213696 * 2 = 170141183460469231731687303715884105728 by decide +kernel)
    generalize d * 2 ^ (64 - b) = x at *
    obtain ⟨dl, hdl⟩ : ∃ dl, (18446744073709551616 * hi - lo) * 10 ^ k = 170141183460469231731687303715884105728 * 2 ^ pn k + dl := ⟨_, (Nat.add_sub_cancel' t4).symm⟩
    have hdlt : dl < 10 ^ k := by omega
    have hu := usc_neg x hi lo (10 ^ k) (x * (170141183460469231731687303715884105728 * 2 ^ pn k)) (18446744073709551616 * 18446744073709551616 * 2 ^ k) dl hxu t2 hdlt t3 (by rw [hdl, Nat.mul_add]) ?g1 ?g2 ?g3
    case g1 =>
      obtain ⟨y, rfl⟩ := hx10
      refine ⟨512 * 2 ^ (pn k - k) * y, ?_⟩
      rw [hn]
      have e1 : 1024 * y * (170141183460469231731687303715884105728 * (2 ^ k * 2 ^ (pn k - k))) = (1024 * 170141183460469231731687303715884105728) * (2 ^ k * 2 ^ (pn k - k) * y) := by ac_rfl
      have e2 : 18446744073709551616 * 18446744073709551616 * 2 ^ k * (512 * 2 ^ (pn k - k) * y) = (18446744073709551616 * 18446744073709551616 * 512) * (2 ^ k * 2 ^ (pn k - k) * y) := by ac_rfl
      rw [e1, e2]
    case g2 =>
      refine ⟨5 ^ k, ?_⟩
      rw [hZ]; ac_rfl
    case g3 =>
      have e1 : 18446744073709551616 * 18446744073709551616 * 2 ^ k = 18446744073709551616 * (18446744073709551616 * 2 ^ k) := by ac_rfl
      rw [e1]
      omega
    rw [hu]
    have hC0 : 0 < 4722366482869645213696 * (18446744073709551616 * 10 ^ k) := by have := Nat.pow_pos (n := k) (show 0 < 10 by omega); omega
    have hl : 18014398509481984 * (4722366482869645213696 * (18446744073709551616 * 10 ^ k)) ≤ x * (170141183460469231731687303715884105728 * 2 ^ pn k) := by
      have g := Nat.mul_le_mul hxl (Nat.mul_le_mul_left 170141183460469231731687303715884105728 t6)
      refine Nat.le_trans (Nat.le_of_eq ?_) g
      generalize 10 ^ k = Z
      omega
    have hh : x * (170141183460469231731687303715884105728 * 2 ^ pn k) < 70931694131085312 * (4722366482869645213696 * (18446744073709551616 * 10 ^ k)) := by
      have hp := Nat.two_pow_pos (pn k)
      have g : x * (170141183460469231731687303715884105728 * 2 ^ pn k) ≤ 18446744073709551615 * (170141183460469231731687303715884105728 * 2 ^ pn k) := Nat.mul_le_mul_right _ (by omega)
      generalize x * (170141183460469231731687303715884105728 * 2 ^ pn k) = N at *
      generalize 2 ^ pn k = tn at *
      generalize 10 ^ k = Z at *
      omega
    exact go_neg (m * 18014398509481984) (pmant k) _ _ _ _ (by omega) hC0 hX hl hh (by omega) (by omega) (by omega)
theorem mul_zero (k : Nat) (hk : k < 23) (s : Bool) : double.mul (double.word s 0) (pb k) = some (double.word s 0) := by
  unfold Format.mul
  rw [read_zero, pb_read k hk]
  simp only [Datum.product, Option.map_some, Format.write, Bool.xor_false, nearest_word, Nat.zero_mul]
  rfl
theorem div_zero (k : Nat) (hk : k < 23) (s : Bool) : double.div (double.word s 0) (pb k) = some (double.word s 0) := by
  unfold Format.div
  rw [read_zero, pb_read k hk]
  have p1 := pmant_ge k
  have hp0 : pmant k ≠ 0 := by omega
  simp only [Datum.quotient, if_neg hp0, Option.map_some, Format.write, Bool.xor_false, nearest_word, Nat.zero_shiftLeft, Nat.zero_div, Nat.zero_mod]
  rfl
end Go.Proofs.Qxb6606304aDoor.Fl
