/-
  PLAIN LAW (no Go in sight): what internal/strconv's uscale computes is the exact quotient, cut, with its last digit told.
-/
import Derived.Test.Qxb6606304aDoorFloat
namespace Go.Proofs.Qxb6606304aDoor.Fl
open Ieee

/-- uscale, its shift being 8. -/
def usc (x hi lo : Nat) : Nat :=
  if x * hi / 18446744073709551616 / 256 * 256 ≠ x * hi / 18446744073709551616 then x * hi / 18446744073709551616 / 256 ||| 1 else
  (if x * hi % 18446744073709551616 < x * lo / 18446744073709551616 then x * hi / 18446744073709551616 - 1 else x * hi / 18446744073709551616) / 256 ||| (if 1 < (x * hi % 18446744073709551616 + 18446744073709551616 - x * lo / 18446744073709551616) % 18446744073709551616 then 1 else 0)

theorem mod72 (P : Nat) : P % 4722366482869645213696 = 18446744073709551616 * (P / 18446744073709551616 % 256) + P % 18446744073709551616 := by omega
theorem usc_pos (x hi : Nat) (h10 : x % 1024 = 0) : usc x hi 0 = uOf (x * hi) 4722366482869645213696 := by
  have hm : x * hi % 1024 = 0 := by rw [Nat.mul_mod, h10]; simp
  unfold usc
  simp only [Nat.mul_zero, Nat.zero_div, Nat.not_lt_zero, if_false, Nat.sub_zero]
  generalize x * hi = P at *
  have hd : P / 4722366482869645213696 = P / 18446744073709551616 / 256 := by omega
  have hmod := mod72 P
  unfold uOf
  rw [hd]
  by_cases hl : P / 18446744073709551616 / 256 * 256 ≠ P / 18446744073709551616
  · have e : st (P % 4722366482869645213696) = 1 := by
      rcases st_cases (P % 4722366482869645213696) with ⟨a, _⟩ | ⟨_, e⟩
      · omega
      · exact e
    rw [if_pos hl, e]
  · rw [if_neg hl]
    by_cases hz : P % 18446744073709551616 = 0
    · have e : st (P % 4722366482869645213696) = 0 := by
        rcases st_cases (P % 4722366482869645213696) with ⟨_, e⟩ | ⟨a, _⟩
        · exact e
        · omega
      rw [if_neg (by omega), e]
    · have e : st (P % 4722366482869645213696) = 1 := by
        rcases st_cases (P % 4722366482869645213696) with ⟨a, _⟩ | ⟨_, e⟩
        · omega
        · exact e
      rw [if_pos (by omega), e]

theorem uOf_at {N C q : Nat} (h1 : q * C < N) (h2 : N < (q + 1) * C) : uOf N C = q ||| 1 := by
  have hC : 0 < C := by
    rcases Nat.eq_zero_or_pos C with h | h
    · rw [h] at h2; simp at h2
    · exact h
  have hq : N / C = q := Nat.div_eq_of_lt_le (by omega) h2
  have hr : 0 < N % C := by
    have := Nat.div_add_mod N C
    rw [hq, Nat.mul_comm] at this
    omega
  unfold uOf st
  rw [hq, if_neg (by omega)]
theorem uOf_exact {N C q : Nat} (hC : 0 < C) (h : N = q * C) : uOf N C = q := by
  subst h
  unfold uOf st
  rw [Nat.mul_div_cancel _ hC, if_pos (Nat.mul_mod_left _ _), Nat.or_zero]

/-- What stands of N, in units of D. -/
theorem usc_core (h mid mid2 N D G : Nat) (hmid : mid < 18446744073709551616) (hmid2 : mid2 + 2 ≤ 18446744073709551616) (hv : mid2 ≤ 18446744073709551616 * h + mid)
    (hNu : N ≤ (18446744073709551616 * h + mid - mid2) * D) (hNl : (18446744073709551616 * h + mid - mid2) * D < N + 2 * D) (hG1 : G ∣ N) (hG2 : G ∣ 18446744073709551616 * D) (hG3 : 2 * D < G) :
    (if h / 256 * 256 ≠ h then h / 256 ||| 1 else (if mid < mid2 then h - 1 else h) / 256 ||| (if 1 < (mid + 18446744073709551616 - mid2) % 18446744073709551616 then 1 else 0)) = uOf N (4722366482869645213696 * D) := by
  have hD0 : 0 < D := by
    rcases Nat.eq_zero_or_pos D with e | e
    · rw [e, Nat.mul_zero] at hNl hNu; omega
    · exact e
  generalize hV : 18446744073709551616 * h + mid - mid2 = V at *
  have key : ∀ a b : Nat, a ≤ b → a * D ≤ b * D := fun a b hab => Nat.mul_le_mul_right D hab
  have mulD : ∀ a : Nat, a * (4722366482869645213696 * D) = (4722366482869645213696 * a) * D := fun a => by rw [← Nat.mul_assoc, Nat.mul_comm a]
  -- where N stands: between (V - 2) and V
  have up : ∀ a, V < a → N < a * D := fun a ha => by
    have h1 := key (V + 1) a ha
    rw [Nat.add_mul] at h1
    omega
  have low : ∀ a, a + 2 ≤ V → a * D < N := fun a ha => by
    have h1 := key (a + 2) V ha
    rw [Nat.add_mul] at h1
    omega
  -- N is a multiple of G, and so is each whole number of 2^64 D
  have exact' : ∀ a, 18446744073709551616 * a ≤ V → V < 18446744073709551616 * a + 2 → N = (18446744073709551616 * a) * D := fun a h1 h2 => by
    have g1 : G ∣ (18446744073709551616 * a) * D := by
      rw [Nat.mul_right_comm]; exact Nat.dvd_mul_right_of_dvd hG2 a
    obtain ⟨u, hu⟩ := hG1
    obtain ⟨v, hv'⟩ := g1
    have k1 := key _ _ h1
    have k2 := key V (18446744073709551616 * a + 1) (by omega)
    rw [Nat.add_mul] at k2
    rw [hv'] at k1 k2 ⊢
    rw [hu] at hNu hNl ⊢
    rcases Nat.lt_trichotomy u v with e | e | e
    · have := Nat.mul_le_mul_left G e
      rw [Nat.mul_succ] at this
      omega
    · rw [e]
    · have := Nat.mul_le_mul_left G e
      rw [Nat.mul_succ] at this
      omega
  by_cases hlb : h / 256 * 256 ≠ h
  · rw [if_pos hlb]
    symm
    apply uOf_at
    · rw [mulD]
      by_cases hb : 4722366482869645213696 * (h / 256) + 2 ≤ V
      · exact low _ hb
      · omega
    · rw [mulD]
      exact up _ (by omega)
  · rw [if_neg hlb]
    by_cases hlt : mid < mid2
    · rw [if_pos hlt, if_pos (by omega)]
      symm
      apply uOf_at
      · rw [mulD]; exact low _ (by omega)
      · rw [mulD]; exact up _ (by omega)
    · rw [if_neg hlt]
      by_cases hr : 1 < mid - mid2
      · rw [if_pos (by omega)]
        symm
        apply uOf_at
        · rw [mulD]; exact low _ (by omega)
        · rw [mulD]; exact up _ (by omega)
      · rw [if_neg (by omega), Nat.or_zero]
        symm
        refine uOf_exact (Nat.mul_pos (by omega) hD0) ?_
        rw [mulD, exact' h (by omega) (by omega)]
        congr 1
        omega
/-- uscale where the table's entry is the power of ten, rounded up. -/
theorem usc_neg (x hi lo Z N G dl : Nat) (hx : x < 18446744073709551616) (hlo : lo < 18446744073709551616) (hdl : dl < Z) (hle : lo ≤ 18446744073709551616 * hi) (hN : x * ((18446744073709551616 * hi - lo) * Z) = N + x * dl)
    (hG1 : G ∣ N) (hG2 : G ∣ 18446744073709551616 * (18446744073709551616 * Z)) (hG3 : 2 * (18446744073709551616 * Z) < G) :
    usc x hi lo = uOf N (4722366482869645213696 * (18446744073709551616 * Z)) := by
  have hP := Nat.div_add_mod (x * hi) 18446744073709551616
  have hmid := Nat.mod_lt (x * hi) (show 18446744073709551616 > 0 by omega)
  have hL := Nat.div_add_mod (x * lo) 18446744073709551616
  have hlow := Nat.mod_lt (x * lo) (show 18446744073709551616 > 0 by omega)
  have hmid2 : x * lo / 18446744073709551616 + 2 ≤ 18446744073709551616 := by
    have h1 : x * lo ≤ 18446744073709551615 * 18446744073709551615 := Nat.mul_le_mul (by omega) (by omega)
    omega
  have hxl : x * lo ≤ x * (18446744073709551616 * hi) := Nat.mul_le_mul_left x hle
  have hxc : x * (18446744073709551616 * hi) = 18446744073709551616 * (x * hi) := Nat.mul_left_comm _ _ _
  rw [← Nat.mul_assoc, Nat.mul_sub, hxc] at hN
  rw [hxc] at hxl
  have hxZ : x * dl ≤ x * Z := Nat.mul_le_mul_left x (by omega)
  have hxZ2 : x * Z ≤ 18446744073709551615 * Z := Nat.mul_le_mul_right Z (by omega)
  have hlz : x * lo % 18446744073709551616 * Z ≤ 18446744073709551615 * Z := Nat.mul_le_mul_right Z (by omega)
  have hZ : 0 < Z := by omega
  unfold usc
  generalize hhi : x * hi / 18446744073709551616 = h at *
  generalize hm : x * hi % 18446744073709551616 = mid at *
  generalize hm2 : x * lo / 18446744073709551616 = mid2 at *
  generalize hl2 : x * lo % 18446744073709551616 = low at *
  obtain ⟨V, hV⟩ : ∃ V, 18446744073709551616 * h + mid = V + mid2 := ⟨18446744073709551616 * h + mid - mid2, by omega⟩
  have hVs : 18446744073709551616 * h + mid - mid2 = V := by omega
  obtain ⟨S, hS⟩ : ∃ S, 18446744073709551616 * (x * hi) - x * lo = S := ⟨_, rfl⟩
  rw [hS] at hN
  have hSV : S + low = 18446744073709551616 * V := by omega
  have hmul : (S + low) * Z = V * (18446744073709551616 * Z) := by rw [hSV, Nat.mul_assoc, Nat.mul_left_comm]
  rw [Nat.add_mul] at hmul
  refine usc_core h mid mid2 N (18446744073709551616 * Z) G hmid hmid2 (by omega) ?_ ?_ hG1 hG2 hG3
  · rw [hVs, ← hmul]; omega
  · rw [hVs, ← hmul]; omega
end Go.Proofs.Qxb6606304aDoor.Fl
