/-
  PLAIN: the value and the significant digits of a row of digits, one by one.
-/
import Derived.Test.Qxb6606304aDoorRead
namespace Go.Proofs.Qxb6606304aDoor
open Go.PlainAid

def Mfn (D : Nat → Int) : Nat → Nat
  | 0 => 0
  | j + 1 => Mfn D j * 10 + (D j - 48).toNat
def Sfn (D : Nat → Int) : Nat → Nat
  | 0 => 0
  | j + 1 => if Sfn D j = 0 ∧ D j = 48 then 0 else Sfn D j + 1
theorem Mfn_step (D : Nat → Int) (j : Nat) (h : 48 ≤ D j) : ((Mfn D (j + 1) : Nat) : Int) = (Mfn D j : Int) * 10 + (D j - 48) := by
  rw [Mfn]; omega
theorem Sfn_step (D : Nat → Int) (j : Nat) : Sfn D (j + 1) = if Sfn D j = 0 ∧ D j = 48 then 0 else Sfn D j + 1 := by rw [Sfn]
theorem Sfn_zero (D : Nat → Int) : ∀ j, Sfn D j = 0 → Mfn D j = 0 := by
  intro j
  induction j with
  | zero => intro _; rfl
  | succ j ih =>
    intro h
    rw [Sfn_step] at h
    by_cases hc : Sfn D j = 0 ∧ D j = 48
    · rw [Mfn, ih hc.1, hc.2]; rfl
    · rw [if_neg hc] at h; omega
theorem Mfn_lt (D : Nat → Int) (tot : Nat) (hd : ∀ j, j < tot → 48 ≤ D j ∧ D j ≤ 57) : ∀ j, j ≤ tot → Mfn D j < 10 ^ Sfn D j := by
  intro j
  induction j with
  | zero => intro _; simp [Mfn, Sfn]
  | succ j ih =>
    intro hj
    have h1 := ih (by omega)
    obtain ⟨h2, h3⟩ := hd j (by omega)
    rw [Sfn_step, Mfn]
    by_cases hc : Sfn D j = 0 ∧ D j = 48
    · rw [if_pos hc, Sfn_zero D j hc.1, hc.2]; decide
    · rw [if_neg hc, Nat.pow_succ]; omega
theorem Mfn_mono (D : Nat → Int) (j : Nat) : ∀ k, Mfn D j ≤ Mfn D (j + k) := by
  intro k
  induction k with
  | zero => exact Nat.le_refl _
  | succ k ih => rw [← Nat.add_assoc, Mfn]; omega
theorem Sfn_mono1 (D : Nat → Int) (j : Nat) : Sfn D j ≤ Sfn D (j + 1) := by
  rw [Sfn_step]; split <;> omega
theorem Sfn_mono (D : Nat → Int) (j : Nat) : ∀ k, Sfn D j ≤ Sfn D (j + k) := by
  intro k
  induction k with
  | zero => exact Nat.le_refl _
  | succ k ih => rw [← Nat.add_assoc]; exact Nat.le_trans ih (Sfn_mono1 D _)
theorem Mfn_pow {D : Nat → Int} {tot j b : Nat} (hd : ∀ j, j < tot → 48 ≤ D j ∧ D j ≤ 57) (hj : j ≤ tot) (hs : Sfn D j ≤ b) : Mfn D j < 10 ^ b :=
  Nat.lt_of_lt_of_le (Mfn_lt D tot hd j hj) (Nat.pow_le_pow_right (by omega) hs)
/-- The digits, as the reader wants them. -/
theorem digs_of {D : Nat → Int} {tot : Nat} (hd : ∀ j, j < tot → 48 ≤ D j ∧ D j ≤ 57) (hs : Sfn D tot ≤ 16) (hm : Mfn D tot ≤ 9007199254740992) : Digs D (Mfn D) (Sfn D) tot := by
  have hsm : ∀ j, j ≤ tot → Sfn D j ≤ 16 := fun j hj => by
    have := Sfn_mono D j (tot - j)
    rw [show j + (tot - j) = tot by omega] at this
    omega
  have hmm : ∀ j, j ≤ tot → Mfn D j ≤ 9007199254740992 := fun j hj => by
    have := Mfn_mono D j (tot - j)
    rw [show j + (tot - j) = tot by omega] at this
    omega
  exact ⟨rfl, rfl, fun j _ h => Sfn_zero D j h, hd, fun j hj => Mfn_step D j (hd j hj).1, fun j _ => Sfn_step D j, hmm, hsm⟩
/-- Five significant digits: the exponent is read whole. -/
theorem five {D : Nat → Int} {ne : Nat} (hd : ∀ j, j < ne → 48 ≤ D j ∧ D j ≤ 57) (hs : Sfn D ne ≤ 5) : (∀ k, k < ne → Mfn D k < 10000) ∧ Mfn D ne ≤ 99999 := by
  constructor
  · intro k hk
    rcases Nat.lt_or_ge (Mfn D k) 10000 with h | h
    · exact h
    · exfalso
      have h1 := Mfn_lt D ne hd k (by omega)
      have h2 : 5 ≤ Sfn D k := by
        rcases Nat.lt_or_ge (Sfn D k) 5 with h3 | h3
        · have := Nat.pow_le_pow_right (show 0 < 10 by omega) (show Sfn D k ≤ 4 by omega)
          omega
        · exact h3
      have h4 := Sfn_step D k
      rw [if_neg (by omega)] at h4
      have h5 := Sfn_mono D (k + 1) (ne - (k + 1))
      rw [show k + 1 + (ne - (k + 1)) = ne by omega] at h5
      omega
  · have := Mfn_pow hd (Nat.le_refl _) hs
    omega
end Go.Proofs.Qxb6606304aDoor
