/-
  WALKS: countDigits; the parts of a number in a string (PF).
-/
import Derived.Test.Qxb6606304aDoorRead
import Derived.Deep.RegionWith
namespace Go.Proofs.Qxb6606304aDoor
open Go.RowKit Go.PlainAid
set_option linter.unusedSimpArgs false

def isDig (c : Int) : Prop := 48 ≤ c ∧ c ≤ 57
/-- From place a of T on there stand just k digits. -/
structure Run (T : ByteArray) (a k : Nat) : Prop where
  le : a + k ≤ T.size
  d : ∀ j, j < k → 48 ≤ bt T (a + j) ∧ bt T (a + j) ≤ 57
  stop : a + k < T.size → ¬ (48 ≤ bt T (a + k) ∧ bt T (a + k) ≤ 57)
theorem Run.uniq {T : ByteArray} {a k k' : Nat} (h : Run T a k) (h' : Run T a k') : k = k' := by
  rcases Nat.lt_trichotomy k k' with e | e | e
  · have := h'.d k e
    have h1 := h'.le
    exact absurd this (h.stop (by omega))
  · exact e
  · have := h.d k' e
    have h1 := h.le
    exact absurd this (h'.stop (by omega))
theorem Run.any (T : ByteArray) (a : Nat) (ha : a ≤ T.size) : ∃ k, Run T a k := by
  have : ∀ m, a + m ≤ T.size → (∀ j, j < m → 48 ≤ bt T (a + j) ∧ bt T (a + j) ≤ 57) ∨ ∃ k, Run T a k := by
    intro m
    induction m with
    | zero => intro _; left; intro j hj; omega
    | succ m ih =>
      intro hm
      rcases ih (by omega) with h | h
      · by_cases hd : 48 ≤ bt T (a + m) ∧ bt T (a + m) ≤ 57
        · left
          intro j hj
          by_cases e : j = m
          · subst e; exact hd
          · exact h j (by omega)
        · right
          exact ⟨m, by omega, h, fun _ => hd⟩
      · exact .inr h
  rcases this (T.size - a) (by omega) with h | h
  · exact ⟨T.size - a, by omega, h, fun h2 => by omega⟩
  · exact h

set_option maxRecDepth 100000 in
set_option maxHeartbeats 1000000 in
theorem count_any (T : ByteArray) (a k : Nat) (w : World) (hT : T.size ≤ 1048576) (h : Run T a k) :
    Calls Tryd.prog 16 #[.string (T.extract a T.size)] w fun e w' => e = .returned (.int .i64 k) ∧ w' = w := by
  obtain ⟨u, hu⟩ : ∃ u, T.extract a T.size = u := ⟨_, rfl⟩
  have hle := h.le
  have hsz : u.size = T.size - a := by rw [← hu]; exact size_ext T a T.size (Nat.le_refl _)
  have hbt : ∀ j, j < T.size - a → bt u j = bt T (a + j) := fun j hj => by rw [← hu]; exact bt_ext T a T.size j hj
  rw [hu]
  have hd : Hid (∀ j, j < k → 48 ≤ bt u j ∧ bt u j ≤ 57) := hide fun j hj => by rw [hbt j (by omega)]; exact h.d j hj
  have hst : Hid (k < u.size → ¬ (48 ≤ bt u k ∧ bt u k ≤ 57)) := hide fun hk => by rw [hbt k (by omega)]; exact h.stop (by omega)
  have hku : k ≤ u.size := by omega
  have hum : u.size ≤ 1048576 := by omega
  clear hu hle hsz hbt h hT
  have hb := get_bt u
  go_enter Tryd.func16, Tryd.ntmps16
  go_wp2
  go_loop [3] (fun i => ∃ j : Nat, j ≤ k ∧ i = .int .i64 j) (fun i => u.size - (intOf i).toNat)
  case atStart => exact ⟨0, Nat.zero_le _, rfl⟩
  case round =>
    obtain ⟨j, hj, rfl⟩ := hrel
    by_cases hlt : j < k
    · obtain ⟨h1, h2⟩ := hd.out j hlt
      have hju : j < u.size := by omega
      go_wp2
      go_round
      case rel => exact ⟨j + 1, by omega, by go_num⟩
      case measure => simp [intOf]; omega
    · have hke : j = k := by omega
      subst hke
      by_cases hend : j < u.size
      · by_cases h1 : 48 ≤ bt u j
        · have h2 : ¬ bt u j ≤ 57 := fun h2 => hst.out hend ⟨h1, h2⟩
          go_wp2
          go_ret
          exact ⟨rfl, rfl⟩
        · go_wp2
          go_ret
          exact ⟨rfl, rfl⟩
      · go_wp2
        go_ret
        exact ⟨rfl, rfl⟩
end Go.Proofs.Qxb6606304aDoor
