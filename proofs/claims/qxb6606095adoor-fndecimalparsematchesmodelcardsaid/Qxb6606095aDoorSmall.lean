/-
  SMALL WALKS of seat b6606095aD: the length guard, isDigit, allDigits.
-/
import Derived.Test.Qxb6606095aDoorRows
import Derived.Test.Qxb6606095aDoorPlain
import Derived.WalkKit
import Derived.WalkSpells
import Derived.WalkLawsBesides
import Derived.PlainAid
namespace Go.Proofs.Qxb6606095aDoor
open Go.RowKit Go.PlainAid

theorem B_bt (s : ByteArray) (k : Nat) : bt s k = Pl.B s.data.toList k := by
  unfold bt Pl.B
  split
  · rename_i h
    rw [List.getD_eq_getElem?_getD, Lib.data_getElem? s k h]; rfl
  · rename_i h
    rw [List.getD_eq_getElem?_getD, List.getElem?_eq_none (by
      have : s.data.toList.length = s.size := rfl
      omega)]; rfl
theorem len_size (s : ByteArray) : s.data.toList.length = s.size := rfl

set_option maxHeartbeats 400000 in
theorem guard_short (s : ByteArray) (w : World) (hs : (s.size : Int) ≤ 1048576) :
    Calls Tryd.prog 7 #[.string s] w fun e w' => e = .returned (.bool true) ∧ w' = w := by
  go_enter Tryd.func7, Tryd.ntmps7
  go_wp2
  go_ret
  exact ⟨rfl, rfl⟩
set_option maxHeartbeats 400000 in
theorem guard_long (s : ByteArray) (w : World) (hs : (1048576 : Int) < s.size) :
    Calls Tryd.prog 7 #[.string s] w fun e w' => e = .returned (.bool false) ∧ w' = w := by
  go_enter Tryd.func7, Tryd.ntmps7
  go_wp2
  go_ret
  exact ⟨rfl, rfl⟩

set_option maxHeartbeats 400000 in
theorem isDigit_yes (c : Int) (w : World) (h1 : 48 ≤ c) (h2 : c ≤ 57) :
    Calls Tryd.prog 17 #[.int .u8 c] w fun e w' => e = .returned (.bool true) ∧ w' = w := by
  go_enter Tryd.func17, Tryd.ntmps17
  go_wp2
  go_ret
  exact ⟨rfl, rfl⟩
set_option maxHeartbeats 400000 in
theorem isDigit_no (c : Int) (w : World) (h : ¬ (48 ≤ c ∧ c ≤ 57)) :
    Calls Tryd.prog 17 #[.int .u8 c] w fun e w' => e = .returned (.bool false) ∧ w' = w := by
  by_cases h1 : 48 ≤ c
  · have h2 : ¬ c ≤ 57 := fun h2 => h ⟨h1, h2⟩
    clear h
    go_enter Tryd.func17, Tryd.ntmps17
    go_wp2
    go_ret
    exact ⟨rfl, rfl⟩
  · clear h
    go_enter Tryd.func17, Tryd.ntmps17
    go_wp2
    go_ret
    exact ⟨rfl, rfl⟩

theorem allDigits_B (l : List UInt8) : Pl.allDigits l = true ↔ (∀ k, k < l.length → 48 ≤ Pl.B l k ∧ Pl.B l k ≤ 57) ∧ 0 < l.length := by
  unfold Pl.allDigits
  rw [Bool.and_eq_true, List.all_eq_true, Bool.not_eq_true', List.isEmpty_eq_false_iff]
  constructor
  · rintro ⟨h1, h2⟩
    refine ⟨fun k hk => ?_, List.length_pos_iff.2 h2⟩
    have := of_decide_eq_true (h1 _ (List.getElem_mem hk))
    unfold Pl.B
    rw [List.getD_eq_getElem?_getD, List.getElem?_eq_getElem hk]
    simp only [Option.getD_some]
    omega
  · rintro ⟨h1, h2⟩
    refine ⟨fun x hx => ?_, List.length_pos_iff.1 h2⟩
    obtain ⟨k, hk, rfl⟩ := List.getElem_of_mem hx
    have := h1 k hk
    unfold Pl.B at this
    rw [List.getD_eq_getElem?_getD, List.getElem?_eq_getElem hk] at this
    simp only [Option.getD_some] at this
    exact decide_eq_true (by omega)

theorem ret_bool {a b : Bool} (h : a = b) : Ending.returned (.bool a) = .returned (.bool b) := by rw [h]
theorem allDigits_no (s : ByteArray) (k : Nat) (hk : k < s.size) (h : ¬ (48 ≤ bt s k ∧ bt s k ≤ 57)) : Pl.allDigits s.data.toList = false := by
  rw [Bool.eq_false_iff, Ne, allDigits_B]
  rintro ⟨h1, _⟩
  exact h (by rw [B_bt]; exact h1 k (by rw [len_size]; exact hk))
theorem allDigits_yes (s : ByteArray) (h : ∀ j, j < s.size → 48 ≤ bt s j ∧ bt s j ≤ 57) : Pl.allDigits s.data.toList = !s.toList.isEmpty := by
  rw [Lib.toList_data, Bool.eq_iff_iff, allDigits_B]
  simp only [Bool.not_eq_true', List.isEmpty_eq_false_iff]
  constructor
  · rintro ⟨_, h2⟩; exact List.length_pos_iff.1 h2
  · intro h2; exact ⟨fun k hk => by rw [← B_bt]; exact h k (by rw [len_size] at hk; exact hk), List.length_pos_iff.2 h2⟩

set_option maxHeartbeats 1000000 in
theorem allDigits_any (s : ByteArray) (w : World) (hs : s.size ≤ maxLen) :
    Calls Tryd.prog 23 #[.string s] w fun e w' => e = .returned (.bool (Pl.allDigits s.data.toList)) ∧ w' = w := by
  unfold maxLen at hs
  have hb := get_bt s
  go_enter Tryd.func23, Tryd.ntmps23
  go_wp2
  go_loop [3] (fun i => ∃ k : Nat, k ≤ s.size ∧ i = .int .i64 k ∧ Hid (∀ j, j < k → 48 ≤ bt s j ∧ bt s j ≤ 57)) (fun i => s.size - (intOf i).toNat)
  case atStart => exact ⟨0, Nat.zero_le _, rfl, fun j hj => absurd hj (Nat.not_lt_zero _)⟩
  case round =>
    obtain ⟨k, hk, rfl, hall⟩ := hrel
    by_cases hlt : k < s.size
    · by_cases h1 : bt s k < 48
      · go_wp2
        go_ret
        exact ⟨ret_bool (allDigits_no s k hlt (by omega)).symm, rfl⟩
      · by_cases h2 : 57 < bt s k
        · go_wp2
          go_ret
          exact ⟨ret_bool (allDigits_no s k hlt (by omega)).symm, rfl⟩
        · go_wp2
          go_round
          case rel => exact ⟨k + 1, by omega, by go_num, fun j hj => by
            by_cases e : j = k
            · subst e; omega
            · exact hall.out j (by omega)⟩
          case measure => simp [intOf]; omega
    · go_wp2
      go_ret
      exact ⟨ret_bool (allDigits_yes s fun j hj => hall.out j (by omega)).symm, rfl⟩

end Go.Proofs.Qxb6606095aDoor
