/-
  WALKS: special, commonPrefixLenIgnoreCase of internal/strconv at a decimal number.
-/
import Derived.Test.Qxb6606304aDoorScl
import Derived.Test.Qxb6606304aDoorByt
import Derived.Laws.IdiomStrings
namespace Go.Proofs.Qxb6606304aDoor
open Go.RowKit Go.PlainAid
set_option linter.unusedSimpArgs false

theorem inf0 : ((((⟨#[105, 110, 102, 105, 110, 105, 116, 121]⟩ : ByteArray)[0]'(by decide)).toNat : Nat) : Int) = 105 := rfl
set_option maxRecDepth 100000 in
set_option maxHeartbeats 1000000 in
theorem cpl_zero (t : ByteArray) (w : World) (h0 : 0 < t.size) (hm : t.size ≤ 1048576) (h1 : 46 ≤ bt t 0) (h2 : bt t 0 ≤ 57) :
    Calls Tryd.prog 61 #[.string t, .string ⟨#[105, 110, 102, 105, 110, 105, 116, 121]⟩] w fun e w' => e = .returned (.int .i64 0) ∧ w' = w := by
  have hb := get_bt t
  have hne : (bt t 0 != 105) = true := bne_iff_ne.2 (by omega)
  have hmn : (0 : Int) < min 8 (t.size : Int) := by omega
  have hi0 := inf0
  go_enter Tryd.func61, Tryd.ntmps61
  go_wp2
  go_loop [6] (fun i => i = .int .i64 0) (fun _ => 0)
  case atStart => rfl
  case round =>
    obtain rfl := hrel
    go_wp2
    go_ret
    exact ⟨rfl, rfl⟩
set_option maxRecDepth 100000 in
set_option maxHeartbeats 1000000 in
theorem special_digit (s : ByteArray) (w : World) (h0 : 0 < s.size) (hm : s.size ≤ 1048576) (h1 : 46 ≤ bt s 0) (h2 : bt s 0 ≤ 57) :
    Calls Tryd.prog 43 #[.string s] w fun e w' => e = .returned (.tuple #[.float .f64 0, .int .i64 0, .bool false]) ∧ w' = w := by
  have hb := get_bt s
  have hq : ((s.size : Int) == 0) = false := beq_eq_false_iff_ne.2 (by omega)
  obtain ⟨c, hc⟩ : ∃ c, bt s 0 = c := ⟨_, rfl⟩
  rw [hc] at h1 h2
  have q1 : (c == 43) = false := beq_eq_false_iff_ne.2 (by omega)
  have q2 : (c == 45) = false := beq_eq_false_iff_ne.2 (by omega)
  have q3 : (c == 105) = false := beq_eq_false_iff_ne.2 (by omega)
  have q4 : (c == 73) = false := beq_eq_false_iff_ne.2 (by omega)
  have q5 : (c == 110) = false := beq_eq_false_iff_ne.2 (by omega)
  have q6 : (c == 78) = false := beq_eq_false_iff_ne.2 (by omega)
  go_enter Tryd.func43, Tryd.ntmps43
  go_wp2
  go_ret3
  exact ⟨rfl, rfl⟩
set_option maxRecDepth 100000 in
set_option maxHeartbeats 1000000 in
theorem special_sign (s : ByteArray) (w : World) (h0 : 1 < s.size) (hm : s.size ≤ 1048576) (h1 : 46 ≤ bt s 1) (h2 : bt s 1 ≤ 57) (hs : bt s 0 = 43 ∨ bt s 0 = 45) :
    Calls Tryd.prog 43 #[.string s] w fun e w' => e = .returned (.tuple #[.float .f64 0, .int .i64 0, .bool false]) ∧ w' = w := by
  have hb := get_bt s
  have hq : ((s.size : Int) == 0) = false := beq_eq_false_iff_ne.2 (by omega)
  have hcp := hide (cpl_zero (s.extract 1 s.size) w (by rw [size_ext s 1 s.size (Nat.le_refl _)]; omega) (by rw [size_ext s 1 s.size (Nat.le_refl _)]; omega) (by rw [bt_ext s 1 s.size 0 (by omega)]; exact h1) (by rw [bt_ext s 1 s.size 0 (by omega)]; exact h2))
  rcases hs with hs | hs
  · go_enter Tryd.func43, Tryd.ntmps43
    go_wp2_with (go_at_call 61; (with_reducible refine (hcp.out).mono ?_); rintro e w1 ⟨rfl, hw1⟩; rw [hw1]; clear hw1 w1)
    go_ret3
    exact ⟨rfl, rfl⟩
  · go_enter Tryd.func43, Tryd.ntmps43
    go_wp2_with (go_at_call 61; (with_reducible refine (hcp.out).mono ?_); rintro e w1 ⟨rfl, hw1⟩; rw [hw1]; clear hw1 w1)
    go_ret3
    exact ⟨rfl, rfl⟩
end Go.Proofs.Qxb6606304aDoor
