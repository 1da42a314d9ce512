/-
  WALK: the law itself, FnReadFastPath.
-/
import Derived.Test.Qxb6606304aDoorAll
namespace Go.Proofs.Qxb6606304aDoor
open Go.RowKit Go.PlainAid
set_option linter.unusedSimpArgs false

set_option maxRecDepth 100000 in
theorem bytes_yes (s : ByteArray) (w : World) (hs : s.size ≤ 1048576) : Calls Tryd.prog 5 #[.string s] w fun e w' => e = .returned (.bool true) ∧ w' = w := by
  go_enter Tryd.func5, Tryd.ntmps5
  go_wp2
  go_ret
  exact ⟨rfl, rfl⟩
set_option maxRecDepth 100000 in
theorem bytes_no (s : ByteArray) (w : World) (hs : ¬ s.size ≤ 1048576) : Calls Tryd.prog 5 #[.string s] w fun e w' => e = .returned (.bool false) ∧ w' = w := by
  go_enter Tryd.func5, Tryd.ntmps5
  go_wp2
  go_ret
  exact ⟨rfl, rfl⟩

theorem pb_mul (k : Nat) (hk : k < 22) (w : World) : (binOp .mul 26 (.float .f64 (Fl.pb k)) (.float .f64 4621819117588971520)).run Tryd.prog w = .ok (.float .f64 (Fl.pb (k + 1))) w :=
  run_float_arith w .mul 26 .f64 _ _ _ (Fl.pb_step k hk)

set_option maxRecDepth 100000 in
set_option maxHeartbeats 4000000 in
theorem law_any (s : ByteArray) (w : World) (hE : Env w) : Calls Tryd.prog 3 #[.string s] w fun e w' => e = .returned (.bool true) ∧ Below w.heap.size w w' := by
  have hEH := hide hE
  clear hE
  by_cases hs : s.size ≤ 1048576
  · go_enter Tryd.func3, Tryd.ntmps3
    go_upto_region 6 with (first | (go_at_call 5; (with_reducible refine (bytes_yes s w hs).mono ?_); rintro e w1 ⟨rfl, rfl⟩) | (go_at_call 6; (with_reducible refine (fast_all s _ hs).mono ?_); rintro e w2 ⟨⟨m, e10, ng, ok, rfl, hok⟩, hb2⟩))
    cases ok with
    | false =>
      go_wp2_with fail
      go_ret
      exact ⟨rfl, hb2⟩
    | true =>
      obtain ⟨h1, h2, h3, hR⟩ := hok rfl
      clear hok
      obtain ⟨r, hW⟩ := Want.any m e10 h1 h2 h3
      have hE2 := hide (hEH.out.below hb2)
      have hrd := hide (hR w2 r hE2.out hW)
      have hconv := conv_f m w2
      have ho : (FloatKind.f64.format.order (wd ng r) (wd ng r) == some .eq) = true := by
        have : FloatKind.f64.format.order (wd ng r) (wd ng r) = some .eq := Fl.order_self ng r hW.le
        rw [this]; rfl
      have hop := hW.op false
      have hng := neg_f r hW.le w2
      have hbH := hide hb2
      clear hW hR hE2 hEH hb2
      obtain ⟨a, ha⟩ : ∃ a, Fl.rungOf m 0 = a := ⟨_, rfl⟩
      rw [ha] at hconv hop
      clear ha
      by_cases hp : 0 ≤ e10
      · obtain ⟨k, rfl⟩ : ∃ k : Nat, e10 = k := ⟨e10.toNat, by omega⟩
        have hmul := arith_f .mul false a (Fl.pb k) r w2 (by
          unfold Fl.opB at hop
          rw [if_pos (by omega), Int.natAbs_natCast] at hop
          exact hop)
        clear hop
        cases ng with
        | false =>
          go_wp2_with fail
          go_loop [8, 9] (fun v8 v9 => ∃ i : Nat, i ≤ k ∧ v8 = .float .f64 (Fl.pb i) ∧ v9 = .int .i64 i) (fun _ v9 => k - (intOf v9).toNat)
          case atStart => exact ⟨0, by omega, rfl, rfl⟩
          case round =>
            obtain ⟨i, hi, rfl, rfl⟩ := hrel
            by_cases hlt : i < k
            · have hst := pb_mul i (by omega) w2
              go_wp2_with fail
              go_round
              case rel => exact ⟨i + 1, by omega, rfl, by go_num⟩
              case measure => simp [intOf]; omega
            · obtain rfl : i = k := by omega
              go_wp2_with (go_at_call 7; (with_reducible refine (hrd.out).mono ?_); rintro e w3 ⟨rfl, hb3⟩)
              go_ret
              exact ⟨rfl, hbH.out.trans (hb3.mono hbH.out.size)⟩
        | true =>
          go_wp2_with fail
          go_loop [8, 9] (fun v8 v9 => ∃ i : Nat, i ≤ k ∧ v8 = .float .f64 (Fl.pb i) ∧ v9 = .int .i64 i) (fun _ v9 => k - (intOf v9).toNat)
          case atStart => exact ⟨0, by omega, rfl, rfl⟩
          case round =>
            obtain ⟨i, hi, rfl, rfl⟩ := hrel
            by_cases hlt : i < k
            · have hst := pb_mul i (by omega) w2
              go_wp2_with fail
              go_round
              case rel => exact ⟨i + 1, by omega, rfl, by go_num⟩
              case measure => simp [intOf]; omega
            · obtain rfl : i = k := by omega
              go_wp2_with (go_at_call 7; (with_reducible refine (hrd.out).mono ?_); rintro e w3 ⟨rfl, hb3⟩)
              go_ret
              exact ⟨rfl, hbH.out.trans (hb3.mono hbH.out.size)⟩
      · obtain ⟨k, rfl⟩ : ∃ k : Nat, e10 = -(k : Int) := ⟨(-e10).toNat, by omega⟩
        have hdiv := arith_f .quo false a (Fl.pb k) r w2 (by
          unfold Fl.opB at hop
          rw [if_neg (by omega), Int.natAbs_neg, Int.natAbs_natCast] at hop
          exact hop)
        clear hop
        cases ng with
        | false =>
          go_wp2_with fail
          go_loop [8, 9] (fun v8 v9 => ∃ i : Nat, i ≤ k ∧ v8 = .float .f64 (Fl.pb i) ∧ v9 = .int .i64 i) (fun _ v9 => k - (intOf v9).toNat)
          case atStart => exact ⟨0, by omega, rfl, rfl⟩
          case round =>
            obtain ⟨i, hi, rfl, rfl⟩ := hrel
            by_cases hlt : i < k
            · have hst := pb_mul i (by omega) w2
              go_wp2_with fail
              go_round
              case rel => exact ⟨i + 1, by omega, rfl, by go_num⟩
              case measure => simp [intOf]; omega
            · obtain rfl : i = k := by omega
              go_wp2_with (go_at_call 7; (with_reducible refine (hrd.out).mono ?_); rintro e w3 ⟨rfl, hb3⟩)
              go_ret
              exact ⟨rfl, hbH.out.trans (hb3.mono hbH.out.size)⟩
        | true =>
          go_wp2_with fail
          go_loop [8, 9] (fun v8 v9 => ∃ i : Nat, i ≤ k ∧ v8 = .float .f64 (Fl.pb i) ∧ v9 = .int .i64 i) (fun _ v9 => k - (intOf v9).toNat)
          case atStart => exact ⟨0, by omega, rfl, rfl⟩
          case round =>
            obtain ⟨i, hi, rfl, rfl⟩ := hrel
            by_cases hlt : i < k
            · have hst := pb_mul i (by omega) w2
              go_wp2_with fail
              go_round
              case rel => exact ⟨i + 1, by omega, rfl, by go_num⟩
              case measure => simp [intOf]; omega
            · obtain rfl : i = k := by omega
              go_wp2_with (go_at_call 7; (with_reducible refine (hrd.out).mono ?_); rintro e w3 ⟨rfl, hb3⟩)
              go_ret
              exact ⟨rfl, hbH.out.trans (hb3.mono hbH.out.size)⟩
  · go_enter Tryd.func3, Tryd.ntmps3
    go_wp2_with (go_at_call 5; (with_reducible refine (bytes_no s w hs).mono ?_); rintro e w1 ⟨rfl, rfl⟩)
    go_ret
    exact ⟨rfl, Below.refl _ _⟩
end Go.Proofs.Qxb6606304aDoor
