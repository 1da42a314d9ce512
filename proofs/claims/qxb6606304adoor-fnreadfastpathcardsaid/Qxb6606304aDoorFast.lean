/-
  WALK: zzFastPath over the parts that zzModelScan gives.
-/
import Derived.Test.Qxb6606304aDoorFp
import Derived.Test.Qxb6606304aDoorScan
namespace Go.Proofs.Qxb6606304aDoor
open Go.RowKit Go.PlainAid
set_option linter.unusedSimpArgs false

/-- What zzFastPath answers. -/
def FP (fnd neg eneg : Bool) (na nf nx ne : Nat) (Dv Ev : Nat → Int) (e : Ending) : Prop :=
  ∃ (m : Nat) (e10 : Int) (ng ok : Bool), e = .returned (.tuple #[.int .u64 m, .int .i64 e10, .bool ng, .bool ok]) ∧ (ok = true → fnd = true ∧ (0 < nf ∨ 0 < nx) ∧ m = Mfn Dv (na + nf) ∧ Sfn Dv (na + nf) ≤ 16 ∧ m ≤ 9007199254740992 ∧ Sfn Ev ne ≤ 5 ∧ e10 = (if eneg then -(Mfn Ev ne : Int) else (Mfn Ev ne : Int)) - nf ∧ -22 ≤ e10 ∧ e10 ≤ 22 ∧ ng = neg)
theorem FP_no {fnd neg eneg : Bool} {na nf nx ne : Nat} {Dv Ev : Nat → Int} : FP fnd neg eneg na nf nx ne Dv Ev (.returned (.tuple #[.int .u64 0, .int .i64 0, .bool false, .bool false])) :=
  ⟨0, 0, false, false, rfl, fun h => by cases h⟩

theorem cells7 (w : World) (a b c d e f : ByteArray) (x : Bool) : (w.alloc (.cells #[.string a, .string b, .string c, .string d, .string e, .string f, .bool x] 31)).cell? ⟨w.heap.size, 0, none⟩ = some (.string a) ∧ (w.alloc (.cells #[.string a, .string b, .string c, .string d, .string e, .string f, .bool x] 31)).cell? ⟨w.heap.size, 1, none⟩ = some (.string b) ∧ (w.alloc (.cells #[.string a, .string b, .string c, .string d, .string e, .string f, .bool x] 31)).cell? ⟨w.heap.size, 2, none⟩ = some (.string c) ∧ (w.alloc (.cells #[.string a, .string b, .string c, .string d, .string e, .string f, .bool x] 31)).cell? ⟨w.heap.size, 3, none⟩ = some (.string d) ∧ (w.alloc (.cells #[.string a, .string b, .string c, .string d, .string e, .string f, .bool x] 31)).cell? ⟨w.heap.size, 6, none⟩ = some (.bool x) :=
  ⟨by go_simp, by go_simp, by go_simp, by go_simp, by go_simp⟩
set_option maxRecDepth 100000 in
set_option maxHeartbeats 8000000 in
theorem fast_any (s sgS inS frS exS txS rsS : ByteArray) (fnd neg eneg : Bool) (na nf nx es ne : Nat) (Dv Ev : Nat → Int) (w : World)
    (hms : Calls Tryd.prog 10 #[.string s] w fun e w' => e = .returned (.agg #[.string sgS, .string inS, .string frS, .string exS, .string txS, .string rsS, .bool fnd]) ∧ Below w.heap.size w w')
    (hin : inS.size = na) (hfr : frS.size = nf) (hex : exS.size = nx) (hsz : na + nf + nx ≤ 1048576) (hD1 : ∀ j, j < na → bt inS j = Dv j) (hD2 : ∀ j, j < nf → bt frS j = Dv (na + j)) (hDd : ∀ j, j < na + nf → 48 ≤ Dv j ∧ Dv j ≤ 57)
    (hx0 : nx = es + ne) (hxs : (es = 0 ∧ eneg = false ∧ (0 < nx → bt exS 0 ≠ 43 ∧ bt exS 0 ≠ 45)) ∨ (es = 1 ∧ eneg = false ∧ bt exS 0 = 43) ∨ (es = 1 ∧ eneg = true ∧ bt exS 0 = 45)) (hxd : ∀ k, k < ne → bt exS (es + k) = Ev k ∧ 48 ≤ Ev k ∧ Ev k ≤ 57)
    (hneg : (sgS.toList == [45]) = neg) :
    Calls Tryd.prog 6 #[.string s] w fun e w' => FP fnd neg eneg na nf nx ne Dv Ev e ∧ Below w.heap.size w w' := by
  have hmsH := hide hms
  clear hms
  have hbi := get_bt inS
  have hbf := get_bt frS
  have hbx := get_bt exS
  have hD1H := hide hD1
  have hD2H := hide hD2
  have hDdH := hide hDd
  have hx0H := hide hx0
  have hxsH := hide hxs
  have hxdH := hide hxd
  have hes : es ≤ nx := by omega
  clear hD1 hD2 hDd hx0 hxs hxd
  go_enter Tryd.func6, Tryd.ntmps6
  go_upto_region 2 with (go_at_call 10; (with_reducible refine (hmsH.out).mono ?_); rintro e w1 ⟨rfl, hb1⟩)
  obtain ⟨W, hW⟩ : ∃ W, w1.alloc (.cells #[.string sgS, .string inS, .string frS, .string exS, .string txS, .string rsS, .bool fnd] 31) = W := ⟨_, rfl⟩
  have hbW : Below w.heap.size w W := by rw [← hW]; exact hb1.alloc hb1.size _
  have hc7 := cells7 w1 sgS inS frS exS txS rsS fnd
  rw [hW] at hc7
  obtain ⟨c0, c1, c2, c3, c6⟩ := hc7
  rw [hW]
  obtain ⟨g, hg⟩ : ∃ g, w1.heap.size = g := ⟨_, rfl⟩
  rw [hg] at c0 c1 c2 c3 c6 ⊢
  clear hW hb1 hmsH hg
  cases fnd with
  | false =>
    go_wp2_with fail
    exact bodyPost_ret (v := .tuple #[.int .u64 0, .int .i64 0, .bool false, .bool false]) (by simp [results, Tryd.results6, go_sem]) rfl ⟨FP_no, hbW⟩
  | true =>
    by_cases hno : nf = 0 ∧ nx = 0
    · obtain ⟨e1, e2⟩ := isE_yes (hfr.trans hno.1)
      obtain ⟨e3, e4⟩ := isE_yes (hex.trans hno.2)
      clear hno
      go_wp2_with fail
      exact bodyPost_ret (v := .tuple #[.int .u64 0, .int .i64 0, .bool false, .bool false]) (by simp [results, Tryd.results6, go_sem]) rfl ⟨FP_no, hbW⟩
    · have hfx : 0 < nf ∨ 0 < nx := by omega
      clear hno
      go_cut [34] from 22 to 33 (fun v w' => v = .bool false ∧ w' = W)
      case first =>
        rcases hfx with h | h
        · obtain ⟨e1, e2⟩ := isE_no (s := frS) (by omega)
          go_wp2_with fail
          go_meet
          case rel => exact ⟨rfl, rfl⟩
        · by_cases h2 : nf = 0
          · obtain ⟨e1, e2⟩ := isE_yes (hfr.trans h2)
            obtain ⟨e3, e4⟩ := isE_no (s := exS) (by omega)
            have h2H := hide h2
            clear h2
            go_wp2_with fail
            go_meet
            case rel => exact ⟨rfl, rfl⟩
          · obtain ⟨e1, e2⟩ := isE_no (s := frS) (by omega)
            go_wp2_with fail
            go_meet
            case rel => exact ⟨rfl, rfl⟩
      obtain ⟨rfl, rfl⟩ := hcut
      go_upto_block 0 with fail
      go_cut [7] from 38 to 76 (fun v7 w' => v7 = .int .u64 (Mfn Dv (na + nf)) ∧ Hid (Sfn Dv (na + nf) ≤ 16) ∧ w' = wc)
      case first =>
        go_wp2_with fail
        go_loop [7, 8, 10] (fun v7 v8 v10 => ∃ j : Nat, j ≤ na + nf ∧ v7 = .int .u64 (Mfn Dv j) ∧ v8 = .int .i64 (Sfn Dv j) ∧ v10 = .int .i64 j ∧ Hid (Sfn Dv j ≤ 16)) (fun _ _ v10 => na + nf - (intOf v10).toNat)
        case atStart => exact ⟨0, by omega, rfl, rfl, rfl, hide (by simp [Sfn])⟩
        case round =>
          obtain ⟨j, hj, rfl, rfl, rfl, hS⟩ := hrel
          by_cases hlt : j < na + nf
          · obtain ⟨y, hy⟩ : ∃ y, Dv j = y := ⟨_, rfl⟩
            obtain ⟨d1, d2⟩ := hDdH.out j hlt
            have hms := hide (Mfn_step Dv j d1)
            have hss := hide (Sfn_step Dv j)
            have hz := hide (Sfn_zero Dv j)
            have hMb := Mfn_pow hDdH.out hj hS.out
            have hSb := hS.out
            rw [hy] at d1 d2 hms hss
            rw [show (10 : Nat) ^ 16 = 10000000000000000 by decide +kernel] at hMb
            obtain ⟨Mj, hMj⟩ : ∃ x, Mfn Dv j = x := ⟨_, rfl⟩
            obtain ⟨Sj, hSj⟩ : ∃ x, Sfn Dv j = x := ⟨_, rfl⟩
            rw [hMj] at hMb hms hz ⊢
            rw [hSj] at hSb hss hz ⊢
            have fin1 : Sj = 0 ∧ y = 48 → Hid (Mfn Dv (j + 1) = Mj ∧ Sfn Dv (j + 1) = Sj) := fun h => hide ⟨by have := hms.out; have := hz.out h.1; omega, by rw [hss.out, if_pos h, h.1]⟩
            have fin2 : ¬ (Sj = 0 ∧ y = 48) → Hid (((Mfn Dv (j + 1) : Nat) : Int) = (Mj : Int) * 10 + (y - 48) ∧ Sfn Dv (j + 1) = Sj + 1) := fun h => hide ⟨hms.out, by rw [hss.out, if_neg h]⟩
            clear hms hss hz
            by_cases hja : j < na
            · have hc : bt inS j = y := by rw [hD1H.out j hja, hy]
              clear hy
              by_cases hS0 : Sj = 0
              · by_cases h48 : y = 48
                · have hf1 := fin1 ⟨hS0, h48⟩
                  subst hS0 h48
                  clear fin1 fin2
                  go_wp2_with fail
                  go_round
                  case rel => exact ⟨j + 1, by omega, by rw [hf1.out.1], by rw [hf1.out.2], by go_num, hide (by rw [hf1.out.2]; omega)⟩
                  case measure => simp [intOf]; omega
                · have hf2 := fin2 (fun h => h48 h.2)
                  have h48' : (y - 48 == 0) = false := beq_eq_false_iff_ne.2 (by omega)
                  subst hS0
                  clear fin1 fin2
                  go_wp2_with fail
                  go_round
                  case rel => exact ⟨j + 1, by omega, congrArg (Value.int .u64) (by have := hf2.out.1; omega), congrArg (Value.int .i64) (by have := hf2.out.2; omega), by go_num, hide (by rw [hf2.out.2]; omega)⟩
                  case measure => simp [intOf]; omega
              · have hf2 := fin2 (fun h => hS0 h.1)
                have hS0' : ((Sj : Int) == 0) = false := beq_eq_false_iff_ne.2 (by omega)
                clear fin1 fin2
                by_cases h16 : Sj + 1 ≤ 16
                · go_wp2_with fail
                  go_round
                  case rel => exact ⟨j + 1, by omega, congrArg (Value.int .u64) (by have := hf2.out.1; omega), congrArg (Value.int .i64) (by have := hf2.out.2; omega), by go_num, hide (by rw [hf2.out.2]; omega)⟩
                  case measure => simp [intOf]; omega
                · go_wp2_with fail
                  exact bodyPost_ret (v := .tuple #[.int .u64 0, .int .i64 0, .bool false, .bool false]) (by simp [results, Tryd.results6, go_sem]) rfl ⟨FP_no, hbW⟩
            · obtain ⟨f, rfl⟩ : ∃ f, j = na + f := ⟨j - na, by omega⟩
              have hfl : f < nf := by omega
              have hc : bt frS f = y := by rw [hD2H.out f hfl, hy]
              have hja' : ¬ ((na : Int) + (f : Int) < (na : Int)) := by omega
              clear hy
              by_cases hS0 : Sj = 0
              · by_cases h48 : y = 48
                · have hf1 := fin1 ⟨hS0, h48⟩
                  subst hS0 h48
                  clear fin1 fin2
                  go_wp2_with fail
                  go_round
                  case rel => exact ⟨na + f + 1, by omega, by rw [hf1.out.1], by rw [hf1.out.2], by go_num, hide (by rw [hf1.out.2]; omega)⟩
                  case measure => simp [intOf]; omega
                · have hf2 := fin2 (fun h => h48 h.2)
                  have h48' : (y - 48 == 0) = false := beq_eq_false_iff_ne.2 (by omega)
                  subst hS0
                  clear fin1 fin2
                  go_wp2_with fail
                  go_round
                  case rel => exact ⟨na + f + 1, by omega, congrArg (Value.int .u64) (by have := hf2.out.1; omega), congrArg (Value.int .i64) (by have := hf2.out.2; omega), by go_num, hide (by rw [hf2.out.2]; omega)⟩
                  case measure => simp [intOf]; omega
              · have hf2 := fin2 (fun h => hS0 h.1)
                have hS0' : ((Sj : Int) == 0) = false := beq_eq_false_iff_ne.2 (by omega)
                clear fin1 fin2
                by_cases h16 : Sj + 1 ≤ 16
                · go_wp2_with fail
                  go_round
                  case rel => exact ⟨na + f + 1, by omega, congrArg (Value.int .u64) (by have := hf2.out.1; omega), congrArg (Value.int .i64) (by have := hf2.out.2; omega), by go_num, hide (by rw [hf2.out.2]; omega)⟩
                  case measure => simp [intOf]; omega
                · go_wp2_with fail
                  exact bodyPost_ret (v := .tuple #[.int .u64 0, .int .i64 0, .bool false, .bool false]) (by simp [results, Tryd.results6, go_sem]) rfl ⟨FP_no, hbW⟩
          · have hje : j = na + nf := by omega
            subst hje
            go_wp2_with fail
            go_meet
            case rel => exact ⟨rfl, hS, rfl⟩
      obtain ⟨rfl, hS16, rfl⟩ := hcut
      obtain ⟨M, hM⟩ : ∃ x, Mfn Dv (na + nf) = x := ⟨_, rfl⟩
      rw [hM]
      have hMH := hide hM
      have hMb := Mfn_pow hDdH.out (Nat.le_refl _) hS16.out
      rw [show (10 : Nat) ^ 16 = 10000000000000000 by decide +kernel, hM] at hMb
      clear hM
      by_cases h53 : M ≤ 9007199254740992
      · obtain ⟨sgb, hsgb⟩ : ∃ x : Bool, x = decide (es = 1) := ⟨_, rfl⟩
        have hsgH := hide hsgb
        clear hsgb
        go_upto_region 25 with fail
        go_cut [94] from 81 to 93 (fun v w' => v = .bool sgb ∧ w' = wc)
        case first =>
          rcases hxsH.out with ⟨h1, _, h2⟩ | ⟨h1, _, h3⟩ | ⟨h1, _, h3⟩
          · have h4 : sgb = false := by rw [hsgH.out]; simp; omega
            subst h4
            by_cases h5 : 0 < nx
            · obtain ⟨h6, h7⟩ := h2 h5
              have e1 : (bt exS 0 == 43) = false := beq_eq_false_iff_ne.2 h6
              have e2 : (bt exS 0 == 45) = false := beq_eq_false_iff_ne.2 h7
              clear h6 h7 h2
              go_wp2_with fail
              go_meet
              case rel => exact ⟨rfl, rfl⟩
            · clear h2
              go_wp2_with fail
              go_meet
              case rel => exact ⟨rfl, rfl⟩
          · have h4 : sgb = true := by rw [hsgH.out]; simp; omega
            subst h4
            have h5 : 0 < nx := by omega
            have e1 : (bt exS 0 == 43) = true := beq_iff_eq.2 h3
            clear h3
            go_wp2_with fail
            go_meet
            case rel => exact ⟨rfl, rfl⟩
          · have h4 : sgb = true := by rw [hsgH.out]; simp; omega
            subst h4
            have h5 : 0 < nx := by omega
            have e1 : (bt exS 0 == 43) = false := beq_eq_false_iff_ne.2 (by omega)
            have e2 : (bt exS 0 == 45) = true := beq_iff_eq.2 h3
            clear h3
            go_wp2_with fail
            go_meet
            case rel => exact ⟨rfl, rfl⟩
        obtain ⟨rfl, rfl⟩ := hcut
        go_upto_if 94 with fail
        go_cut [14, 15] from 95 to 97 (fun v14 v15 w' => v14 = .int .i64 es ∧ v15 = .bool eneg ∧ w' = wc)
        case first =>
          rcases hxsH.out with ⟨h1, h2, h3⟩ | ⟨h1, h2, h3⟩ | ⟨h1, h2, h3⟩
          · have h4 : sgb = false := by rw [hsgH.out]; simp; omega
            subst h4 h1 h2
            clear h3
            go_wp2_with fail
            go_meet
            case rel => exact ⟨rfl, rfl, rfl⟩
          · have h4 : sgb = true := by rw [hsgH.out]; simp; omega
            subst h4 h1 h2
            have h5 : 0 < nx := by omega
            have e1 : (bt exS 0 == 45) = false := beq_eq_false_iff_ne.2 (by omega)
            clear h3
            go_wp2_with fail
            go_meet
            case rel => exact ⟨rfl, rfl, rfl⟩
          · have h4 : sgb = true := by rw [hsgH.out]; simp; omega
            subst h4 h1 h2
            have h5 : 0 < nx := by omega
            have e1 : (bt exS 0 == 45) = true := beq_iff_eq.2 h3
            clear h3
            go_wp2_with fail
            go_meet
            case rel => exact ⟨rfl, rfl, rfl⟩
        obtain ⟨rfl, rfl, rfl⟩ := hcut
        clear hsgH hxsH
        go_upto_block 2 with fail
        go_cut [16] from 98 to 122 (fun v16 w' => v16 = .int .i64 (Mfn Ev ne) ∧ Hid (Sfn Ev ne ≤ 5) ∧ w' = wc)
        case first =>
          go_wp2_with fail
          go_loop [14, 16, 17] (fun v14 v16 v17 => ∃ k : Nat, k ≤ ne ∧ v14 = .int .i64 ((es : Int) + k) ∧ v16 = .int .i64 (Mfn Ev k) ∧ v17 = .int .i64 (Sfn Ev k) ∧ Hid (Sfn Ev k ≤ 5)) (fun v14 _ _ => nx - (intOf v14).toNat)
          case atStart => exact ⟨0, by omega, by go_num, rfl, rfl, hide (by simp [Sfn])⟩
          case round =>
            obtain ⟨k, hk, rfl, rfl, rfl, hS⟩ := hrel
            by_cases hlt : k < ne
            · obtain ⟨y, hy⟩ : ∃ y, Ev k = y := ⟨_, rfl⟩
              obtain ⟨hc, d1, d2⟩ := hxdH.out k hlt
              have hms := hide (Mfn_step Ev k d1)
              have hss := hide (Sfn_step Ev k)
              have hz := hide (Sfn_zero Ev k)
              have hMb := Mfn_pow (D := Ev) (tot := ne) (fun k hk => (hxdH.out k hk).2) hk hS.out
              have hSb := hS.out
              rw [hy] at hc d1 d2 hms hss
              rw [show (10 : Nat) ^ 5 = 100000 by decide +kernel] at hMb
              obtain ⟨Mj, hMj⟩ : ∃ x, Mfn Ev k = x := ⟨_, rfl⟩
              obtain ⟨Sj, hSj⟩ : ∃ x, Sfn Ev k = x := ⟨_, rfl⟩
              rw [hMj] at hMb hms hz ⊢
              rw [hSj] at hSb hss hz ⊢
              have fin1 : Sj = 0 ∧ y = 48 → Hid (Mfn Ev (k + 1) = Mj ∧ Sfn Ev (k + 1) = Sj) := fun h => hide ⟨by have := hms.out; have := hz.out h.1; omega, by rw [hss.out, if_pos h, h.1]⟩
              have fin2 : ¬ (Sj = 0 ∧ y = 48) → Hid (((Mfn Ev (k + 1) : Nat) : Int) = (Mj : Int) * 10 + (y - 48) ∧ Sfn Ev (k + 1) = Sj + 1) := fun h => hide ⟨hms.out, by rw [hss.out, if_neg h]⟩
              have hkx : es + k < nx := by have := hx0H.out; omega
              clear hms hss hz hy
              by_cases hS0 : Sj = 0
              · by_cases h48 : y = 48
                · have hf1 := fin1 ⟨hS0, h48⟩
                  subst hS0 h48
                  clear fin1 fin2
                  go_wp2_with fail
                  go_round
                  case rel => exact ⟨k + 1, by omega, by go_num, by rw [hf1.out.1], by rw [hf1.out.2], hide (by rw [hf1.out.2]; omega)⟩
                  case measure => simp [intOf]; omega
                · have hf2 := fin2 (fun h => h48 h.2)
                  have h48' : (y - 48 == 0) = false := beq_eq_false_iff_ne.2 (by omega)
                  subst hS0
                  clear fin1 fin2
                  go_wp2_with fail
                  go_round
                  case rel => exact ⟨k + 1, by omega, by go_num, congrArg (Value.int .i64) (by have := hf2.out.1; omega), congrArg (Value.int .i64) (by have := hf2.out.2; omega), hide (by rw [hf2.out.2]; omega)⟩
                  case measure => simp [intOf]; omega
              · have hf2 := fin2 (fun h => hS0 h.1)
                have hS0' : ((Sj : Int) == 0) = false := beq_eq_false_iff_ne.2 (by omega)
                clear fin1 fin2
                by_cases h16 : Sj + 1 ≤ 5
                · go_wp2_with fail
                  go_round
                  case rel => exact ⟨k + 1, by omega, by go_num, congrArg (Value.int .i64) (by have := hf2.out.1; omega), congrArg (Value.int .i64) (by have := hf2.out.2; omega), hide (by rw [hf2.out.2]; omega)⟩
                  case measure => simp [intOf]; omega
                · go_wp2_with fail
                  exact bodyPost_ret (v := .tuple #[.int .u64 0, .int .i64 0, .bool false, .bool false]) (by simp [results, Tryd.results6, go_sem]) rfl ⟨FP_no, hbW⟩
            · have hke : k = ne := by omega
              subst hke
              have hend : ¬ ((es : Int) + (k : Int) < (nx : Int)) := by have := hx0H.out; omega
              go_wp2_with fail
              go_meet
              case rel => exact ⟨rfl, hS, rfl⟩
        obtain ⟨rfl, hS5, rfl⟩ := hcut
        have hXb := Mfn_pow (D := Ev) (tot := ne) (fun k hk => (hxdH.out k hk).2) (Nat.le_refl _) hS5.out
        rw [show (10 : Nat) ^ 5 = 100000 by decide +kernel] at hXb
        obtain ⟨X, hX⟩ : ∃ x, Mfn Ev ne = x := ⟨_, rfl⟩
        rw [hX] at hXb
        rw [hX]
        obtain ⟨ev, hev⟩ : ∃ x : Int, x = if eneg then -(X : Int) else (X : Int) := ⟨_, rfl⟩
        have hevH := hide hev
        have hXH := hide hX
        have hev1 : -100000 ≤ ev ∧ ev ≤ 100000 := by rw [hev]; split <;> omega
        obtain ⟨hev1, hev2⟩ := hev1
        clear hev hX
        go_upto_if 123 with fail
        go_cut [16] from 124 to 125 (fun v w' => v = .int .i64 ev ∧ w' = wc)
        case first =>
          cases eneg with
          | false =>
            go_wp2_with fail
            go_meet
            case rel => exact ⟨by rw [hevH.out]; rfl, rfl⟩
          | true =>
            go_wp2_with fail
            go_meet
            case rel => exact ⟨by rw [hevH.out]; rfl, rfl⟩
        obtain ⟨rfl, rfl⟩ := hcut
        by_cases hlo : -22 ≤ ev - (nf : Int)
        · by_cases hhi : ev - (nf : Int) ≤ 22
          · have hfin : Hid (FP true neg eneg na nf nx ne Dv Ev (.returned (.tuple #[.int .u64 M, .int .i64 (ev - nf), .bool neg, .bool true]))) := hide ⟨M, ev - nf, neg, true, rfl, fun _ => ⟨rfl, hfx, hMH.out.symm, hS16.out, h53, hS5.out, by rw [hevH.out, hXH.out], hlo, hhi, rfl⟩⟩
            go_wp2_with fail
            go_quiet (fail)
            go_wp2
            refine bodyPost_ret (v := .tuple #[.int .u64 M, .int .i64 (ev - nf), .bool neg, .bool true]) (by simp [results, Tryd.results6, go_sem]) rfl ⟨hfin.out, below_drewN hbW _⟩
          · go_wp2_with fail
            exact bodyPost_ret (v := .tuple #[.int .u64 0, .int .i64 0, .bool false, .bool false]) (by simp [results, Tryd.results6, go_sem]) rfl ⟨FP_no, hbW⟩
        · go_wp2_with fail
          exact bodyPost_ret (v := .tuple #[.int .u64 0, .int .i64 0, .bool false, .bool false]) (by simp [results, Tryd.results6, go_sem]) rfl ⟨FP_no, hbW⟩
      · go_wp2_with fail
        exact bodyPost_ret (v := .tuple #[.int .u64 0, .int .i64 0, .bool false, .bool false]) (by simp [results, Tryd.results6, go_sem]) rfl ⟨FP_no, hbW⟩
end Go.Proofs.Qxb6606304aDoor
