/-
  SEAT b6606095aD: the walk of the scanner zzDecB1ModelParse: it returns 'mparse' of the text's bytes.
-/
import Derived.Test.Qxb6606095aDoorParts
import Derived.Deep.DeepCutAuto
import Derived.Deep.CutBlock
import Derived.BigQuiet
import Derived.Deep.QuietTactic
namespace Go.Proofs.Qxb6606095aDoor
open Go.RowKit Go.PlainAid

set_option maxRecDepth 100000 in
set_option maxHeartbeats 1000000 in
theorem model_any (s : ByteArray) (w : World) (hs : (s.size : Int) ≤ 1048576) :
    Calls Tryd.prog 9 #[.string s] w fun e w' => e = .returned (.tuple #[.bool (mp s).1, .string ⟨(mp s).2.1.toArray⟩, .int .i64 (mp s).2.2.1, .bool (mp s).2.2.2]) ∧ Below w.heap.size w w' := by
  have hb := get_bt s
  have b0 := bt_nonneg s
  have b1 := bt_le s
  obtain ⟨hws, hws1⟩ := ws0_le s
  go_enter Tryd.func9, Tryd.ntmps9
  go_upto_region 4 with fail
  go_cut [35] from 25 to 35 (fun b w' => w' = w ∧ b = .bool (neg0 s))
  case first =>
    by_cases h0 : 0 < s.size
    · by_cases h1 : bt s 0 = 45
      · have hn : neg0 s = true := decide_eq_true ⟨h0, h1⟩
        have h2 : (bt s 0 == 45) = true := by simpa using h1
        have hn' := hide hn
        clear hn h1
        go_wp2
        go_meet
        case rel => exact ⟨rfl, by rw [hn'.out]⟩
      · have hn : neg0 s = false := decide_eq_false (fun h => h1 h.2)
        have h2 : (bt s 0 == 45) = false := by simpa using h1
        have hn' := hide hn
        clear hn h1
        go_wp2
        go_meet
        case rel => exact ⟨rfl, by rw [hn'.out]⟩
    · have hn : neg0 s = false := decide_eq_false (fun h => h0 h.1)
      have hn' := hide hn
      clear hn
      go_wp2
      go_meet
      case rel => exact ⟨rfl, by rw [hn'.out]⟩
  obtain ⟨rfl, rfl⟩ := hcut
  go_upto_if 35 with fail
  go_cut [7, 8] from 35 to 37 (fun i ng w' => w' = wc ∧ i = .int .i64 ((ws0 s : Nat) : Int) ∧ ng = .bool (neg0 s))
  case first =>
    cases hn : neg0 s
    · go_wp2
      go_meet
      case rel => exact ⟨rfl, by simp [ws0, hn], by rw [hn]⟩
    · go_wp2
      go_meet
      case rel => exact ⟨rfl, by simp [ws0, hn], by rw [hn]⟩
  obtain ⟨rfl, rfl, rfl⟩ := hcut
  -- the whole digits
  go_upto_block 0 with fail
  go_cut [7] from 36 to 49 (fun i w' => w' = wc ∧ ∃ k : Nat, ws0 s ≤ k ∧ k ≤ s.size ∧ i = .int .i64 k ∧ Hid (scanS s (ws0 s) = k))
  case first =>
    go_wp2_with fail
    go_loop [7] (fun i => ∃ k : Nat, ws0 s ≤ k ∧ k ≤ s.size ∧ i = .int .i64 k ∧ Hid (scanS s k = scanS s (ws0 s))) (fun i => s.size - (intOf i).toNat)
    case atStart => exact ⟨ws0 s, Nat.le_refl _, hws, rfl, hide rfl⟩
    case round =>
      obtain ⟨k, hk0, hk, rfl, hsc⟩ := hrel
      by_cases hlt : k < s.size
      · by_cases h1 : 48 ≤ bt s k
        · by_cases h2 : bt s k ≤ 57
          · go_wp2
            go_round
            case rel => exact ⟨k + 1, by omega, by omega, by go_num, (scanS_step hlt h1 h2).trans hsc.out⟩
            case measure => simp [intOf]; omega
          · go_wp2
            go_meet
            case rel => exact ⟨rfl, k, hk0, hk, rfl, hsc.out.symm.trans (scanS_stop hlt (by omega))⟩
        · go_wp2
          go_meet
          case rel => exact ⟨rfl, k, hk0, hk, rfl, hsc.out.symm.trans (scanS_stop hlt (by omega))⟩
      · go_wp2
        go_meet
        case rel => exact ⟨rfl, k, hk0, hk, rfl, hsc.out.symm.trans (scanS_end (by omega))⟩
  obtain ⟨rfl, we, hwe0, hwe, rfl, hscw⟩ := hcut
  by_cases hnw : we = ws0 s
  · have hbe : ((we : Int) == (ws0 s : Int)) = true := beq_iff_eq.2 (by omega)
    have hmp := hide (mp_1 (hscw.out.trans hnw))
    clear hnw
    go_wp2
    exact bodyPost_ret (v := .tuple #[.bool false, .string ⟨#[]⟩, .int .i64 0, .bool false]) (by simp [results, Tryd.results9, go_sem]) rfl ⟨ret4 hmp.out, Below.refl _ _⟩
  have hbe : ((we : Int) == (ws0 s : Int)) = false := beq_eq_false_iff_ne.2 (by omega)
  have hmp := hide (mp_2 hscw.out hnw)
  clear hnw
  -- a point?
  go_upto_region 15 with fail
  clear hbe
  go_cut [64] from 50 to 64 (fun b w' => w' = wc ∧ b = .bool (ptB s we))
  case first =>
    by_cases h0 : we < s.size
    · by_cases h1 : bt s we = 46
      · have hn' := hide (show ptB s we = true from decide_eq_true ⟨h0, h1⟩)
        have h2 : (bt s we == 46) = true := beq_iff_eq.2 h1
        clear h1
        go_wp2
        go_meet
        case rel => exact ⟨rfl, by rw [hn'.out]⟩
      · have hn' := hide (show ptB s we = false from decide_eq_false fun h => h1 h.2)
        have h2 : (bt s we == 46) = false := beq_eq_false_iff_ne.2 h1
        clear h1
        go_wp2
        go_meet
        case rel => exact ⟨rfl, by rw [hn'.out]⟩
    · have hn' := hide (show ptB s we = false from decide_eq_false fun h => h0 h.1)
      go_wp2
      go_meet
      case rel => exact ⟨rfl, by rw [hn'.out]⟩
  obtain ⟨rfl, rfl⟩ := hcut
  go_upto_if 64 with fail
  go_cut [7, 11, 12] from 54 to 82 (fun i a b w' => w' = wc ∧ ∃ fs fe : Nat, i = .int .i64 fe ∧ a = .int .i64 fs ∧ b = .int .i64 fe ∧ we ≤ fs ∧ fs ≤ fe ∧ fe ≤ s.size ∧ Hid (mp s = Pl.expo s.data.toList (neg0 s) (ws0 s) we fs fe))
  case first =>
    cases hn : ptB s we
    · have hmp1 := hide (hmp.out.trans (if_neg (of_decide_eq_false hn)))
      go_wp2
      go_meet
      case rel => exact ⟨rfl, we, we, rfl, rfl, rfl, Nat.le_refl _, Nat.le_refl _, hwe, hmp1⟩
    · have hlt1 : we < s.size := (of_decide_eq_true hn).1
      have hmp1 := hide (hmp.out.trans (if_pos (of_decide_eq_true hn)))
      clear hmp
      go_upto_block 2 with fail
      go_cut [7] from 65 to 78 (fun i w' => w' = wc ∧ ∃ k : Nat, we + 1 ≤ k ∧ k ≤ s.size ∧ i = .int .i64 k ∧ Hid (scanS s (we + 1) = k))
      case first =>
        go_wp2_with fail
        go_loop [7] (fun i => ∃ k : Nat, we + 1 ≤ k ∧ k ≤ s.size ∧ i = .int .i64 k ∧ Hid (scanS s k = scanS s (we + 1))) (fun i => s.size - (intOf i).toNat)
        case atStart => exact ⟨we + 1, Nat.le_refl _, by omega, by go_num, hide rfl⟩
        case round =>
          obtain ⟨k, hk0, hk, rfl, hsc⟩ := hrel
          by_cases hlt : k < s.size
          · by_cases h1 : 48 ≤ bt s k
            · by_cases h2 : bt s k ≤ 57
              · go_wp2
                go_round
                case rel => exact ⟨k + 1, by omega, by omega, by go_num, (scanS_step hlt h1 h2).trans hsc.out⟩
                case measure => simp [intOf]; omega
              · go_wp2
                go_meet
                case rel => exact ⟨rfl, k, hk0, hk, rfl, hsc.out.symm.trans (scanS_stop hlt (by omega))⟩
            · go_wp2
              go_meet
              case rel => exact ⟨rfl, k, hk0, hk, rfl, hsc.out.symm.trans (scanS_stop hlt (by omega))⟩
          · go_wp2
            go_meet
            case rel => exact ⟨rfl, k, hk0, hk, rfl, hsc.out.symm.trans (scanS_end (by omega))⟩
      obtain ⟨rfl, fe, hfe0, hfe, rfl, hscf⟩ := hcut
      by_cases hnf : fe = we + 1
      · have hbe : ((fe : Int) == (we : Int) + 1) = true := beq_iff_eq.2 (by omega)
        have hmp2 := hide (hmp1.out.trans (if_pos (hscf.out.trans hnf)))
        clear hnf
        go_wp2
        exact bodyPost_ret (v := .tuple #[.bool false, .string ⟨#[]⟩, .int .i64 0, .bool false]) (by simp [results, Tryd.results9, go_sem]) rfl ⟨ret4 hmp2.out, Below.refl _ _⟩
      · have hbe : ((fe : Int) == (we : Int) + 1) = false := beq_eq_false_iff_ne.2 (by omega)
        have hmp2 : Hid (mp s = Pl.expo s.data.toList (neg0 s) (ws0 s) we (we + 1) fe) := hmp1.out.trans (by rw [hscf.out]; exact if_neg hnf)
        clear hnf
        go_wp2
        go_meet
        case rel => exact ⟨rfl, we + 1, fe, rfl, by go_num, rfl, by omega, hfe0, hfe, hmp2⟩
  obtain ⟨rfl, fs, fe, rfl, rfl, rfl, hfs, hfe0, hfe, hmpe⟩ := hcut
  clear hmp hscw
  -- an exponent?
  go_upto_region 24 with fail
  go_cut [97] from 83 to 97 (fun b w' => w' = wc ∧ b = .bool (exB s fe))
  case first =>
    by_cases h0 : fe < s.size
    · by_cases h1 : bt s fe = 101
      · have hn' := hide (show exB s fe = true from decide_eq_true ⟨h0, .inl h1⟩)
        have h2 : (bt s fe == 101) = true := beq_iff_eq.2 h1
        clear h1
        go_wp2
        go_meet
        case rel => exact ⟨rfl, by rw [hn'.out]⟩
      · by_cases h3 : bt s fe = 69
        · have hn' := hide (show exB s fe = true from decide_eq_true ⟨h0, .inr h3⟩)
          have h2 : (bt s fe == 101) = false := beq_eq_false_iff_ne.2 h1
          have h4 : (bt s fe == 69) = true := beq_iff_eq.2 h3
          clear h1 h3
          go_wp2
          go_meet
          case rel => exact ⟨rfl, by rw [hn'.out]⟩
        · have hn' := hide (show exB s fe = false from decide_eq_false fun h => h.2.elim h1 h3)
          have h2 : (bt s fe == 101) = false := beq_eq_false_iff_ne.2 h1
          have h4 : (bt s fe == 69) = false := beq_eq_false_iff_ne.2 h3
          clear h1 h3
          go_wp2
          go_meet
          case rel => exact ⟨rfl, by rw [hn'.out]⟩
    · have hn' := hide (show exB s fe = false from decide_eq_false fun h => h0 h.1)
      go_wp2
      go_meet
      case rel => exact ⟨rfl, by rw [hn'.out]⟩
  obtain ⟨rfl, rfl⟩ := hcut
  go_upto_if 97 with fail
  go_cut [7, 13] from 83 to 164 (fun i ev w' => w' = wc ∧ ∃ (k : Nat) (e : Int), i = .int .i64 k ∧ ev = .int .i64 e ∧ -1000000000 ≤ e ∧ e ≤ 1000000000 ∧ k ≤ s.size ∧ Hid (mp s = tailS s (neg0 s) (ws0 s) we fs fe e k))
  case first =>
    cases hn : exB s fe
    · have hmp1 := hide (hmpe.out.trans (ex_no hn))
      clear hmpe
      go_wp2
      go_meet
      case rel => exact ⟨rfl, fe, 0, rfl, rfl, by omega, by omega, hfe, hmp1⟩
    · have hlt1 : fe < s.size := (of_decide_eq_true hn).1
      have hmp1 := hide (hmpe.out.trans (ex_yes hn))
      clear hmpe
      obtain ⟨hes0, hes⟩ := es0_le (s := s) (i := fe + 1) (by omega)
      go_upto_region 27 with fail
      go_cut [114] from 98 to 114 (fun b w' => w' = wc ∧ b = .bool (sgB s (fe + 1)))
      case first =>
        by_cases h0 : fe + 1 < s.size
        · by_cases h1 : bt s (fe + 1) = 43
          · have hn' := hide (show sgB s (fe + 1) = true from decide_eq_true ⟨h0, .inl h1⟩)
            have h2 : (bt s (fe + 1) == 43) = true := beq_iff_eq.2 h1
            clear h1
            go_wp2
            go_meet
            case rel => exact ⟨rfl, by rw [hn'.out]⟩
          · by_cases h3 : bt s (fe + 1) = 45
            · have hn' := hide (show sgB s (fe + 1) = true from decide_eq_true ⟨h0, .inr h3⟩)
              have h2 : (bt s (fe + 1) == 43) = false := beq_eq_false_iff_ne.2 h1
              have h4 : (bt s (fe + 1) == 45) = true := beq_iff_eq.2 h3
              clear h1 h3
              go_wp2
              go_meet
              case rel => exact ⟨rfl, by rw [hn'.out]⟩
            · have hn' := hide (show sgB s (fe + 1) = false from decide_eq_false fun h => h.2.elim h1 h3)
              have h2 : (bt s (fe + 1) == 43) = false := beq_eq_false_iff_ne.2 h1
              have h4 : (bt s (fe + 1) == 45) = false := beq_eq_false_iff_ne.2 h3
              clear h1 h3
              go_wp2
              go_meet
              case rel => exact ⟨rfl, by rw [hn'.out]⟩
        · have hn' := hide (show sgB s (fe + 1) = false from decide_eq_false fun h => h0 h.1)
          go_wp2
          go_meet
          case rel => exact ⟨rfl, by rw [hn'.out]⟩
      obtain ⟨rfl, rfl⟩ := hcut
      go_upto_if 114 with fail
      go_cut [7, 14] from 98 to 120 (fun i b w' => w' = wc ∧ i = .int .i64 ((es0 s (fe + 1) : Nat) : Int) ∧ b = .bool (mnB s (fe + 1)))
      case first =>
        cases hsg : sgB s (fe + 1)
        · have hes' := hide (show es0 s (fe + 1) = fe + 1 by unfold es0; rw [hsg]; rfl)
          have hm' := hide (show mnB s (fe + 1) = false from decide_eq_false fun h => of_decide_eq_false hsg ⟨h.1, .inr h.2⟩)
          go_wp2
          go_meet
          case rel => exact ⟨rfl, by rw [hes'.out]; go_num, by rw [hm'.out]⟩
        · have hes' := hide (show es0 s (fe + 1) = fe + 1 + 1 by unfold es0; rw [hsg]; rfl)
          have hlt2 : fe + 1 < s.size := (of_decide_eq_true hsg).1
          have hm' := hide (show mnB s (fe + 1) = (bt s (fe + 1) == 45) by
            unfold mnB; rw [Bool.eq_iff_iff, decide_eq_true_eq, beq_iff_eq]; exact ⟨fun h => h.2, fun h => ⟨hlt2, h⟩⟩)
          go_wp2
          go_meet
          case rel => exact ⟨rfl, by rw [hes'.out]; go_num, by rw [hm'.out]⟩
      obtain ⟨rfl, rfl, rfl⟩ := hcut
      generalize hesE : es0 s (fe + 1) = es at *
      have hesH := hide hesE
      clear hesE
      generalize hmnE : mnB s (fe + 1) = mn at *
      have hmnH := hide hmnE
      clear hmnE
      go_upto_block 4 with fail
      go_cut [7] from 121 to 132 (fun i w' => w' = wc ∧ ∃ k : Nat, es ≤ k ∧ k ≤ s.size ∧ i = .int .i64 k ∧ Hid (scanS s es = k))
      case first =>
        go_wp2_with fail
        go_loop [7] (fun i => ∃ k : Nat, es ≤ k ∧ k ≤ s.size ∧ i = .int .i64 k ∧ Hid (scanS s k = scanS s es)) (fun i => s.size - (intOf i).toNat)
        case atStart => exact ⟨es, Nat.le_refl _, hes, rfl, hide rfl⟩
        case round =>
          obtain ⟨k, hk0, hk, rfl, hsc⟩ := hrel
          by_cases hlt : k < s.size
          · by_cases h1 : 48 ≤ bt s k
            · by_cases h2 : bt s k ≤ 57
              · go_wp2
                go_round
                case rel => exact ⟨k + 1, by omega, by omega, by go_num, (scanS_step hlt h1 h2).trans hsc.out⟩
                case measure => simp [intOf]; omega
              · go_wp2
                go_meet
                case rel => exact ⟨rfl, k, hk0, hk, rfl, hsc.out.symm.trans (scanS_stop hlt (by omega))⟩
            · go_wp2
              go_meet
              case rel => exact ⟨rfl, k, hk0, hk, rfl, hsc.out.symm.trans (scanS_stop hlt (by omega))⟩
          · go_wp2
            go_meet
            case rel => exact ⟨rfl, k, hk0, hk, rfl, hsc.out.symm.trans (scanS_end (by omega))⟩
      obtain ⟨rfl, ee, hee0, hee, rfl, hsce⟩ := hcut
      by_cases hne : ee = es
      · have hbe : ((ee : Int) == (es : Int)) = true := beq_iff_eq.2 (by omega)
        have hmp2 : Hid (mp s = Pl.bad) := hmp1.out.trans (if_pos (hsce.out.trans hne))
        clear hne
        go_wp2
        exact bodyPost_ret (v := .tuple #[.bool false, .string ⟨#[]⟩, .int .i64 0, .bool false]) (by simp [results, Tryd.results9, go_sem]) rfl ⟨ret4 hmp2.out, Below.refl _ _⟩
      have hbe : ((ee : Int) == (es : Int)) = false := beq_eq_false_iff_ne.2 (by omega)
      have hdg := hide (show ∀ k, es ≤ k → k < ee → 48 ≤ bt s k ∧ bt s k ≤ 57 from fun k h1 h2 => scanS_dig h1 (by rw [hsce.out]; exact h2))
      have hmp2 : Hid (mp s = match sigS s (ee - es) es 0 0 with
          | none => Pl.bad
          | some e => tailS s (neg0 s) (ws0 s) we fs fe (if mn then -e else e) ee) := hmp1.out.trans (by rw [hsce.out]; exact if_neg hne)
      clear hne hmp1
      go_upto_block 6 with fail
      clear hbe
      go_cut [13] from 133 to 161 (fun ev w' => w' = wc ∧ ∃ e : Int, ev = .int .i64 e ∧ 0 ≤ e ∧ e ≤ 1000000000 ∧ Hid (mp s = tailS s (neg0 s) (ws0 s) we fs fe (if mn then -e else e) ee))
      case first =>
        go_wp2_with fail
        go_loop [13, 16, 17] (fun ev sg kk => ∃ (n k : Nat) (e : Int), es ≤ k ∧ k ≤ ee ∧ n ≤ 9 ∧ 0 ≤ e ∧ e ≤ 1000000000 ∧ ev = .int .i64 e ∧ sg = .int .i64 n ∧ kk = .int .i64 k ∧ Hid (e < 10 ^ n) ∧ Hid (sigS s (ee - k) k n e = sigS s (ee - es) es 0 0)) (fun _ _ kk => ee - (intOf kk).toNat)
        case atStart => exact ⟨0, es, 0, Nat.le_refl _, hee0, by omega, by omega, by omega, rfl, rfl, rfl, hide (by decide), hide rfl⟩
        case round =>
          obtain ⟨n, k, e, hk0, hk, hn9, he0, he, rfl, rfl, rfl, hpw, hsg⟩ := hrel
          by_cases hlt : k < ee
          · obtain ⟨hd0, hd1⟩ := hdg.out k hk0 hlt
            have hm1 : ee - k = (ee - (k + 1)) + 1 := by omega
            have hM := hide hm1
            clear hm1
            by_cases hz : n = 0 ∧ bt s k = 48
            · have q1 : ((n : Int) == 0) = true := beq_iff_eq.2 (by omega)
              have q2 : (bt s k == 48) = true := beq_iff_eq.2 hz.2
              have hsg' : Hid (sigS s (ee - (k + 1)) (k + 1) n e = sigS s (ee - es) es 0 0) := by
                rw [← hsg.out, hM.out, sigS_skip (by omega) hz.2]; exact rfl
              clear hz
              go_wp2
              go_round
              case rel => exact ⟨n, k + 1, e, by omega, by omega, hn9, he0, he, rfl, rfl, by go_num, hpw, hsg'⟩
              case measure => simp [intOf]; omega
            · have hz' : ¬ ((n : Int) = 0 ∧ bt s k = 48) := fun h => hz ⟨by omega, h.2⟩
              by_cases h9 : n = 9
              · have hsg' : Hid (mp s = Pl.bad) := hmp2.out.trans (by rw [← hsg.out, hM.out, sigS_none hz' (by omega)])
                have q1 : ((n : Int) == 0) = false := beq_eq_false_iff_ne.2 (by omega)
                have h9' : 9 ≤ n := by omega
                clear hz hz' h9
                go_wp2
                exact bodyPost_ret (v := .tuple #[.bool false, .string ⟨#[]⟩, .int .i64 0, .bool false]) (by simp [results, Tryd.results9, go_sem]) rfl ⟨ret4 hsg'.out, Below.refl _ _⟩
              · have hsp := sig_pow he0 hpw.out (show (0 : Int) ≤ bt s k - 48 by omega) (show bt s k - 48 ≤ 9 by omega)
                have hp9 := pow_le9 (n := n + 1) (by omega)
                have hb1 : e * 10 + (bt s k - 48) ≤ 1000000000 := by omega
                have hb0 : 0 ≤ e * 10 + (bt s k - 48) := hsp.1
                have hpw' := hide hsp.2
                have hsg' : Hid (sigS s (ee - (k + 1)) (k + 1) ((n + 1 : Nat) : Int) (e * 10 + (bt s k - 48)) = sigS s (ee - es) es 0 0) := by
                  rw [← hsg.out, hM.out, sigS_take hz' (by omega)]; exact rfl
                clear hsp hp9 hsg hpw
                by_cases hn0 : n = 0
                · have q1 : ((n : Int) == 0) = true := beq_iff_eq.2 (by omega)
                  have q2 : (bt s k == 48) = false := beq_eq_false_iff_ne.2 fun h => hz ⟨hn0, h⟩
                  clear hz hz' hn0
                  go_wp2
                  go_round
                  case rel => exact ⟨n + 1, k + 1, e * 10 + (bt s k - 48), by omega, by omega, by omega, hb0, hb1, by go_num, by go_num, by go_num, hpw', hsg'⟩
                  case measure => simp [intOf]; omega
                · have q1 : ((n : Int) == 0) = false := beq_eq_false_iff_ne.2 (by omega)
                  clear hz hz' hn0
                  go_wp2
                  go_round
                  case rel => exact ⟨n + 1, k + 1, e * 10 + (bt s k - 48), by omega, by omega, by omega, hb0, hb1, by go_num, by go_num, by go_num, hpw', hsg'⟩
                  case measure => simp [intOf]; omega
          · have hend : Hid (mp s = tailS s (neg0 s) (ws0 s) we fs fe (if mn then -e else e) ee) := hmp2.out.trans (by
              rw [← hsg.out, show ee - k = 0 by omega]; rfl)
            go_wp2
            go_meet
            case rel => exact ⟨rfl, e, rfl, he0, he, hend⟩
      obtain ⟨rfl, e, rfl, he0, he, hmp3⟩ := hcut
      clear hmp2
      cases mn
      · go_wp2
        go_meet
        case rel => exact ⟨rfl, ee, e, rfl, rfl, by omega, by omega, hee, hmp3⟩
      · go_wp2
        go_meet
        case rel => exact ⟨rfl, ee, -e, rfl, rfl, by omega, by omega, hee, hmp3⟩
  obtain ⟨rfl, i, e, rfl, rfl, he1, he2, hik, hmpt⟩ := hcut
  clear hmpe
  by_cases hin : i = s.size
  case neg =>
    have hbe : ((i : Int) != (s.size : Int)) = true := by rw [bne_iff_ne]; omega
    have hmp2 := hide (hmpt.out.trans (tail_no hin))
    clear hin
    go_wp2
    exact bodyPost_ret (v := .tuple #[.bool false, .string ⟨#[]⟩, .int .i64 0, .bool false]) (by simp [results, Tryd.results9, go_sem]) rfl ⟨ret4 hmp2.out, Below.refl _ _⟩
  have hbe : ((i : Int) != (s.size : Int)) = false := by rw [bne_eq_false_iff_eq]; omega
  have hinH := hide hin
  clear hin
  -- the first and the last digit that is no zero: before the point
  go_upto_block 8 with fail
  clear hbe
  go_cut [18, 19] from 165 to 181 (fun fv tv w' => w' = wc ∧ ∃ f t : Int, fv = .int .i64 f ∧ tv = .int .i64 t ∧ -1 ≤ f ∧ f ≤ t ∧ t < we ∧ Hid (nzS s (we - ws0 s) (ws0 s) (-1) (-1) = (f, t)))
  case first =>
    go_wp2_with fail
    go_loop [18, 19, 20] (fun fv tv kv => ∃ (f t : Int) (k : Nat), fv = .int .i64 f ∧ tv = .int .i64 t ∧ kv = .int .i64 k ∧ ws0 s ≤ k ∧ k ≤ we ∧ -1 ≤ f ∧ f ≤ t ∧ t < k ∧ Hid (nzS s (we - k) k f t = nzS s (we - ws0 s) (ws0 s) (-1) (-1))) (fun _ _ kv => we - (intOf kv).toNat)
    case atStart => exact ⟨-1, -1, ws0 s, rfl, rfl, rfl, Nat.le_refl _, hwe0, by omega, by omega, by omega, hide rfl⟩
    case round =>
      obtain ⟨f, t, k, rfl, rfl, rfl, hk0, hk, hf0, hft, htk, hnz⟩ := hrel
      by_cases hlt : k < we
      · have hks : k < s.size := by omega
        have hM := hide (show we - k = (we - (k + 1)) + 1 by omega)
        by_cases hz : bt s k = 48
        · have q1 : (bt s k != 48) = false := by rw [bne_eq_false_iff_eq]; exact hz
          have hnz' : Hid (nzS s (we - (k + 1)) (k + 1) f t = nzS s (we - ws0 s) (ws0 s) (-1) (-1)) := by
            rw [← hnz.out, hM.out, nzS_zero hz]; exact rfl
          clear hz hnz
          go_wp2
          go_round
          case rel => exact ⟨f, t, k + 1, rfl, rfl, by go_num, by omega, by omega, hf0, hft, by omega, hnz'⟩
          case measure => simp [intOf]; omega
        · have q1 : (bt s k != 48) = true := by rw [bne_iff_ne]; exact hz
          by_cases hf : f < 0
          · have hnz' : Hid (nzS s (we - (k + 1)) (k + 1) k k = nzS s (we - ws0 s) (ws0 s) (-1) (-1)) := by
              rw [← hnz.out, hM.out, nzS_one hz, if_pos hf]; exact rfl
            clear hz hnz
            go_wp2
            go_round
            case rel => exact ⟨k, k, k + 1, rfl, rfl, by go_num, by omega, by omega, by omega, by omega, by omega, hnz'⟩
            case measure => simp [intOf]; omega
          · have hnz' : Hid (nzS s (we - (k + 1)) (k + 1) f k = nzS s (we - ws0 s) (ws0 s) (-1) (-1)) := by
              rw [← hnz.out, hM.out, nzS_one hz, if_neg hf]; exact rfl
            clear hz hnz
            go_wp2
            go_round
            case rel => exact ⟨f, k, k + 1, rfl, rfl, by go_num, by omega, by omega, hf0, by omega, by omega, hnz'⟩
            case measure => simp [intOf]; omega
      · have hnz' : Hid (nzS s (we - ws0 s) (ws0 s) (-1) (-1) = (f, t)) := by
          rw [← hnz.out, show we - k = 0 by omega]; exact rfl
        go_wp2
        go_meet
        case rel => exact ⟨rfl, f, t, rfl, rfl, hf0, hft, by omega, hnz'⟩
  obtain ⟨rfl, f1, t1, rfl, rfl, hf1, hft1, htw, hnz1⟩ := hcut
  -- .. and behind the point
  go_upto_block 10 with fail
  go_cut [18, 19] from 182 to 195 (fun fv tv w' => w' = wc ∧ ∃ f t : Int, fv = .int .i64 f ∧ tv = .int .i64 t ∧ -1 ≤ f ∧ f ≤ t ∧ t < fe ∧ Hid (nzS s (fe - fs) fs f1 t1 = (f, t)))
  case first =>
    go_wp2_with fail
    go_loop [18, 19, 21] (fun fv tv kv => ∃ (f t : Int) (k : Nat), fv = .int .i64 f ∧ tv = .int .i64 t ∧ kv = .int .i64 k ∧ fs ≤ k ∧ k ≤ fe ∧ -1 ≤ f ∧ f ≤ t ∧ t < k ∧ Hid (nzS s (fe - k) k f t = nzS s (fe - fs) fs f1 t1)) (fun _ _ kv => fe - (intOf kv).toNat)
    case atStart => exact ⟨f1, t1, fs, rfl, rfl, rfl, Nat.le_refl _, hfe0, hf1, hft1, by omega, hide rfl⟩
    case round =>
      obtain ⟨f, t, k, rfl, rfl, rfl, hk0, hk, hf0, hft, htk, hnz⟩ := hrel
      by_cases hlt : k < fe
      · have hks : k < s.size := by omega
        have hM := hide (show fe - k = (fe - (k + 1)) + 1 by omega)
        by_cases hz : bt s k = 48
        · have q1 : (bt s k != 48) = false := by rw [bne_eq_false_iff_eq]; exact hz
          have hnz' : Hid (nzS s (fe - (k + 1)) (k + 1) f t = nzS s (fe - fs) fs f1 t1) := by
            rw [← hnz.out, hM.out, nzS_zero hz]; exact rfl
          clear hz hnz
          go_wp2
          go_round
          case rel => exact ⟨f, t, k + 1, rfl, rfl, by go_num, by omega, by omega, hf0, hft, by omega, hnz'⟩
          case measure => simp [intOf]; omega
        · have q1 : (bt s k != 48) = true := by rw [bne_iff_ne]; exact hz
          by_cases hf : f < 0
          · have hnz' : Hid (nzS s (fe - (k + 1)) (k + 1) k k = nzS s (fe - fs) fs f1 t1) := by
              rw [← hnz.out, hM.out, nzS_one hz, if_pos hf]; exact rfl
            clear hz hnz
            go_wp2
            go_round
            case rel => exact ⟨k, k, k + 1, rfl, rfl, by go_num, by omega, by omega, by omega, by omega, by omega, hnz'⟩
            case measure => simp [intOf]; omega
          · have hnz' : Hid (nzS s (fe - (k + 1)) (k + 1) f k = nzS s (fe - fs) fs f1 t1) := by
              rw [← hnz.out, hM.out, nzS_one hz, if_neg hf]; exact rfl
            clear hz hnz
            go_wp2
            go_round
            case rel => exact ⟨f, k, k + 1, rfl, rfl, by go_num, by omega, by omega, hf0, by omega, by omega, hnz'⟩
            case measure => simp [intOf]; omega
      · have hnz' : Hid (nzS s (fe - fs) fs f1 t1 = (f, t)) := by
          rw [← hnz.out, show fe - k = 0 by omega]; exact rfl
        go_wp2
        go_meet
        case rel => exact ⟨rfl, f, t, rfl, rfl, hf0, hft, by omega, hnz'⟩
  obtain ⟨rfl, f, t, rfl, rfl, hf0, hft, htf, hnz2⟩ := hcut
  have hmp4 := hide (hmpt.out.trans (tail_yes hinH.out hnz1.out hnz2.out))
  clear hmpt hnz1 hnz2
  by_cases hneg : f < 0
  · have hmp5 := hide (hmp4.out.trans (if_pos hneg))
    go_wp2
    exact bodyPost_ret (v := .tuple #[.bool false, .string ⟨#[]⟩, .int .i64 0, .bool true]) (by simp [results, Tryd.results9, go_sem]) rfl ⟨ret4 hmp5.out, Below.refl _ _⟩
  have hmp5 := hide (hmp4.out.trans (if_neg hneg))
  clear hmp4
  obtain ⟨fn, rfl⟩ := Int.eq_ofNat_of_zero_le (show 0 ≤ f by omega)
  obtain ⟨tn, rfl⟩ := Int.eq_ofNat_of_zero_le (show 0 ≤ t by omega)
  obtain ⟨i0, hi, hz0, hz1, hz2⟩ := info_parts Tryd.info5
  have hsz : tn < s.size := by omega
  go_wp2_with (at_make; refine wpList_make_own _ rfl _ _ 32 rfl wc.heap.size 5 i0 (.int .u8 0) 1 Tryd.underlying32 hi hz0 hz1 _ _ _ (tn - fn + 1) rfl rfl (by omega) (by rw [hz2]; omega) (by unfold maxLen; omega) (Nat.le_refl _) ?_; intro w1 hown hgrow)
  have hbel1 : Below wc.heap.size wc w1 := (Below.refl _ _).grown hgrow (Nat.le_refl _) (fun k hk => by cases hk)
  clear hgrow
  go_loopw [22, 23] (fun v kv wr => ∃ (k : Nat) (bs : List UInt8), kv = .int .i64 k ∧ fn ≤ k ∧ k ≤ tn + 1 ∧ bs.length ≤ k - fn ∧ wr.ownsRow wc.heap.size 5 1 v bs.length (bs.map fun c => Value.int .u8 c.toNat) ∧ Below wc.heap.size wc wr ∧ Hid (bs ++ bufS s (tn + 1 - k) k = bufS s (tn + 1 - fn) fn)) (fun _ kv _ => tn + 1 - (intOf kv).toNat)
  case atStart => exact ⟨fn, [], rfl, Nat.le_refl _, by omega, by simp, by simpa using hown, hbel1, hide rfl⟩
  case round =>
    obtain ⟨k, bs, rfl, hk0, hk, hbl, hownr, hbelr, hbf⟩ := hrel
    by_cases hlt : k ≤ tn
    · have hks : k < s.size := by omega
      have hM := hide (show tn + 1 - k = (tn + 1 - (k + 1)) + 1 by omega)
      by_cases hz : bt s k = 46
      · have q1 : (bt s k != 46) = false := by rw [bne_eq_false_iff_eq]; exact hz
        have hbf' : Hid (bs ++ bufS s (tn + 1 - (k + 1)) (k + 1) = bufS s (tn + 1 - fn) fn) := by
          rw [← hbf.out, hM.out, bufS_dot hz]; exact hide rfl
        clear hz hbf
        go_wp2
        go_roundw
        case rel => exact ⟨k + 1, bs, by go_num, by omega, by omega, by omega, hownr, hbelr, hbf'⟩
        case measure => simp [intOf]; omega
      · have q1 : (bt s k != 46) = true := by rw [bne_iff_ne]; exact hz
        have hbf' : Hid (bs ++ [s.data.toList.getD k 0] ++ bufS s (tn + 1 - (k + 1)) (k + 1) = bufS s (tn + 1 - fn) fn) := by
          rw [← hbf.out, hM.out, bufS_take hz]; exact hide (by simp)
        clear hz hbf
        go_wp2_with (at_builtin; refine wpList_append_own _ rfl _ _ 32 rfl wc.heap.size 5 i0 (.int .u8 0) 1 1 Tryd.underlying32 hi hz0 hz1 hz2 rfl (by decide) _ _ _ rfl (hownr.alloc _) ⟨wr.heap.size, 0, none⟩ 1 1 [.int .u8 (bt s k)] rfl rfl ?c1 ?c2 ?c3 ?c4 ?c5 ?_)
        case c1 =>
          intro j u hj
          match j, hj with
          | 0, hj => simp at hj; subst hj; simp [Addr.add]
        case c2 => intro u hu; simp at hu; subst hu; rfl
        case c3 => unfold maxLen; omega
        case c4 => omega
        case c5 => have := hbelr.size; simp; omega
        intro v' w2 hown2 hgrow2 _
        have hown3 := own_snoc hown2
        have hbel2 : Below wc.heap.size wc w2 := (hbelr.alloc hbelr.size _).grown hgrow2 (by have := hbelr.size; simp; omega) (own_block hownr)
        clear hown2 hgrow2 hownr hbelr
        go_wp2
        go_roundw
        case rel => exact ⟨k + 1, bs ++ [s.data.toList.getD k 0], by go_num, by omega, by omega, by simp; omega, hown3, hbel2, hbf'⟩
        case measure => simp [intOf]; omega
    · have hbs : Hid (bufS s ((tn : Int) - fn + 1).toNat ((fn : Int)).toNat = bs) := by
        have h1 := hbf.out
        rw [show tn + 1 - k = 0 by omega] at h1
        have h2 : bufS s 0 k = [] := rfl
        rw [h2, List.append_nil] at h1
        rw [h1]
        exact (by congr 1; omega)
      have hconv : ∀ m, (convert 32 9 u22).run Tryd.prog (wr.drewN m) = .ok (.string ⟨bs.toArray⟩) (wr.drewN m) := fun m => conv_own (own_drewN hownr m)
      by_cases hlw : tn < we
      · have hfin : Hid (mp s = (neg0 s, bs, (we : Int) - 1 - tn + e, true)) := hmp5.out.trans (by rw [hbs.out, if_pos (by omega)])
        clear hmp5 hbf hbs
        go_wp2
        go_quiet (fail)
        go_wp2
        exact bodyPost_ret (v := .tuple #[.bool (neg0 s), .string ⟨bs.toArray⟩, .int .i64 ((we : Int) - 1 - tn + e), .bool true]) (by simp [results, Tryd.results9, go_sem]) rfl ⟨ret4 hfin.out, below_drewN hbelr _⟩
      · have hfin : Hid (mp s = (neg0 s, bs, e - ((tn : Int) - fs + 1), true)) := hmp5.out.trans (by rw [hbs.out, if_neg (by omega)])
        clear hmp5 hbf hbs
        go_wp2
        go_quiet (fail)
        go_wp2
        exact bodyPost_ret (v := .tuple #[.bool (neg0 s), .string ⟨bs.toArray⟩, .int .i64 (e - ((tn : Int) - fs + 1)), .bool true]) (by simp [results, Tryd.results9, go_sem]) rfl ⟨ret4 hfin.out, below_drewN hbelr _⟩
end Go.Proofs.Qxb6606095aDoor
