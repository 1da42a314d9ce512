/-
  WALK: readFloat of internal/strconv at a decimal number.
-/
import Derived.Test.Qxb6606304aDoorSpec
import Derived.WalkMore
namespace Go.Proofs.Qxb6606304aDoor
open Go.RowKit Go.PlainAid
set_option linter.unusedSimpArgs false

/-- The digits of a number as it is read: Mf j their value, Sf j their count behind the leading zeros, both of the first j. -/
structure Digs (Dv : Nat → Int) (Mf Sf : Nat → Nat) (tot : Nat) : Prop where
  m0 : Mf 0 = 0
  s0 : Sf 0 = 0
  z : ∀ j, j ≤ tot → Sf j = 0 → Mf j = 0
  d : ∀ j, j < tot → 48 ≤ Dv j ∧ Dv j ≤ 57
  m : ∀ j, j < tot → ((Mf (j + 1) : Nat) : Int) = (Mf j : Int) * 10 + (Dv j - 48)
  s : ∀ j, j < tot → Sf (j + 1) = if Sf j = 0 ∧ Dv j = 48 then 0 else Sf j + 1
  mb : ∀ j, j ≤ tot → Mf j ≤ 9007199254740992
  sb : ∀ j, j ≤ tot → Sf j ≤ 16

/-- The exponent as it is read: none, or 'e', a sign, digits; ev its value. -/
structure Exps (s : ByteArray) (q pe ne n : Nat) (eneg : Bool) (Ev : Nat → Int) (Xf : Nat → Nat) : Prop where
  e : q < n ∧ (bt s q = 101 ∨ bt s q = 69)
  sg : (pe = q + 1 ∧ eneg = false ∧ bt s (q + 1) ≠ 43 ∧ bt s (q + 1) ≠ 45) ∨ (pe = q + 2 ∧ eneg = false ∧ bt s (q + 1) = 43) ∨ (pe = q + 2 ∧ eneg = true ∧ bt s (q + 1) = 45)
  len : pe + ne = n ∧ 0 < ne
  d : ∀ k, k < ne → bt s (pe + k) = Ev k ∧ 48 ≤ Ev k ∧ Ev k ≤ 57
  x0 : Xf 0 = 0
  x : ∀ k, k < ne → ((Xf (k + 1) : Nat) : Int) = (Xf k : Int) * 10 + (Ev k - 48) ∧ Xf k < 10000
  xb : Xf ne ≤ 99999

theorem lower_e : bits .or .u8 101 32 = 101 ∧ bits .or .u8 69 32 = 101 := by decide

set_option maxRecDepth 100000 in
set_option maxHeartbeats 4000000 in
theorem readFloat_any (s : ByteArray) (w : World) (n ps na nf q : Nat) (neg dot : Bool) (Dv : Nat → Int) (Mf Sf : Nat → Nat) (pe ne : Nat) (eneg : Bool) (Ev : Nat → Int) (Xf : Nat → Nat) (ev : Int)
    (hn : s.size = n) (hm : n ≤ 1048576) (hsg : (ps = 0 ∧ neg = false ∧ bt s 0 ≠ 43 ∧ bt s 0 ≠ 45) ∨ (ps = 1 ∧ neg = false ∧ bt s 0 = 43) ∨ (ps = 1 ∧ neg = true ∧ bt s 0 = 45))
    (hhex : ps + 1 < n → (bits .or .u8 (bt s (ps + 1)) 32 == 120) = false) (htot : 0 < na + nf) (hnf : nf ≤ 1048576) (hdot : dot = false → nf = 0) (hq : q = ps + na + (if dot then 1 + nf else 0)) (hqn : q ≤ n)
    (hA : ∀ j, j < na → bt s (ps + j) = Dv j) (hP : dot = true → bt s (ps + na) = 46) (hB : ∀ j, na ≤ j → j < na + nf → bt s (ps + 1 + j) = Dv j) (hD : Digs Dv Mf Sf (na + nf))
    (hX : (q = n ∧ ev = 0) ∨ (Exps s q pe ne n eneg Ev Xf ∧ ev = if eneg then -(Xf ne : Int) else (Xf ne : Int))) :
    Calls Tryd.prog 44 #[.string s] w fun e w' => e = .returned (.tuple #[.int .u64 (Mf (na + nf)), .int .i64 (if Mf (na + nf) = 0 then 0 else ev - nf), .bool neg, .bool false, .bool false, .int .i64 n, .bool true]) ∧ w' = w := by
  have hend : q = n ∨ (q < n ∧ (bt s q = 101 ∨ bt s q = 69)) := by
    rcases hX with ⟨h, _⟩ | ⟨h, _⟩
    · exact .inl h
    · exact .inr h.e
  have hXH := hide hX
  clear hX
  obtain ⟨Mt, hMtE⟩ : ∃ x, Mf (na + nf) = x := ⟨_, rfl⟩
  obtain ⟨St, hStE⟩ : ∃ x, Sf (na + nf) = x := ⟨_, rfl⟩
  rw [hMtE]
  have hMtH := hide hMtE
  have hStH := hide hStE
  clear hMtE hStE
  have hb := get_bt s
  have hAH := hide hA
  have hPH := hide hP
  have hBH := hide hB
  have hDH := hide hD
  have hqH := hide hq
  have hendH := hide hend
  have hhexH := hide hhex
  clear hA hP hB hD hq hend hhex
  have hn0 : 0 < n := by have := hqH.out; cases dot <;> simp at * <;> omega
  have hps : ps ≤ 1 := by rcases hsg with ⟨h, _⟩ | ⟨h, _⟩ | ⟨h, _⟩ <;> omega
  have hnz : decide (n = 0) = false := decide_eq_false (by omega)
  go_enter Tryd.func44, Tryd.ntmps44
  go_wp2_with fail
  go_step3
  go_upto_block 0 with fail
  go_cut [4, 7] from 28 to 35 (fun v4 v7 w' => v4 = .bool neg ∧ v7 = .int .i64 ps ∧ w' = w)
  case first =>
    rcases hsg with ⟨rfl, rfl, h1, h2⟩ | ⟨rfl, rfl, h1⟩ | ⟨rfl, rfl, h1⟩
    · have q1 : (bt s 0 == 43) = false := beq_eq_false_iff_ne.2 h1
      have q2 : (bt s 0 == 45) = false := beq_eq_false_iff_ne.2 h2
      go_wp2
      go_meet
      case rel => exact ⟨rfl, rfl, rfl⟩
    · go_wp2
      go_meet
      case rel => exact ⟨rfl, rfl, rfl⟩
    · go_wp2
      go_meet
      case rel => exact ⟨rfl, rfl, rfl⟩
  obtain ⟨rfl, rfl, rfl⟩ := hcut
  clear hsg
  go_upto_region 12 with fail
  go_cut [54] from 36 to 53 (fun v w' => v = .bool false ∧ w' = wc)
  case first =>
    by_cases h2 : ps + 2 < n
    · by_cases h48 : bt s ps = 48
      · have hx := hhexH.out (by omega)
        have hlo := hide (Tryd.internal_strconv_lower (bt s (ps + 1)) wc)
        obtain ⟨c1, hc1⟩ : ∃ c1, bt s (ps + 1) = c1 := ⟨_, rfl⟩
        rw [hc1] at hx hlo
        go_wp2_with (go_at_call 33; (with_reducible refine (hlo.out).mono ?_); rintro e w1 ⟨rfl, hw1⟩; rw [hw1]; clear hw1 w1)
        go_meet
        case rel => exact ⟨rfl, rfl⟩
      · have hx : (bt s ps == 48) = false := beq_eq_false_iff_ne.2 h48
        go_wp2_with fail
        go_meet
        case rel => exact ⟨rfl, rfl⟩
    · have h2' : ¬ ((ps : Int) + 2 < (n : Int)) := by omega
      go_wp2_with fail
      go_meet
      case rel => exact ⟨rfl, rfl⟩
  obtain ⟨rfl, rfl⟩ := hcut
  clear hhexH
  go_wp2_with fail
  go_step3
  go_upto_block 1 with fail
  go_cut [2, 5, 7, 9, 13, 14, 15, 16, 17] from 57 to 138 (fun v2 v5 v7 v9 v13 v14 v15 v16 v17 w' => ∃ dp : Int, v2 = .int .u64 Mt ∧ v5 = .bool false ∧ v7 = .int .i64 q ∧ v9 = .bool false ∧ v13 = .bool dot ∧ v14 = .bool true ∧ v15 = .int .i64 St ∧ v16 = .int .i64 St ∧ v17 = .int .i64 dp ∧ Hid (dot = true → dp = (St : Int) - nf) ∧ -2000000 ≤ dp ∧ dp ≤ 2000000 ∧ w' = wc)
  case first =>
    go_wp2_with fail
    go_loop [2, 5, 7, 9, 13, 14, 15, 16, 17] (fun v2 v5 v7 v9 v13 v14 v15 v16 v17 => ∃ (j pos : Nat) (sd sw : Bool) (dp : Int), v2 = .int .u64 (Mf j) ∧ v5 = .bool false ∧ v7 = .int .i64 pos ∧ v9 = .bool false ∧ v13 = .bool sd ∧ v14 = .bool sw ∧ v15 = .int .i64 (Sf j) ∧ v16 = .int .i64 (Sf j) ∧ v17 = .int .i64 dp ∧ Hid (sw = decide (0 < j)) ∧ Hid (j ≤ na + nf) ∧ pos ≤ n ∧ Hid ((sd = false ∧ pos = ps + j ∧ j ≤ na ∧ -(j : Int) ≤ dp ∧ dp ≤ 0) ∨ (sd = true ∧ pos = ps + 1 + j ∧ dot = true ∧ na ≤ j ∧ dp = (Sf j : Int) - ((j : Int) - na)))) (fun _ _ v7 _ _ _ _ _ _ => n - (intOf v7).toNat)
    case atStart => exact ⟨0, ps, false, false, 0, by rw [hDH.out.m0]; rfl, rfl, rfl, rfl, rfl, rfl, by rw [hDH.out.s0]; rfl, by rw [hDH.out.s0]; rfl, rfl, hide rfl, hide (by omega), by omega, hide (.inl ⟨rfl, rfl, by omega, by omega, by omega⟩)⟩
    case round =>
      obtain ⟨j, pos, sd, sw, dp, rfl, rfl, rfl, rfl, rfl, rfl, rfl, rfl, rfl, hsw, hj, hpn, hph⟩ := hrel
      have hMb := hDH.out.mb j hj.out
      have hSb := hDH.out.sb j hj.out
      have hdpb : -2000000 ≤ dp ∧ dp ≤ 2000000 := by
        rcases hph.out with ⟨_, h⟩ | ⟨_, h⟩ <;> omega
      obtain ⟨hdp1, hdp2⟩ := hdpb
      by_cases hdg : j < na ∨ (sd = true ∧ j < na + nf)
      · -- a digit
        have hjt : j < na + nf := by omega
        obtain ⟨y, hy⟩ : ∃ y, Dv j = y := ⟨_, rfl⟩
        have hc : bt s pos = y := by
          rw [← hy]
          rcases hph.out with ⟨h1, h2, h3, _⟩ | ⟨h1, h2, h3, h4, _⟩
          · rw [h2]
            refine hAH.out j ?_
            rcases hdg with h | ⟨h, _⟩
            · exact h
            · rw [h1] at h; cases h
          · rw [h2]; exact hBH.out j h4 hjt
        have hpn2 : pos < n := by
          have := hqH.out
          rcases hph.out with ⟨h1, h2, h3, _⟩ | ⟨h1, h2, h3, h4, _⟩
          · rcases hdg with h | ⟨h, _⟩
            · cases dot <;> simp at this <;> omega
            · rw [h1] at h; cases h
          · rw [h3] at this; simp at this; omega
        obtain ⟨hd1, hd2⟩ := hDH.out.d j hjt
        have hms := hide (hDH.out.m j hjt)
        have hss := hide (hDH.out.s j hjt)
        rw [hy] at hd1 hd2 hms hss
        have hMb1 := hDH.out.mb (j + 1) (by omega)
        have hz0 := hide (hDH.out.z j hj.out)
        have e95 : (y == 95) = false := beq_eq_false_iff_ne.2 (by omega)
        have e46 : (y == 46) = false := beq_eq_false_iff_ne.2 (by omega)
        have hnext : Hid (∀ dp' : Int, (Sf (j + 1) = 0 → Sf j = 0 → dp' = dp - 1) → (Sf (j + 1) = Sf j + 1 → dp' = dp) → (Sf (j + 1) = 0 ∧ Sf j = 0 ∨ Sf (j + 1) = Sf j + 1) → ((sd = false ∧ pos + 1 = ps + (j + 1) ∧ j + 1 ≤ na ∧ -((j + 1 : Nat) : Int) ≤ dp' ∧ dp' ≤ 0) ∨ (sd = true ∧ pos + 1 = ps + 1 + (j + 1) ∧ dot = true ∧ na ≤ j + 1 ∧ dp' = (Sf (j + 1) : Int) - (((j + 1 : Nat) : Int) - na)))) := hide fun dp' g1 g2 g3 => by
          rcases hph.out with ⟨h1, h2, h3, h4, h5⟩ | ⟨h1, h2, h3, h4, h5⟩
          · left
            have : j < na := by
              rcases hdg with h | ⟨h, _⟩
              · exact h
              · rw [h1] at h; cases h
            refine ⟨h1, by omega, by omega, ?_, ?_⟩ <;> rcases g3 with ⟨a, b⟩ | a
            · have := g1 a b; omega
            · have := g2 a; omega
            · have := g1 a b; omega
            · have := g2 a; omega
          · right
            refine ⟨h1, by omega, h3, by omega, ?_⟩
            rcases g3 with ⟨a, b⟩ | a
            · have := g1 a b; omega
            · have := g2 a; omega
        clear hph hy hdg
        obtain ⟨Sj, hSj⟩ : ∃ x, Sf j = x := ⟨_, rfl⟩
        obtain ⟨Mj, hMj⟩ : ∃ x, Mf j = x := ⟨_, rfl⟩
        rw [hSj] at hSb hss hz0 hnext ⊢
        rw [hMj] at hMb hms hz0 ⊢
        by_cases hzz : Sj = 0 ∧ y = 48
        · obtain ⟨rfl, rfl⟩ := hzz
          have hM0 : Mj = 0 := hz0.out rfl
          subst hM0
          have hS1 : Hid (Sf (j + 1) = 0) := hide (by rw [hss.out, if_pos ⟨rfl, rfl⟩])
          have hM1 : Hid (Mf (j + 1) = 0) := hide (by have := hms.out; omega)
          go_wp2_with fail
          go_round
          case rel => exact ⟨j + 1, pos + 1, sd, true, dp - 1, by rw [hM1.out], rfl, by go_num, rfl, rfl, rfl, by rw [hS1.out], by rw [hS1.out], rfl, hide (by simp), hide (by omega), by omega, hide (hnext.out (dp - 1) (fun _ _ => rfl) (fun h => by rw [hS1.out] at h; omega) (.inl ⟨hS1.out, rfl⟩))⟩
          case measure => simp [intOf]; omega
        · have hS1 : Hid (Sf (j + 1) = Sj + 1) := hide (by rw [hss.out, if_neg hzz])
          have hpk : (y == 48 && (Sj : Int) == 0) = false := by
            rw [Bool.and_eq_false_iff]
            by_cases h : y = 48
            · right; rw [beq_eq_false_iff_ne]; intro h2; exact hzz ⟨by omega, h⟩
            · left; rw [beq_eq_false_iff_ne]; exact h
          by_cases h48 : y = 48
          · subst h48
            have hS0 : ((Sj : Int) == 0) = false := beq_eq_false_iff_ne.2 (fun h => hzz ⟨by omega, rfl⟩)
            go_wp2_with fail
            go_round
            case rel => exact ⟨j + 1, pos + 1, sd, true, dp, congrArg (Value.int .u64) (by have := hms.out; omega), rfl, by go_num, rfl, rfl, rfl, congrArg (Value.int .i64) (by have := hS1.out; omega), congrArg (Value.int .i64) (by have := hS1.out; omega), rfl, hide (by simp), hide (by omega), by omega, hide (hnext.out dp (fun h _ => by rw [hS1.out] at h; omega) (fun _ => rfl) (.inr hS1.out))⟩
            case measure => simp [intOf]; omega
          · have h48' : (y == 48) = false := beq_eq_false_iff_ne.2 h48
            go_wp2_with fail
            go_round
            case rel => exact ⟨j + 1, pos + 1, sd, true, dp, congrArg (Value.int .u64) (by have := hms.out; omega), rfl, by go_num, rfl, rfl, rfl, congrArg (Value.int .i64) (by have := hS1.out; omega), congrArg (Value.int .i64) (by have := hS1.out; omega), rfl, hide (by simp), hide (by omega), by omega, hide (hnext.out dp (fun h _ => by rw [hS1.out] at h; omega) (fun _ => rfl) (.inr hS1.out))⟩
            case measure => simp [intOf]; omega
      · -- no digit
        by_cases hpt : sd = false ∧ dot = true
        · obtain ⟨hs1, hs2⟩ := hpt
          subst hs1
          have hjn : j = na := by
            rcases hph.out with ⟨_, _, h, _⟩ | ⟨h, _⟩
            · omega
            · cases h
          have hpos : pos = ps + na := by
            rcases hph.out with ⟨_, h, _⟩ | ⟨h, _⟩
            · omega
            · cases h
          have hpn2 : pos < n := by have := hqH.out; rw [hs2] at this; simp at this; omega
          have hc : bt s pos = 46 := by rw [hpos]; exact hPH.out hs2
          have hposH := hide hpos
          have hjnH := hide hjn
          clear hpos hjn
          go_wp2_with fail
          go_round
          case rel => exact ⟨j, pos + 1, true, sw, (Sf j : Int), rfl, rfl, by go_num, rfl, rfl, rfl, rfl, rfl, rfl, hsw, hj, by omega, hide (.inr ⟨rfl, by have := hposH.out; have := hjnH.out; omega, hs2, by have := hjnH.out; omega, by have := hjnH.out; omega⟩)⟩
          case measure => simp [intOf]; omega
        · have hjt : j = na + nf := by
            have hj' := hj.out
            rcases hph.out with ⟨h1, _, h2, _⟩ | ⟨h1, _, _, _⟩
            · have h3 : dot = false := by
                cases hd : dot
                · rfl
                · exact absurd ⟨h1, hd⟩ hpt
              have := hdot h3
              omega
            · have : ¬ j < na + nf := fun h => hdg (.inr ⟨h1, h⟩)
              omega
          have hpq : pos = q := by
            rw [hqH.out]
            rcases hph.out with ⟨h1, h2, _⟩ | ⟨h1, h2, h3, _⟩
            · have h3 : dot = false := by
                cases hd : dot
                · rfl
                · exact absurd ⟨h1, hd⟩ hpt
              have := hdot h3
              rw [h3]; simp; omega
            · rw [h3]; simp; omega
          have hsd : sd = dot := by
            rcases hph.out with ⟨h1, _⟩ | ⟨h1, _, h3, _⟩
            · rw [h1]
              cases hd : dot
              · rfl
              · exact absurd ⟨h1, hd⟩ hpt
            · rw [h1, h3]
          have hsw' : sw = true := by rw [hsw.out]; simp; omega
          have hdpf : Hid (dot = true → dp = (St : Int) - nf) := hide fun hd => by
            rcases hph.out with ⟨h1, _⟩ | ⟨_, _, _, _, h⟩
            · exact absurd ⟨h1, hd⟩ hpt
            · rw [← hStH.out, ← hjt]; omega
          subst hjt hpq hsd hsw'
          clear hph hdg hpt hsw hj
          rcases hendH.out with hen | ⟨hen, hch⟩
          · have hlt2 : ¬ ((pos : Int) < (n : Int)) := by omega
            have henH := hide hen
            clear hen
            go_wp2_with fail
            go_meet
            case rel => exact ⟨dp, by rw [hMtH.out], rfl, rfl, rfl, rfl, rfl, by rw [hStH.out], by rw [hStH.out], rfl, hdpf, hdp1, hdp2, rfl⟩
          · rcases hch with hch | hch
            · go_wp2_with fail
              go_meet
              case rel => exact ⟨dp, by rw [hMtH.out], rfl, rfl, rfl, rfl, rfl, by rw [hStH.out], by rw [hStH.out], rfl, hdpf, hdp1, hdp2, rfl⟩
            · go_wp2_with fail
              go_meet
              case rel => exact ⟨dp, by rw [hMtH.out], rfl, rfl, rfl, rfl, rfl, by rw [hStH.out], by rw [hStH.out], rfl, hdpf, hdp1, hdp2, rfl⟩
  obtain ⟨dp, rfl, rfl, rfl, rfl, rfl, rfl, rfl, rfl, rfl, hdpf, hdp1, hdp2, rfl⟩ := hcut
  clear hAH hPH hBH hqH
  have hSt := hDH.out.sb (na + nf) (Nat.le_refl _)
  have hMt := hDH.out.mb (na + nf) (Nat.le_refl _)
  rw [hStH.out] at hSt
  rw [hMtH.out] at hMt
  clear hDH hMtH hStH
  go_upto_if 142 with fail
  go_cut [17] from 143 to 143 (fun v17 w' => v17 = .int .i64 ((St : Int) - nf) ∧ w' = wc)
  case first =>
    cases dot with
    | false =>
      have h0 := hdot rfl
      subst h0
      go_wp2_with fail
      go_meet
      case rel => exact ⟨by go_num, rfl⟩
    | true =>
      have h1 := hdpf.out rfl
      subst h1
      go_wp2_with fail
      go_meet
      case rel => exact ⟨rfl, rfl⟩
  obtain ⟨rfl, rfl⟩ := hcut
  clear hdpf hdp1 hdp2 hdot
  obtain ⟨xe, hxe⟩ : ∃ xe : Bool, (xe = false ∧ q = n ∧ ev = 0) ∨ (xe = true ∧ Exps s q pe ne n eneg Ev Xf ∧ ev = if eneg then -(Xf ne : Int) else (Xf ne : Int)) := by
    rcases hXH.out with ⟨h1, h2⟩ | ⟨h1, h2⟩
    · exact ⟨false, .inl ⟨rfl, h1, h2⟩⟩
    · exact ⟨true, .inr ⟨rfl, h1, h2⟩⟩
  have hxeH := hide hxe
  clear hxe hXH hendH
  go_upto_region 57 with fail
  go_cut [161] from 150 to 160 (fun v w' => v = .bool xe ∧ w' = wc)
  case first =>
    rcases hxeH.out with ⟨rfl, h1, _⟩ | ⟨rfl, h1, _⟩
    · have h1' : ¬ ((q : Int) < (n : Int)) := by omega
      clear h1
      go_wp2_with fail
      go_meet
      case rel => exact ⟨rfl, rfl⟩
    · obtain ⟨h2, h3⟩ := h1.e
      clear h1
      rcases h3 with h3 | h3
      · have hlo := hide (Tryd.internal_strconv_lower 101 wc)
        rw [lower_e.1] at hlo
        go_wp2_with (go_at_call 33; (with_reducible refine (hlo.out).mono ?_); rintro e w1 ⟨rfl, hw1⟩; rw [hw1]; clear hw1 w1)
        go_meet
        case rel => exact ⟨rfl, rfl⟩
      · have hlo := hide (Tryd.internal_strconv_lower 69 wc)
        rw [lower_e.2] at hlo
        go_wp2_with (go_at_call 33; (with_reducible refine (hlo.out).mono ?_); rintro e w1 ⟨rfl, hw1⟩; rw [hw1]; clear hw1 w1)
        go_meet
        case rel => exact ⟨rfl, rfl⟩
  obtain ⟨rfl, rfl⟩ := hcut
  go_upto_if 161 with fail
  go_cut [7, 9, 17] from 162 to 239 (fun v7 v9 v17 w' => v7 = .int .i64 n ∧ v9 = .bool false ∧ v17 = .int .i64 ((St : Int) - nf + ev) ∧ w' = wc)
  case first =>
    rcases hxeH.out with ⟨rfl, h1, h2⟩ | ⟨rfl, hx, hev⟩
    · subst h1 h2
      go_wp2_with fail
      go_meet
      case rel => exact ⟨rfl, rfl, by go_num, rfl⟩
    · have hxH := hide hx
      have hevH := hide hev
      obtain ⟨hqn2, _⟩ := hx.e
      obtain ⟨hlen1, hlen2⟩ := hx.len
      have hlenH := hide hlen1
      have hq1n : q + 1 < n := by
        rcases hx.sg with ⟨h, _⟩ | ⟨h, _⟩ | ⟨h, _⟩ <;> omega
      obtain ⟨c1, hc1⟩ : ∃ c1, bt s (q + 1) = c1 := ⟨_, rfl⟩
      have hsg1 := hide hx.sg
      rw [hc1] at hsg1
      obtain ⟨esg, hesg⟩ : ∃ esg : Int, esg = if eneg then -1 else 1 := ⟨_, rfl⟩
      have hesgH := hide hesg
      have hesg1 : -1 ≤ esg := by rw [hesg]; split <;> omega
      have hesg2 : esg ≤ 1 := by rw [hesg]; split <;> omega
      clear hx hev hlen1 hxeH hesg
      have hk1 : decide ((n : Int) ≤ (q : Int) + 1) = false := decide_eq_false (by omega)
      go_upto_block 4 with fail
      go_cut [7, 19] from 171 to 178 (fun v7 v19 w' => v7 = .int .i64 pe ∧ v19 = .int .i64 esg ∧ w' = wc)
      case first =>
        rcases hsg1.out with ⟨h1, h2, h3, h4⟩ | ⟨h1, h2, h3⟩ | ⟨h1, h2, h3⟩
        · subst h1 h2
          have e1 : (c1 == 43) = false := beq_eq_false_iff_ne.2 h3
          have e2 : (c1 == 45) = false := beq_eq_false_iff_ne.2 h4
          go_wp2_with fail
          go_meet
          case rel => exact ⟨by go_num, by rw [hesgH.out]; rfl, rfl⟩
        · subst h1 h2
          have e1 : (c1 == 43) = true := beq_iff_eq.2 h3
          clear h3
          go_wp2_with fail
          go_meet
          case rel => exact ⟨by go_num, by rw [hesgH.out]; rfl, rfl⟩
        · subst h1 h2
          have e1 : (c1 == 43) = false := beq_eq_false_iff_ne.2 (by omega)
          have e2 : (c1 == 45) = true := beq_iff_eq.2 h3
          clear h3
          go_wp2_with fail
          go_meet
          case rel => exact ⟨by go_num, by rw [hesgH.out]; rfl, rfl⟩
      obtain ⟨rfl, rfl, rfl⟩ := hcut
      have hpen : pe < n := by have := hlenH.out; omega
      have hd0 := hxH.out.d 0 hlen2
      rw [Nat.add_zero] at hd0
      obtain ⟨hd01, hd02, hd03⟩ := hd0
      obtain ⟨y0, hy0⟩ : ∃ y, Ev 0 = y := ⟨_, rfl⟩
      rw [hy0] at hd01 hd02 hd03
      clear hy0
      have hk2 : decide (n ≤ pe) = false := decide_eq_false (by omega)
      have hk3 : decide (y0 < 48) = false := decide_eq_false (by omega)
      have hk4 : decide (57 < y0) = false := decide_eq_false (by omega)
      go_upto_block 5 with fail
      go_cut [7, 9, 20] from 195 to 232 (fun v7 v9 v20 w' => v7 = .int .i64 n ∧ v9 = .bool false ∧ v20 = .int .i64 (Xf ne) ∧ w' = wc)
      case first =>
        clear hd01 hd02 hd03
        go_wp2_with fail
        go_loop [7, 9, 20] (fun v7 v9 v20 => ∃ k : Nat, k ≤ ne ∧ v7 = .int .i64 ((pe : Int) + k) ∧ v9 = .bool false ∧ v20 = .int .i64 (Xf k)) (fun v7 _ _ => n - (intOf v7).toNat)
        case atStart => exact ⟨0, by omega, by go_num, rfl, by rw [hxH.out.x0]; rfl⟩
        case round =>
          obtain ⟨k, hk, rfl, rfl, rfl⟩ := hrel
          by_cases hlt : k < ne
          · obtain ⟨g1, g2, g3⟩ := hxH.out.d k hlt
            obtain ⟨g4, g5⟩ := hxH.out.x k hlt
            obtain ⟨y, hy⟩ : ∃ y, Ev k = y := ⟨_, rfl⟩
            rw [hy] at g1 g2 g3 g4
            clear hy
            have g4H := hide g4
            clear g4
            have e95 : (y == 95) = false := beq_eq_false_iff_ne.2 (by omega)
            have hpk : pe + k < n := by have := hlenH.out; omega
            obtain ⟨X, hXk⟩ : ∃ X, Xf k = X := ⟨_, rfl⟩
            rw [hXk] at g4H g5 ⊢
            go_wp2_with fail
            go_round
            case rel => exact ⟨k + 1, by omega, by go_num, rfl, congrArg (Value.int .i64) (by have := g4H.out; omega)⟩
            case measure => simp [intOf]; omega
          · have hke : k = ne := by omega
            subst hke
            have hen : ¬ ((pe : Int) + (k : Nat) < n) := by have := hlenH.out; omega
            have hpkn : Hid ((pe : Int) + (k : Nat) = n) := hide (by have := hlenH.out; omega)
            go_wp2_with fail
            go_meet
            case rel => exact ⟨congrArg (Value.int .i64) hpkn.out, rfl, rfl, rfl⟩
      obtain ⟨rfl, rfl, rfl, rfl⟩ := hcut
      have hxb := hxH.out.xb
      have hevf : ((Xf ne : Nat) : Int) * esg = ev := by rw [hevH.out, hesgH.out]; cases eneg <;> simp
      have hevb : -99999 ≤ ev ∧ ev ≤ 99999 := by rw [hevH.out]; split <;> omega
      obtain ⟨hevb1, hevb2⟩ := hevb
      clear hd01 hd02 hd03
      go_wp2_with fail
      go_meet
      case rel => exact ⟨rfl, rfl, rfl, rfl⟩
  obtain ⟨rfl, rfl, rfl, rfl⟩ := hcut
  have hevb : -99999 ≤ ev ∧ ev ≤ 99999 := by
    rcases hxeH.out with ⟨_, _, h⟩ | ⟨_, hx, hev⟩
    · omega
    · have := hx.xb
      rw [hev]; split <;> omega
  obtain ⟨hevb1, hevb2⟩ := hevb
  clear hxeH
  by_cases hM0 : Mt = 0
  · subst hM0
    go_wp2_with fail
    rw [Exit.noGoto_ret]
    exact bodyPost_ret (v := .tuple #[.int .u64 0, .int .i64 0, .bool neg, .bool false, .bool false, .int .i64 n, .bool true]) (by simp [results, Tryd.results44, go_sem]) rfl ⟨by simp, rfl⟩
  · have hMne : ((Mt : Int) != 0) = true := bne_iff_ne.2 (by omega)
    have hM0H := hide hM0
    clear hM0
    go_wp2_with fail
    rw [Exit.noGoto_ret]
    refine bodyPost_ret (v := .tuple #[.int .u64 Mt, .int .i64 (ev - nf), .bool neg, .bool false, .bool false, .int .i64 n, .bool true]) (by simp [results, Tryd.results44, go_sem]; omega) rfl ⟨by rw [if_neg hM0H.out], rfl⟩
end Go.Proofs.Qxb6606304aDoor
