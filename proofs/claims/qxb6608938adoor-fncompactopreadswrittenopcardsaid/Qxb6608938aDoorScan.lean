/-
  WALKS: the law's own UTF-8 scanner, plain JSON strings, datatype.CompactArgLen.
-/
import Derived.Test.Qxb6608938aDoorSmall
import Derived.Laws.BitsAllLaws
import Derived.Deep.LoopGhost
namespace Go.Proofs.Qxb6608938aDoor
open Go.RowKit Go.PlainAid

theorem getD_drop (l : List UInt8) (i k : Nat) : (l.drop i).getD k 0 = l.getD (i + k) 0 := by
  rw [List.getD_eq_getElem?_getD, List.getD_eq_getElem?_getD, List.getElem?_drop]
theorem valid_step (l : List UInt8) (i nd lo hi : Nat) (hin : i + nd < l.length) (h1 : 1 ≤ nd) (h3 : nd ≤ 3) (hc : 128 ≤ Pl.B l i) (f8 : Lib.firstT (Pl.B l i).toNat % 8 = nd + 1)
    (flo : Lib.accLo (Lib.firstT (Pl.B l i).toNat / 16) = lo) (fhi : Lib.accHi (Lib.firstT (Pl.B l i).toNat / 16) = hi) (hlo : (lo : Int) ≤ Pl.B l (i + 1)) (hhi : Pl.B l (i + 1) ≤ (hi : Int))
    (hall : ∀ j, 2 ≤ j → j ≤ nd → 128 ≤ Pl.B l (i + j) ∧ Pl.B l (i + j) ≤ 191) : Lib.validD (l.drop i) = Lib.validD (l.drop (i + (nd + 1))) := by
  have hne : l.drop i ≠ [] := fun h => by
    have := congrArg List.length h
    rw [List.length_drop] at this
    simp at this; omega
  unfold Pl.B at *
  have e0 : (l.drop i).getD 0 0 = l.getD i 0 := by rw [getD_drop]; rfl
  have hl := Lib.validD_lead (l.drop i) hne (by rw [e0]; omega)
  rw [e0, getD_drop, getD_drop, getD_drop, List.length_drop] at hl
  rw [Int.toNat_natCast] at f8 flo fhi
  rw [f8, flo, fhi] at hl
  rw [hl]
  have g2 := hall 2
  have g3 := hall 3
  have hcheck : Lib.checkN (l.length - i) (l.getD (i + 1) 0).toNat (l.getD (i + 2) 0).toNat (l.getD (i + 3) 0).toNat (nd + 1) lo hi = some (nd + 1) := by
    unfold Lib.checkN
    obtain rfl | rfl | rfl : nd = 1 ∨ nd = 2 ∨ nd = 3 := by omega
    · rw [if_pos rfl, if_neg (by omega)]
    · have := g2 (by omega) (by omega)
      rw [if_neg (by omega), if_pos rfl, if_neg (by omega)]
    · have := g2 (by omega) (by omega)
      have := g3 (by omega) (by omega)
      rw [if_neg (by omega), if_neg (by omega), if_pos rfl, if_neg (by omega)]
  rw [hcheck]
  simp only [List.drop_drop]
theorem valid_asc1 (l : List UInt8) (i : Nat) (hin : i < l.length) (hc : Pl.B l i < 128) : Lib.validD (l.drop i) = Lib.validD (l.drop (i + 1)) := by
  rw [Lib.validD_ascii 1 (l.drop i), List.drop_drop]
  intro b hb
  rw [Pl.B_get l i hin] at hc
  rw [List.drop_eq_getElem_cons hin, List.take_succ_cons, List.take_zero, List.mem_singleton] at hb
  rw [hb]
  omega

/-- What the table says of a lead byte. -/
def Lead (c : Int) (nd lo hi : Nat) : Prop := 1 ≤ nd ∧ nd ≤ 3 ∧ Lib.firstT c.toNat % 8 = nd + 1 ∧ Lib.accLo (Lib.firstT c.toNat / 16) = lo ∧ Lib.accHi (Lib.firstT c.toNat / 16) = hi
theorem lead_of (c : Int) (X nd lo hi : Nat) (h1 : 1 ≤ nd) (h2 : nd ≤ 3) (hX : Lib.firstT c.toNat = X) (h3 : X % 8 = nd + 1) (h4 : Lib.accLo (X / 16) = lo) (h5 : Lib.accHi (X / 16) = hi) : Lead c nd lo hi := by
  unfold Lead; rw [hX]; exact ⟨h1, h2, h3, h4, h5⟩

set_option maxRecDepth 100000 in
set_option maxHeartbeats 4000000 in
theorem utf8_any (b o c n : Nat) (l : List UInt8) (w : World) (hl : Hid (l.length = n)) (hr : RowAt w b o l) (hn : n ≤ 1048576) :
    Calls Tryd.prog 16 #[.slice (some ⟨b, o, none⟩) n c] w fun e w' => Tells (Lib.validD l = true) e ∧ w' = w := by
  have hrH := hide hr
  clear hr
  go_enter Tryd.func16, Tryd.ntmps16
  go_wp2_with fail
  go_loopg [3] (n + 1) (fun gk iv wx => ∃ i : Nat, iv = .int .i64 i ∧ i ≤ n ∧ wx = w ∧ n - i < gk ∧ Hid (Lib.validD (l.drop i) = Lib.validD l))
  case atStart => exact ⟨0, rfl, by omega, rfl, by omega, hide rfl⟩
  case round =>
    obtain ⟨i, rfl, hi, rfl, hgk, hv⟩ := hrel
    obtain ⟨g', rfl⟩ : ∃ g', gk = g' + 1 := ⟨gk - 1, by omega⟩
    rcases Nat.lt_or_ge i n with hin | hin
    · have ci := hrH.out i (by rw [hl.out]; exact hin)
      have hB1 := Pl.B_nonneg l i
      have hB2 := Pl.B_le l i
      obtain ⟨x, hx⟩ : ∃ x, Pl.B l i = x := ⟨_, rfl⟩
      rw [hx] at ci hB1 hB2
      by_cases hasc : x < 128
      · go_wp2_with fail
        go_roundg g'
        case measure => omega
        case rel => exact ⟨i + 1, by go_num, by omega, by simp, by omega, hide (by rw [← valid_asc1 l i (by rw [hl.out]; exact hin) (by rw [hx]; exact hasc)]; exact hv.out)⟩
      · go_upto_block 2 with fail
        go_cut [5, 6, 7] (fun nv lv hv w' => ∃ nd lo hi : Nat, nv = .int .i64 nd ∧ lv = .int .u8 lo ∧ hv = .int .u8 hi ∧ w' = wr ∧ 1 ≤ nd ∧ nd ≤ 3 ∧ Hid (Lead x nd lo hi))
        case first =>
          have hcs : x ≤ 193 ∨ 194 ≤ x ∧ x ≤ 223 ∨ x = 224 ∨ 225 ≤ x ∧ x ≤ 236 ∨ x = 237 ∨ x = 238 ∨ x = 239 ∨ x = 240 ∨ 241 ≤ x ∧ x ≤ 243 ∨ x = 244 ∨ 245 ≤ x := by omega
          clear ci hv hrH hl hx
          rcases hcs with h | ⟨h1, h2⟩ | rfl | ⟨h1, h2⟩ | rfl | rfl | rfl | rfl | ⟨h1, h2⟩ | rfl | h
          · have e1 : (x == 224) = false := beq_eq_false_iff_ne.2 (by omega)
            have e2 : (x == 237) = false := beq_eq_false_iff_ne.2 (by omega)
            have e3 : (x == 238) = false := beq_eq_false_iff_ne.2 (by omega)
            have e4 : (x == 239) = false := beq_eq_false_iff_ne.2 (by omega)
            have e5 : (x == 240) = false := beq_eq_false_iff_ne.2 (by omega)
            have e6 : (x == 244) = false := beq_eq_false_iff_ne.2 (by omega)
            go_wp2_with fail
            go_ret
            exact ⟨⟨false, rfl, fun h => by cases h⟩, rfl⟩
          · go_wp2_with fail
            go_meet
            case rel => exact ⟨1, 128, 191, rfl, rfl, rfl, by simp, by omega, by omega, hide (lead_of x 2 1 128 191 (by omega) (by omega) (by unfold Lib.firstT; rw [if_neg (by omega), if_neg (by omega), if_pos (by omega)]) rfl rfl rfl)⟩
          · go_wp2_with fail
            go_meet
            case rel => exact ⟨2, 160, 191, rfl, rfl, rfl, by simp, by omega, by omega, hide (lead_of 224 19 2 160 191 (by omega) (by omega) rfl rfl rfl rfl)⟩
          · have e1 : (x == 224) = false := beq_eq_false_iff_ne.2 (by omega)
            go_wp2_with fail
            go_meet
            case rel => exact ⟨2, 128, 191, rfl, rfl, rfl, by simp, by omega, by omega, hide (lead_of x 3 2 128 191 (by omega) (by omega) (by unfold Lib.firstT; rw [if_neg (by omega), if_neg (by omega), if_neg (by omega), if_neg (by omega), if_pos (by omega)]) rfl rfl rfl)⟩
          · go_wp2_with fail
            go_meet
            case rel => exact ⟨2, 128, 159, rfl, rfl, rfl, by simp, by omega, by omega, hide (lead_of 237 35 2 128 159 (by omega) (by omega) rfl rfl rfl rfl)⟩
          · go_wp2_with fail
            go_meet
            case rel => exact ⟨2, 128, 191, rfl, rfl, rfl, by simp, by omega, by omega, hide (lead_of 238 3 2 128 191 (by omega) (by omega) rfl rfl rfl rfl)⟩
          · go_wp2_with fail
            go_meet
            case rel => exact ⟨2, 128, 191, rfl, rfl, rfl, by simp, by omega, by omega, hide (lead_of 239 3 2 128 191 (by omega) (by omega) rfl rfl rfl rfl)⟩
          · go_wp2_with fail
            go_meet
            case rel => exact ⟨3, 144, 191, rfl, rfl, rfl, by simp, by omega, by omega, hide (lead_of 240 52 3 144 191 (by omega) (by omega) rfl rfl rfl rfl)⟩
          · have e1 : (x == 224) = false := beq_eq_false_iff_ne.2 (by omega)
            have e2 : (x == 237) = false := beq_eq_false_iff_ne.2 (by omega)
            have e3 : (x == 238) = false := beq_eq_false_iff_ne.2 (by omega)
            have e4 : (x == 239) = false := beq_eq_false_iff_ne.2 (by omega)
            have e5 : (x == 240) = false := beq_eq_false_iff_ne.2 (by omega)
            go_wp2_with fail
            go_meet
            case rel => exact ⟨3, 128, 191, rfl, rfl, rfl, by simp, by omega, by omega, hide (lead_of x 4 3 128 191 (by omega) (by omega) (by unfold Lib.firstT; rw [if_neg (by omega), if_neg (by omega), if_neg (by omega), if_neg (by omega), if_neg (by omega), if_neg (by omega), if_neg (by omega), if_neg (by omega), if_pos (by omega)]) rfl rfl rfl)⟩
          · go_wp2_with fail
            go_meet
            case rel => exact ⟨3, 128, 143, rfl, rfl, rfl, by simp, by omega, by omega, hide (lead_of 244 68 3 128 143 (by omega) (by omega) rfl rfl rfl rfl)⟩
          · have e1 : (x == 224) = false := beq_eq_false_iff_ne.2 (by omega)
            have e2 : (x == 237) = false := beq_eq_false_iff_ne.2 (by omega)
            have e3 : (x == 238) = false := beq_eq_false_iff_ne.2 (by omega)
            have e4 : (x == 239) = false := beq_eq_false_iff_ne.2 (by omega)
            have e5 : (x == 240) = false := beq_eq_false_iff_ne.2 (by omega)
            have e6 : (x == 244) = false := beq_eq_false_iff_ne.2 (by omega)
            go_wp2_with fail
            go_ret
            exact ⟨⟨false, rfl, fun h => by cases h⟩, rfl⟩
        obtain ⟨nd, lo, hi', rfl, rfl, rfl, rfl, hnd1, hnd3, hlead⟩ := hcut
        rcases Nat.lt_or_ge (i + nd) n with hnn | hnn
        · have ci1 := hrH.out (i + 1) (by rw [hl.out]; omega)
          obtain ⟨y, hy⟩ : ∃ y, Pl.B l (i + 1) = y := ⟨_, rfl⟩
          rw [hy] at ci1
          by_cases hy2 : (lo : Int) ≤ y ∧ y ≤ (hi' : Int)
          · obtain ⟨hy3, hy4⟩ := hy2
            go_wp2_with fail
            go_loopw [8] (fun kv wx => ∃ k : Nat, kv = .int .i64 k ∧ 2 ≤ k ∧ k ≤ nd + 2 ∧ wx = wc ∧ Hid (∀ j, 2 ≤ j → j < k → j ≤ nd → 128 ≤ Pl.B l (i + j) ∧ Pl.B l (i + j) ≤ 191)) (fun kv _ => 10 - (intOf kv).toNat)
            case atStart => exact ⟨2, rfl, by omega, by omega, by simp, hide (fun j h1 h2 => by omega)⟩
            case round =>
              obtain ⟨k, rfl, hk0, hk, rfl, hall⟩ := hrel
              rcases Nat.lt_or_ge nd k with hkn | hkn
              · have hst := valid_step l i nd lo hi' (by rw [hl.out]; exact hnn) hnd1 hnd3 (by rw [hx]; omega) (by rw [hx]; exact hlead.out.2.2.1) (by rw [hx]; exact hlead.out.2.2.2.1) (by rw [hx]; exact hlead.out.2.2.2.2) (by rw [hy]; exact hy3) (by rw [hy]; exact hy4) (fun j h1 h2 => hall.out j h1 (by omega) h2)
                have hstH : Hid (Lib.validD (l.drop (i + (nd + 1))) = Lib.validD l) := hide (by rw [← hst]; exact hv.out)
                clear hst
                go_wp2_with fail
                go_roundg g'
                case measure => omega
                case rel => exact ⟨i + (nd + 1), by go_num, by omega, by simp, by omega, hstH⟩
              · have ck := hrH.out (i + k) (by rw [hl.out]; omega)
                by_cases hdk : 128 ≤ Pl.B l (i + k) ∧ Pl.B l (i + k) ≤ 191
                · obtain ⟨e1, e2⟩ := hdk
                  go_wp2_with fail
                  go_roundw
                  case rel =>
                    refine ⟨k + 1, by go_num, by omega, by omega, by simp, hide (fun j h1 h2 h3 => ?_)⟩
                    rcases Nat.lt_or_ge j k with h | h
                    · exact hall.out j h1 h h3
                    · obtain rfl : j = k := by omega
                      exact ⟨e1, e2⟩
                  case measure => simp [intOf]; omega
                · go_wp2_with fail
                  all_goals first | (exfalso; omega) | (go_ret; exact ⟨⟨false, rfl, fun h => by cases h⟩, rfl⟩)
          · go_wp2_with fail
            all_goals first | (exfalso; omega) | (go_ret; exact ⟨⟨false, rfl, fun h => by cases h⟩, rfl⟩)
        · go_wp2_with fail
          go_ret
          exact ⟨⟨false, rfl, fun h => by cases h⟩, rfl⟩
    · go_wp2_with fail
      go_ret
      refine ⟨⟨true, rfl, fun _ => ?_⟩, rfl⟩
      rw [← hv.out, List.drop_of_length_le (by rw [hl.out]; exact hin)]; rfl
end Go.Proofs.Qxb6608938aDoor
