/-
  WALK: the law FnCompactOpReadsWrittenOp at lengths of at most 65536.
-/
import Derived.Test.Qxb6608938aDoorLaw
namespace Go.Proofs.Qxb6608938aDoor
open Go.RowKit Go.PlainAid

set_option maxRecDepth 1000000 in
set_option maxHeartbeats 8000000 in
theorem law_main (s : ByteArray) (p1 p2 : Option Addr) (n1 c1 n2 c2 : Nat) (x : Int) (la lr : List UInt8) (w : World) (hT : Lib.Utf8Tabs 0 1 w) (hA : Holds w p1 n1 c1 la) (hB : Holds w p2 n2 c2 lr)
    (h1 : (s.size : Int) ≤ 65536) (h2 : (n1 : Int) ≤ 65536) (h3 : (n2 : Int) ≤ 65536) :
    Calls Tryd.prog 4 #[.string s, .slice p1 n1 c1, .slice p2 n2 c2, .int .i64 x] w (LawPost w) := by
  have hg := hide (guard_any s p1 p2 n1 c1 n2 c2 x w)
  have hb := get_bt s
  have hTH := hide hT
  have hAH := hide hA
  have hBH := hide hB
  have hla := hA.1
  clear hT hA hB
  obtain ⟨i0, hi, hz0, hz1, hz2⟩ := info_parts Tryd.info5
  obtain ⟨q1, q2⟩ | ⟨q1, q2⟩ := beq_cases (s.size : Int) 0
  · go_enter Tryd.func4, Tryd.ntmps4
    go_wp2_with fail
    refine (hg.out).mono ?_
    rintro ev w' ⟨⟨g, rfl⟩, rfl⟩
    cases g
    all_goals go_wp2_with fail
    all_goals go_ret
    all_goals exact ⟨rfl, Below.refl _ _⟩
  have hs0 : 0 < s.size := by omega
  have hne : s.data.toList ≠ [] := fun e => by have : s.data.toList.length = s.size := rfl; rw [e] at this; simp at this; omega
  go_enter Tryd.func4, Tryd.ntmps4
  go_wp2_with fail
  refine (hg.out).mono ?_
  rintro ev w' ⟨⟨g, rfl⟩, rfl⟩
  clear hg
  cases g
  · go_wp2_with fail
    go_ret
    exact ⟨rfl, Below.refl _ _⟩
  go_wp2_with fail
  go_loop [9] (fun i => ∃ k : Nat, k ≤ s.size ∧ i = .int .i64 k ∧ Hid (∀ j, j < k → Pl.nameByte (s.data.toList.getD j 0) = true)) (fun i => s.size - (intOf i).toNat)
  case atStart => exact ⟨0, Nat.zero_le _, rfl, hide fun j hj => absurd hj (Nat.not_lt_zero _)⟩
  case round =>
    obtain ⟨k, hk, rfl, hall⟩ := hrel
    by_cases hlt : k < s.size
    · have hiff := Pl.name_iff (s.data.toList.getD k 0)
      rw [toNat_B, ← B_bt] at hiff
      cases hnb : Pl.nameByte (s.data.toList.getD k 0) with
      | true =>
        have hyes := hiff.1 hnb
        clear hiff
        go_wp2_with (go_at_call 10; refine (nameByte_yes _ _ hyes).mono ?_; rintro e w2 ⟨rfl, rfl⟩)
        go_round
        case rel => exact ⟨k + 1, by omega, by go_num, hide fun j hj => by
          by_cases e : j = k
          · subst e; exact hnb
          · exact hall.out j (by omega)⟩
        case measure => simp [intOf]; omega
      | false =>
        have hno : ¬ Pl.nameI (bt s k) := fun h => by have := hiff.2 h; rw [hnb] at this; cases this
        clear hiff
        go_wp2_with (go_at_call 10; refine (nameByte_no _ _ hno).mono ?_; rintro e w2 ⟨rfl, rfl⟩)
        go_ret
        exact ⟨rfl, Below.refl _ _⟩
    · obtain rfl : k = s.size := by omega
      have hnm : Hid (s.data.toList.all Pl.nameByte = true) := hide (by
        rw [List.all_eq_true]
        intro c hc
        obtain ⟨j, hj, rfl⟩ := List.getElem_of_mem hc
        have := hall.out j hj
        rwa [List.getD_eq_getElem?_getD, List.getElem?_eq_getElem hj] at this)
      clear hall
      go_upto_region 12 with fail
      go_cut [65] (fun v wx => ∃ bb, v = .bool bb ∧ wx = w' ∧ (bb = false → Hid (Pl.okArg la)))
      case first =>
        as_aux_lemma =>
          rcases Nat.eq_zero_or_pos n1 with h0 | h0
          · subst h0
            go_wp2_with fail
            go_meet
            case rel => exact ⟨false, rfl, rfl, fun _ => hide (.inl (List.length_eq_zero_iff.1 hla))⟩
          · obtain h | ⟨b1, o1, rfl, hr1, hb1⟩ := hAH.out.2.2
            · omega
            go_wp2_with fail
            refine (jsonInt_any b1 o1 c1 n1 la _ (hide hla) hr1 h0 (by omega)).mono ?_
            rintro ev w2 ⟨⟨rb, rfl, hrb⟩, rfl⟩
            cases rb with
            | true =>
              have hok := hide (hrb rfl)
              clear hrb
              go_wp2_with fail
              go_meet
              case rel => exact ⟨false, rfl, rfl, fun _ => hide (.inr (.inl hok.out))⟩
            | false =>
              clear hrb
              go_wp2_with fail
              refine (jsonStr_any b1 o1 c1 n1 la _ (hide hla) hr1 h0 (by omega)).mono ?_
              rintro ev w3 ⟨⟨rb, rfl, hrb⟩, rfl⟩
              cases rb with
              | true =>
                have hok := hide (hrb rfl)
                clear hrb
                go_wp2_with fail
                go_meet
                case rel => exact ⟨false, rfl, rfl, fun _ => hide (.inr (.inr hok.out))⟩
              | false =>
                clear hrb
                go_wp2_with fail
                go_meet
                case rel => exact ⟨true, rfl, rfl, fun h => by cases h⟩
      obtain ⟨bb, rfl, rfl, hok⟩ := hcut
      cases bb with
      | true =>
        clear hok
        go_wp2_with fail
        go_ret
        exact ⟨rfl, Below.refl _ _⟩
      | false =>
        have hokH := hok rfl
        clear hok
        have hL0 : s.data.toList.length = s.size := rfl
        have hBL : lr.length = n2 := hBH.out.1
        obtain ⟨cap, hcapH, hcge, hcle⟩ : ∃ cap, Hid (cap = s.size + n1 + n2 + 16) ∧ s.size + n1 + n2 + 16 ≤ cap ∧ cap ≤ 196624 := ⟨_, hide rfl, Nat.le_refl _, by omega⟩
        go_upto_region 15 with (at_make; refine wpList_make_own _ rfl _ _ 22 rfl wc.heap.size 5 i0 (.int .u8 0) 1 Tryd.underlying22 hi hz0 hz1 .i64 .i64 ((s.size : Int) + n1 + n2 + 16) cap rfl rfl (by have := hcapH.out; omega) (by rw [hz2]; omega) (by unfold maxLen; omega) (Nat.le_refl _) ?_; intro w1 hown1 hgrow1)
        have hbel1 : Below wc.heap.size wc w1 := (Below.refl wc.heap.size wc).grown hgrow1 (Nat.le_refl _) (fun k hk => by cases hk)
        have hs1 := hbel1.size
        have hO1 := hide hown1
        clear hown1 hgrow1
        go_upto_region 16 with (at_builtin; refine Lib.wpList_append_fits_string _ rfl _ _ 22 9 rfl wc.heap.size 5 i0 Tryd.underlying22 Tryd.underlying9 hi hz1 (some ⟨wc.heap.size, 0, none⟩) 0 cap _ rfl hO1.out ⟨#[123, 34, 111, 112, 34, 58, 34]⟩ rfl (by omega) ?cR ?_)
        case cR => show 0 + 7 ≤ cap; omega
        intro w2 hown2 hgrow2
        have hO2 : Hid (Own w2 wc.heap.size wc.heap.size cap Pl.head 7) := hide ⟨rfl, hown2⟩
        have hbel2 : Below wc.heap.size wc w2 := hbel1.grown hgrow2 hs1 (fun k hk => by cases hk; exact Nat.le_refl _)
        have hs2 := hbel2.size
        clear hO1 hown2 hgrow2 hbel1 hs1
        go_upto_region 17 with (at_builtin; refine Lib.wpList_append_fits_string _ rfl _ _ 22 9 rfl wc.heap.size 5 i0 Tryd.underlying22 Tryd.underlying9 hi hz1 (some ⟨wc.heap.size, 0, none⟩) 7 cap _ rfl hO2.out.2 s rfl (by omega) (by omega) ?_)
        intro w3 hown3 hgrow3
        have hO3 : Hid (Own w3 wc.heap.size wc.heap.size cap (Pl.head ++ s.data.toList) (7 + s.size)) := hide ⟨by rw [List.length_append]; rfl, by rw [cellsB_app]; exact hown3⟩
        have hbw3 : Below wc.heap.size wc w3 := hbel2.grown hgrow3 hs2 (fun k hk => by cases hk; exact Nat.le_refl _)
        have hsw3 := hbw3.size
        clear hO2 hown3 hgrow3 hbel2 hs2
        go_upto_region 18 with (at_builtin; refine wpList_append_fits _ rfl _ _ 22 rfl wc.heap.size 5 i0 1 Tryd.underlying22 hi hz1 wc.heap.size (7 + s.size) cap _ rfl (World.ownsRow.alloc hO3.out.2 _) ⟨w3.heap.size, 0, none⟩ 1 1 [.int .u8 34] rfl rfl (one_new _ _ _) (fun u hu => by simp at hu; subst hu; rfl) (by omega) ?_)
        intro w4 hown hgrow
        have hO4 : Hid (Own w4 wc.heap.size wc.heap.size cap ((Pl.head ++ s.data.toList) ++ [34]) (7 + s.size + 1)) := hide ⟨by rw [List.length_append, hO3.out.1]; rfl, by rw [cellsB_app]; exact hown⟩
        have hbw4 : Below wc.heap.size wc w4 := (hbw3.alloc hbw3.size _).grown hgrow (by have := hbw3.size; simp; omega) (fun k hk => by cases hk; exact Nat.le_refl _)
        have hsw4 := hbw4.size
        clear hO3 hown hgrow hbw3 hsw3
        rcases Nat.eq_zero_or_pos n1 with h0 | h0
        · obtain rfl : la = [] := List.length_eq_zero_iff.1 (by omega)
          obtain rfl : n1 = 0 := h0
          have hO5 : Hid (Own w4 wc.heap.size wc.heap.size cap (Pl.wr s.data.toList []) (8 + s.size)) := hide (by
            have h := hO4.out
            have e : Pl.head ++ s.data.toList ++ [34] = Pl.wr s.data.toList [] := by unfold Pl.wr Pl.mid; simp
            rw [e, show 7 + s.size + 1 = 8 + s.size by omega] at h; exact h)
          have hln : Hid ((Pl.wr s.data.toList []).length = 8 + s.size) := hide hO5.out.1
          have e78 : 7 + s.size + 1 = 8 + s.size := by omega
          have hRv : (some (s.data.toList.length, if ([] : List UInt8) = [] then none else some ([] : List UInt8).length) : Option (Nat × Option Nat)) = some (s.size, none) := by rw [if_pos rfl]; rfl
          clear hO4
          go_upto_region 21 with fail
          rw [e78]
          clear e78
          obtain ⟨wE, rfl⟩ : ∃ wE, wE = w4 := ⟨_, rfl⟩
          have hbwE := hbw4
          have hswE := hsw4
          clear hbw4 hsw4
          go_upto_region 22 with (at_builtin; refine wpList_append_fits _ rfl _ _ 22 rfl wc.heap.size 5 i0 1 Tryd.underlying22 hi hz1 wc.heap.size (8 + s.size) cap _ rfl (World.ownsRow.alloc hO5.out.2 _) ⟨wE.heap.size, 0, none⟩ 1 1 [.int .u8 125] rfl rfl (one_new _ _ _) (fun u hu => by simp at hu; subst hu; rfl) (by omega) ?_)
          intro w5 hown hgrow
          have hO6 : Hid (Own w5 wc.heap.size wc.heap.size cap ((Pl.wr s.data.toList []) ++ [125]) (8 + s.size + 1)) := hide ⟨by rw [List.length_append, hO5.out.1]; rfl, by rw [cellsB_app]; exact hown⟩
          have hbw5 : Below wc.heap.size wc w5 := (hbwE.alloc hbwE.size _).grown hgrow (by have := hbwE.size; simp; omega) (fun k hk => by cases hk; exact Nat.le_refl _)
          have hsw5 := hbw5.size
          clear hO5 hown hgrow hbwE hswE
          have hB5 := hBH.out.below hbw5
          go_upto_region 24 with (at_builtin; refine wpList_append_fits_any _ rfl _ _ 22 rfl wc.heap.size 5 i0 1 Tryd.underlying22 hi hz1 wc.heap.size (8 + s.size + 1) cap _ rfl hO6.out.2 p2 n2 c2 (cellsB lr) rfl (by rw [cellsB_len, hBL, Nat.mul_one]) hB5.2.1 hB5.news (cellsB_one lr) (by omega) ?_)
          intro w6 hown hgrow
          have hO7 : Hid (Own w6 wc.heap.size wc.heap.size cap (Pl.wr s.data.toList [] ++ 125 :: lr) (8 + s.size + 1 + n2)) := hide (by
            have e : Pl.wr s.data.toList [] ++ 125 :: lr = Pl.wr s.data.toList [] ++ [125] ++ lr := by simp
            rw [e]
            exact ⟨by rw [List.length_append, hO6.out.1, hBL], by rw [cellsB_app]; exact hown⟩)
          have hbw6 : Below wc.heap.size wc w6 := hbw5.grown hgrow hbw5.size (fun k hk => by cases hk; exact Nat.le_refl _)
          clear hO6 hown hgrow hbw5 hsw5 hB5
          have hrow := hide hO7.out.row
          have hbkg := hO7.out.lt.2
          have hzz := hide (zzcop_any wc.heap.size 0 (8 + s.size + 1 + n2) cap (Pl.wr s.data.toList [] ++ 125 :: lr) w6 s (some (s.size, none)) (hide hO7.out.1) hrow.out (Utf8Tabs_below hTH.out hbw6) (by omega) (by omega) (by omega) (by rw [wr_run _ _ _ hnm.out]; show s.size + 16 ≤ cap; omega) hbkg (hide (by rw [Pl.cop_whole _ _ _ hne hnm.out hokH.out]; exact hRv)) ?hval ?hstr)
          case hval => intro k j h; cases h
          case hstr =>
            intro k a h
            injection h with h
            injection h with h _
            subst h
            rw [show s.size = s.data.toList.length from rfl, wr_name]
          have esub : 8 + s.size + 1 + n2 - (7 + (s.size + 2)) = n2 := by omega
          go_upto_region 25 with (go_at_call 6; (with_reducible refine (hzz.out).mono ?_); rintro ev w7 ⟨⟨A, cr, rfl, hA⟩, hb7⟩; rw [esub])
          clear hzz esub
          have hbw7 : Below wc.heap.size wc w7 := hbw6.trans (hb7.mono hbw6.size)
          have hrow7 := hide (hrow.out.below hb7)
          have hbk7 : wc.heap.size < w7.heap.size := Nat.lt_of_lt_of_le hbkg hb7.size
          have hrest : n2 = 0 ∨ some A = some ⟨wc.heap.size, 8 + s.size + 1, none⟩ ∧ RowAt w7 wc.heap.size (8 + s.size + 1) lr := by
            rcases hA with h | rfl
            · exact .inl (by omega)
            · refine .inr ⟨by rw [show 0 + (7 + (s.size + 2)) = 8 + s.size + 1 by omega], ?_⟩
              have h := hrow7.out.drop ((Pl.wr s.data.toList []).length + 1)
              rwa [wr_rest, hln.out, Nat.zero_add] at h
          obtain ⟨b2, o2, hsrc⟩ : ∃ b2 o2, n2 = 0 ∨ p2 = some ⟨b2, o2, none⟩ ∧ RowAt w7 b2 o2 lr := by
            rcases (hBH.out.below hbw7).2.2 with h | ⟨b2, o2, h, hr, _⟩
            · exact ⟨0, 0, .inl h⟩
            · exact ⟨b2, o2, .inr ⟨h, hr⟩⟩
          have hsb := hide (sameBytes_any wc.heap.size (8 + s.size + 1) cr b2 o2 c2 n2 (some A) p2 lr w7 hBL hrest hsrc (by omega))
          clear hrest hsrc hA hrow hb7 hbw6 hbkg
          go_upto_region 27 with (go_at_call 8; (with_reducible refine (hsb.out).mono ?_); rintro ev w8 ⟨rfl, hb8⟩)
          clear hsb
          have hbw8 : Below wc.heap.size wc w8 := hbw7.trans (hb8.mono hbw7.size)
          have hrow8 := hide (hrow7.out.below hb8)
          have hbk8 : wc.heap.size < w8.heap.size := Nat.lt_of_lt_of_le hbk7 hb8.size
          clear hrow7 hbk7 hbw7 hb8
          go_upto_region 32 with fail
          by_cases hx0 : x < 0
          · go_wp2_with fail
            go_ret
            exact ⟨rfl, hbw8⟩
          obtain ⟨k, rfl⟩ : ∃ k : Nat, x = k := ⟨x.toNat, by omega⟩
          by_cases hxm : (k : Int) < 8 + (s.size : Int) + 1
          rotate_left
          · go_wp2_with fail
            go_ret
            exact ⟨rfl, hbw8⟩
          have hkl : k ≤ (Pl.wr s.data.toList []).length := by rw [hln.out]; omega
          have hrk : RowAt w8 wc.heap.size 0 ((Pl.wr s.data.toList []).take k) := by
            have h := hrow8.out.take k
            rwa [List.take_append_of_le_length hkl] at h
          have hzc := hide (zzcop_any wc.heap.size 0 k cap ((Pl.wr s.data.toList []).take k) w8 s none (hide (by rw [List.length_take]; omega)) hrk (Utf8Tabs_below hTH.out hbw8) (by omega) (by omega) (by omega) (by have h := wr_run_cut s.data.toList [] k hnm.out; have h' : s.data.toList.length = s.size := rfl; omega) hbk8 (hide (Pl.cop_cut _ _ _ hne hnm.out hokH.out)) (fun _ _ h => by cases h) (fun _ _ h => by cases h))
          have hkc : (k : Int) ≤ (cap : Int) := by omega
          clear hrk hkl hrow8
          go_wp2_with (go_at_call 6; (with_reducible refine (hzc.out).mono ?_); rintro ev wZ ⟨hres, hbZ⟩; obtain rfl := hres)
          go_ret
          exact ⟨rfl, hbw8.trans (hbZ.mono hbw8.size)⟩
        · have hlne : la ≠ [] := fun e => by rw [e] at hla; simp at hla; omega
          go_upto_region 20 with (at_builtin; refine Lib.wpList_append_fits_string _ rfl _ _ 22 9 rfl wc.heap.size 5 i0 Tryd.underlying22 Tryd.underlying9 hi hz1 (some ⟨wc.heap.size, 0, none⟩) (7 + s.size + 1) cap _ rfl hO4.out.2 ⟨#[44, 34, 97, 114, 103, 34, 58]⟩ rfl (by omega) ?cR ?_)
          case cR => show 7 + s.size + 1 + 7 ≤ cap; omega
          intro wF hown hgrow
          have hOF : Hid (Own wF wc.heap.size wc.heap.size cap (Pl.head ++ s.data.toList ++ [34] ++ Pl.karg) (7 + s.size + 1 + 7)) := hide ⟨by rw [List.length_append, hO4.out.1]; rfl, by rw [cellsB_app]; exact hown⟩
          have hbwF : Below wc.heap.size wc wF := hbw4.grown hgrow hsw4 (fun k hk => by cases hk; exact Nat.le_refl _)
          clear hO4 hown hgrow hbw4 hsw4
          have hAF := hAH.out.below hbwF
          go_upto_region 21 with (at_builtin; refine wpList_append_fits_any _ rfl _ _ 22 rfl wc.heap.size 5 i0 1 Tryd.underlying22 hi hz1 wc.heap.size (7 + s.size + 1 + 7) cap _ rfl hOF.out.2 p1 n1 c1 (cellsB la) rfl (by rw [cellsB_len, hla, Nat.mul_one]) hAF.2.1 hAF.news (cellsB_one la) (by omega) ?_)
          intro wE hown hgrow
          have hO5 : Hid (Own wE wc.heap.size wc.heap.size cap (Pl.wr s.data.toList la) (7 + s.size + 1 + 7 + n1)) := hide (by
            have e : Pl.wr s.data.toList la = Pl.head ++ s.data.toList ++ [34] ++ Pl.karg ++ la := by unfold Pl.wr Pl.mid; rw [if_neg hlne]; simp
            rw [e]
            exact ⟨by rw [List.length_append, hOF.out.1, hla], by rw [cellsB_app]; simpa using hown⟩)
          have hbwE : Below wc.heap.size wc wE := hbwF.grown hgrow hbwF.size (fun k hk => by cases hk; exact Nat.le_refl _)
          have hswE := hbwE.size
          have hln : Hid ((Pl.wr s.data.toList la).length = 7 + s.size + 1 + 7 + n1) := hide hO5.out.1
          have hRv : (some (s.data.toList.length, if la = [] then none else some la.length) : Option (Nat × Option Nat)) = some (s.size, some n1) := by rw [if_neg hlne, hla]; rfl
          clear hOF hown hgrow hbwF hAF
          go_upto_region 22 with (at_builtin; refine wpList_append_fits _ rfl _ _ 22 rfl wc.heap.size 5 i0 1 Tryd.underlying22 hi hz1 wc.heap.size (7 + s.size + 1 + 7 + n1) cap _ rfl (World.ownsRow.alloc hO5.out.2 _) ⟨wE.heap.size, 0, none⟩ 1 1 [.int .u8 125] rfl rfl (one_new _ _ _) (fun u hu => by simp at hu; subst hu; rfl) (by omega) ?_)
          intro w5 hown hgrow
          have hO6 : Hid (Own w5 wc.heap.size wc.heap.size cap ((Pl.wr s.data.toList la) ++ [125]) (7 + s.size + 1 + 7 + n1 + 1)) := hide ⟨by rw [List.length_append, hO5.out.1]; rfl, by rw [cellsB_app]; exact hown⟩
          have hbw5 : Below wc.heap.size wc w5 := (hbwE.alloc hbwE.size _).grown hgrow (by have := hbwE.size; simp; omega) (fun k hk => by cases hk; exact Nat.le_refl _)
          have hsw5 := hbw5.size
          clear hO5 hown hgrow hbwE hswE
          have hB5 := hBH.out.below hbw5
          go_upto_region 24 with (at_builtin; refine wpList_append_fits_any _ rfl _ _ 22 rfl wc.heap.size 5 i0 1 Tryd.underlying22 hi hz1 wc.heap.size (7 + s.size + 1 + 7 + n1 + 1) cap _ rfl hO6.out.2 p2 n2 c2 (cellsB lr) rfl (by rw [cellsB_len, hBL, Nat.mul_one]) hB5.2.1 hB5.news (cellsB_one lr) (by omega) ?_)
          intro w6 hown hgrow
          have hO7 : Hid (Own w6 wc.heap.size wc.heap.size cap (Pl.wr s.data.toList la ++ 125 :: lr) (7 + s.size + 1 + 7 + n1 + 1 + n2)) := hide (by
            have e : Pl.wr s.data.toList la ++ 125 :: lr = Pl.wr s.data.toList la ++ [125] ++ lr := by simp
            rw [e]
            exact ⟨by rw [List.length_append, hO6.out.1, hBL], by rw [cellsB_app]; exact hown⟩)
          have hbw6 : Below wc.heap.size wc w6 := hbw5.grown hgrow hbw5.size (fun k hk => by cases hk; exact Nat.le_refl _)
          clear hO6 hown hgrow hbw5 hsw5 hB5
          have hrow := hide hO7.out.row
          have hbkg := hO7.out.lt.2
          have hzz := hide (zzcop_any wc.heap.size 0 (7 + s.size + 1 + 7 + n1 + 1 + n2) cap (Pl.wr s.data.toList la ++ 125 :: lr) w6 s (some (s.size, some n1)) (hide hO7.out.1) hrow.out (Utf8Tabs_below hTH.out hbw6) (by omega) (by omega) (by omega) (by rw [wr_run _ _ _ hnm.out]; show s.size + 16 ≤ cap; omega) hbkg (hide (by rw [Pl.cop_whole _ _ _ hne hnm.out hokH.out]; exact hRv)) ?hval ?hstr)
          case hval =>
            intro k j h
            injection h with h
            injection h with h h'
            injection h' with h'
            subst h h'
            rw [show s.size = s.data.toList.length from rfl, wr_arg _ _ _ hlne, ← hla, List.take_left' rfl]
            exact Pl.valid_ok hokH.out
          case hstr =>
            intro k a h
            injection h with h
            injection h with h _
            subst h
            rw [show s.size = s.data.toList.length from rfl, wr_name]
          have esub : 7 + s.size + 1 + 7 + n1 + 1 + n2 - (7 + (s.size + 8 + (n1 + 1))) = n2 := by omega
          go_upto_region 25 with (go_at_call 6; (with_reducible refine (hzz.out).mono ?_); rintro ev w7 ⟨⟨A, cr, ca, rfl, hA⟩, hb7⟩; rw [esub])
          clear hzz esub
          have hbw7 : Below wc.heap.size wc w7 := hbw6.trans (hb7.mono hbw6.size)
          have hrow7 := hide (hrow.out.below hb7)
          have hbk7 : wc.heap.size < w7.heap.size := Nat.lt_of_lt_of_le hbkg hb7.size
          have hrest : n2 = 0 ∨ some A = some ⟨wc.heap.size, 7 + s.size + 1 + 7 + n1 + 1, none⟩ ∧ RowAt w7 wc.heap.size (7 + s.size + 1 + 7 + n1 + 1) lr := by
            rcases hA with h | rfl
            · exact .inl (by omega)
            · refine .inr ⟨by rw [show 0 + (7 + (s.size + 8 + (n1 + 1))) = 7 + s.size + 1 + 7 + n1 + 1 by omega], ?_⟩
              have h := hrow7.out.drop ((Pl.wr s.data.toList la).length + 1)
              rwa [wr_rest, hln.out, Nat.zero_add] at h
          obtain ⟨b2, o2, hsrc⟩ : ∃ b2 o2, n2 = 0 ∨ p2 = some ⟨b2, o2, none⟩ ∧ RowAt w7 b2 o2 lr := by
            rcases (hBH.out.below hbw7).2.2 with h | ⟨b2, o2, h, hr, _⟩
            · exact ⟨0, 0, .inl h⟩
            · exact ⟨b2, o2, .inr ⟨h, hr⟩⟩
          have hsb := hide (sameBytes_any wc.heap.size (7 + s.size + 1 + 7 + n1 + 1) cr b2 o2 c2 n2 (some A) p2 lr w7 hBL hrest hsrc (by omega))
          clear hrest hsrc hA hrow hb7 hbw6 hbkg
          go_upto_region 27 with (go_at_call 8; (with_reducible refine (hsb.out).mono ?_); rintro ev w8 ⟨rfl, hb8⟩)
          clear hsb
          have hbw8 : Below wc.heap.size wc w8 := hbw7.trans (hb8.mono hbw7.size)
          have hrow8 := hide (hrow7.out.below hb8)
          have hbk8 : wc.heap.size < w8.heap.size := Nat.lt_of_lt_of_le hbk7 hb8.size
          clear hrow7 hbk7 hbw7 hb8
          have hgot : n1 = 0 ∨ some (⟨wc.heap.size, 7 + (s.size + 8), none⟩ : Addr) = some ⟨wc.heap.size, 7 + (s.size + 8), none⟩ ∧ RowAt w8 wc.heap.size (7 + (s.size + 8)) la := by
            refine .inr ⟨rfl, ?_⟩
            have h := (hrow8.out.drop (7 + (s.data.toList.length + 8))).take n1
            rw [wr_arg _ _ _ hlne, ← hla, List.take_left' rfl, Nat.zero_add] at h
            exact h
          obtain ⟨b1, o1, hsrc⟩ : ∃ b1 o1, n1 = 0 ∨ p1 = some ⟨b1, o1, none⟩ ∧ RowAt w8 b1 o1 la := by
            rcases (hAH.out.below hbw8).2.2 with h | ⟨b1, o1, h, hr, _⟩
            · exact ⟨0, 0, .inl h⟩
            · exact ⟨b1, o1, .inr ⟨h, hr⟩⟩
          have hsb := hide (sameBytes_any wc.heap.size (7 + (s.size + 8)) ca b1 o1 c1 n1 (some ⟨wc.heap.size, 7 + (s.size + 8), none⟩) p1 la w8 hla hgot hsrc (by omega))
          clear hgot hsrc
          have hnil := eql_nil w8 ⟨wc.heap.size, 7 + (s.size + 8), none⟩ n1 ca
          go_upto_region 32 with (go_at_call 8; refine (hsb.out).mono ?_; rintro ev w9 ⟨rfl, hb9⟩)
          clear hsb
          have hbw9 : Below wc.heap.size wc w9 := hbw8.trans (hb9.mono hbw8.size)
          have hrow9 := hide (hrow8.out.below hb9)
          have hbk9 : wc.heap.size < w9.heap.size := Nat.lt_of_lt_of_le hbk8 hb9.size
          clear hrow8 hbk8 hbw8 hb9
          by_cases hx0 : x < 0
          · go_wp2_with fail
            go_ret
            exact ⟨rfl, hbw9⟩
          obtain ⟨k, rfl⟩ : ∃ k : Nat, x = k := ⟨x.toNat, by omega⟩
          by_cases hxm : (k : Int) < 7 + (s.size : Int) + 1 + 7 + (n1 : Int) + 1
          rotate_left
          · go_wp2_with fail
            go_ret
            exact ⟨rfl, hbw9⟩
          have hkl : k ≤ (Pl.wr s.data.toList la).length := by rw [hln.out]; omega
          have hrk : RowAt w9 wc.heap.size 0 ((Pl.wr s.data.toList la).take k) := by
            have h := hrow9.out.take k
            rwa [List.take_append_of_le_length hkl] at h
          have hzc := hide (zzcop_any wc.heap.size 0 k cap ((Pl.wr s.data.toList la).take k) w9 s none (hide (by rw [List.length_take]; omega)) hrk (Utf8Tabs_below hTH.out hbw9) (by omega) (by omega) (by omega) (by have h := wr_run_cut s.data.toList la k hnm.out; have h' : s.data.toList.length = s.size := rfl; omega) hbk9 (hide (Pl.cop_cut _ _ _ hne hnm.out hokH.out)) (fun _ _ h => by cases h) (fun _ _ h => by cases h))
          have hkc : (k : Int) ≤ (cap : Int) := by omega
          clear hrk hkl hrow9
          go_wp2_with (go_at_call 6; (with_reducible refine (hzc.out).mono ?_); rintro ev wZ ⟨hres, hbZ⟩; obtain rfl := hres)
          go_ret
          exact ⟨rfl, hbw9.trans (hbZ.mono hbw9.size)⟩
end Go.Proofs.Qxb6608938aDoor
