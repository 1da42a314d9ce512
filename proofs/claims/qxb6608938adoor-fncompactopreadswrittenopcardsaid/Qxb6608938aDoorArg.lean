/-
  WALKS: plain JSON strings, datatype.CompactArgLen.
-/
import Derived.Test.Qxb6608938aDoorScan
namespace Go.Proofs.Qxb6608938aDoor
open Go.RowKit Go.PlainAid

theorem bne_cases (c d : Int) : ((c == d) = true ∧ (c != d) = false ∧ c = d) ∨ ((c == d) = false ∧ (c != d) = true ∧ c ≠ d) := by
  by_cases e : c = d
  · exact .inl ⟨beq_iff_eq.2 e, by simp [e], e⟩
  · exact .inr ⟨beq_eq_false_iff_ne.2 e, by simp [e], e⟩
theorem pstr_of (l : List UInt8) (h2 : 2 ≤ l.length) (h0 : Pl.B l 0 = 34) (hz : Pl.B l (l.length - 1) = 34) (hall : ∀ j, 1 ≤ j → j < l.length - 1 → 32 ≤ Pl.B l j ∧ Pl.B l j ≠ 34 ∧ Pl.B l j ≠ 92) (hv : Lib.validD l = true) : Pl.pstr l := by
  cases l with
  | nil => simp at h2
  | cons c r =>
    rw [Pl.B_cons] at h0
    have hc : c = 34 := UInt8.toNat_inj.1 (by show c.toNat = 34; omega)
    subst hc
    have hr : r ≠ [] := fun h => by subst h; simp at h2
    obtain ⟨m, d, rfl⟩ : ∃ m d, r = m ++ [d] := ⟨r.dropLast, r.getLast hr, (List.dropLast_concat_getLast hr).symm⟩
    have e1 : (34 :: (m ++ [d])).length - 1 = m.length + 1 := by simp
    rw [e1] at hz hall
    rw [Pl.B_succ, show m.length = m.length + 0 from rfl, Pl.B_right, Pl.B_cons] at hz
    have hd : d = 34 := UInt8.toNat_inj.1 (by show d.toNat = 34; omega)
    subst hd
    refine ⟨m, rfl, ?_, hv⟩
    rw [Pl.all_B Pl.strByte (fun c => 32 ≤ c ∧ c ≠ 34 ∧ c ≠ 92) Pl.str_iff]
    intro k hk
    have := hall (k + 1) (by omega) (by omega)
    rwa [Pl.B_succ, Pl.B_left _ _ _ hk] at this

set_option maxRecDepth 100000 in
set_option maxHeartbeats 4000000 in
theorem jsonStr_any (b o c n : Nat) (l : List UInt8) (w : World) (hl : Hid (l.length = n)) (hr : RowAt w b o l) (h0 : 0 < n) (hn : n ≤ 1048576) :
    Calls Tryd.prog 12 #[.slice (some ⟨b, o, none⟩) n c] w fun e w' => Tells (Pl.pstr l) e ∧ w' = w := by
  have hrH := hide hr
  have c0 := hr 0 (by rw [hl.out]; exact h0)
  rw [Nat.add_zero] at c0
  clear hr
  rcases Nat.lt_or_ge n 2 with h2 | h2
  · go_enter Tryd.func12, Tryd.ntmps12
    go_wp2_with fail
    go_ret
    exact ⟨⟨false, rfl, fun h => by cases h⟩, rfl⟩
  · have cz := hrH.out (n - 1) (by rw [hl.out]; omega)
    rcases bne_cases (Pl.B l 0) 34 with ⟨p1, p2, p3⟩ | ⟨p1, p2, p3⟩
    · rcases bne_cases (Pl.B l (n - 1)) 34 with ⟨q1, q2, q3⟩ | ⟨q1, q2, q3⟩
      · go_enter Tryd.func12, Tryd.ntmps12
        go_wp2_with fail
        go_loopw [3] (fun kv wx => ∃ k : Nat, kv = .int .i64 k ∧ 1 ≤ k ∧ k ≤ n - 1 ∧ wx = w ∧ Hid (∀ j, 1 ≤ j → j < k → 32 ≤ Pl.B l j ∧ Pl.B l j ≠ 34 ∧ Pl.B l j ≠ 92)) (fun kv _ => n - (intOf kv).toNat)
        case atStart => exact ⟨1, rfl, by omega, by omega, rfl, hide (fun j h1 h2 => by omega)⟩
        case round =>
          obtain ⟨k, rfl, hk0, hk, rfl, hall⟩ := hrel
          rcases Nat.lt_or_ge k (n - 1) with hkn | hkn
          · have ck := hrH.out k (by rw [hl.out]; omega)
            have hlt : (k : Int) < (n : Int) - 1 := by omega
            by_cases hg : 32 ≤ Pl.B l k ∧ Pl.B l k ≠ 34 ∧ Pl.B l k ≠ 92
            · obtain ⟨g1, g2, g3⟩ := hg
              have r1 : (Pl.B l k == 34) = false := beq_eq_false_iff_ne.2 g2
              have r2 : (Pl.B l k == 92) = false := beq_eq_false_iff_ne.2 g3
              go_wp2_with fail
              go_roundw
              case rel =>
                refine ⟨k + 1, by go_num, by omega, by omega, by simp, hide (fun j h1 h2 => ?_)⟩
                rcases Nat.lt_or_ge j k with h | h
                · exact hall.out j h1 h
                · obtain rfl : j = k := by omega
                  exact ⟨g1, g2, g3⟩
              case measure => simp [intOf]; omega
            · by_cases g1 : Pl.B l k < 32
              · go_wp2_with fail
                go_ret
                exact ⟨⟨false, rfl, fun h => by cases h⟩, rfl⟩
              · rcases beq_cases (Pl.B l k) 34 with ⟨r1, r2⟩ | ⟨r1, r2⟩
                · go_wp2_with fail
                  go_ret
                  exact ⟨⟨false, rfl, fun h => by cases h⟩, rfl⟩
                · have s1 : (Pl.B l k == 92) = true := beq_iff_eq.2 (by omega)
                  go_wp2_with fail
                  go_ret
                  exact ⟨⟨false, rfl, fun h => by cases h⟩, rfl⟩
          · have hlt : ¬ ((k : Int) < (n : Int) - 1) := by omega
            go_wp2_with (go_at_call 16; refine (utf8_any b o c n l _ hl hrH.out hn).mono ?_; rintro e w' ⟨⟨rv, rfl, hrv⟩, rfl⟩)
            go_ret
            refine ⟨⟨rv, rfl, fun h => pstr_of l (by rw [hl.out]; exact h2) p3 (by rw [hl.out]; exact q3) (fun j h1 h2 => hall.out j h1 (by rw [hl.out] at h2; omega)) (hrv h)⟩, rfl⟩
      · go_enter Tryd.func12, Tryd.ntmps12
        go_wp2_with fail
        go_ret
        exact ⟨⟨false, rfl, fun h => by cases h⟩, rfl⟩
    · go_enter Tryd.func12, Tryd.ntmps12
      go_wp2_with fail
      go_ret
      exact ⟨⟨false, rfl, fun h => by cases h⟩, rfl⟩

theorem toNat_B (l : List UInt8) (k : Nat) : ((l.getD k 0).toNat : Int) = Pl.B l k := rfl
theorem argLen_q (l : List UInt8) (k : Nat) (h0 : Pl.B l 0 = 34) (h1 : 1 ≤ k) (hk : k < l.length) (hall : ∀ j, 1 ≤ j → j < k → 32 ≤ Pl.B l j ∧ Pl.B l j ≠ 34 ∧ Pl.B l j ≠ 92) (hq : Pl.B l k = 34) : Pl.argLen l = k + 1 := by
  unfold Pl.argLen
  have e0 := toNat_B l 0
  have ek := toNat_B l k
  rw [if_pos ⟨fun h => by subst h; simp at hk, by omega⟩, Pl.strLen_quote (l.drop 1) (k - 1) (by rw [List.length_drop]; omega) (fun j hj => ?_) (by rw [getD_drop, show 1 + (k - 1) = k by omega]; omega), if_neg (by omega)]
  · omega
  · rw [getD_drop, Pl.str_iff]
    exact hall (1 + j) (by omega) (by omega)
theorem argLen_b (l : List UInt8) (k : Nat) (h0 : Pl.B l 0 = 34) (h1 : 1 ≤ k) (hk : k < l.length) (hall : ∀ j, 1 ≤ j → j < k → 32 ≤ Pl.B l j ∧ Pl.B l j ≠ 34 ∧ Pl.B l j ≠ 92) (hq : Pl.B l k ≠ 34) (hb : Pl.B l k < 32 ∨ Pl.B l k = 92) : Pl.argLen l = 0 := by
  unfold Pl.argLen
  have e0 := toNat_B l 0
  have ek := toNat_B l k
  rw [if_pos ⟨fun h => by subst h; simp at hk, by omega⟩, Pl.strLen_bad (l.drop 1) (k - 1) (by rw [List.length_drop]; omega) (fun j hj => ?_) (by rw [getD_drop, show 1 + (k - 1) = k by omega]; omega) ?_, if_pos rfl]
  · rw [getD_drop, show 1 + (k - 1) = k by omega]
    cases hs : Pl.strByte (l.getD k 0) with
    | false => rfl
    | true => rw [Pl.str_iff] at hs; omega
  · rw [getD_drop, Pl.str_iff]
    exact hall (1 + j) (by omega) (by omega)
theorem argLen_e (l : List UInt8) (h0 : Pl.B l 0 = 34) (h1 : 0 < l.length) (hall : ∀ j, 1 ≤ j → j < l.length → 32 ≤ Pl.B l j ∧ Pl.B l j ≠ 34 ∧ Pl.B l j ≠ 92) : Pl.argLen l = 0 := by
  unfold Pl.argLen
  have e0 := toNat_B l 0
  rw [if_pos ⟨fun h => by subst h; simp at h1, by omega⟩, Pl.strLen_open, if_pos rfl]
  rw [Pl.all_B Pl.strByte (fun c => 32 ≤ c ∧ c ≠ 34 ∧ c ≠ 92) Pl.str_iff]
  intro k hk
  rw [List.length_drop] at hk
  rw [Pl.B_drop]
  exact hall (1 + k) (by omega) (by omega)
def NumAt (l : List UInt8) (i : Nat) : Prop := i = 0 ∧ (l.length = 0 ∨ Pl.B l 0 ≠ 34 ∧ Pl.B l 0 ≠ 45) ∨ i = 1 ∧ 0 < l.length ∧ Pl.B l 0 = 45
theorem argLen_n (l : List UInt8) (i : Nat) (h : NumAt l i) : Pl.argLen l = Pl.numLen i l := by
  unfold Pl.argLen
  have e0 := toNat_B l 0
  rcases h with ⟨rfl, h⟩ | ⟨rfl, h1, h2⟩
  · rcases h with h | ⟨h1, h2⟩
    · have : l = [] := List.length_eq_zero_iff.1 h
      subst this; rfl
    · rw [if_neg (fun h => by have := h.2; omega), if_neg (fun h => by have := h.2; omega)]
  · rw [if_neg (fun h => by have := h.2; omega), if_pos ⟨fun h => by subst h; simp at h1, by omega⟩]
theorem numLen_end (l : List UInt8) (i : Nat) (h : l.length ≤ i) : Pl.numLen i l = 0 := by unfold Pl.numLen; rw [if_pos (.inl h)]
theorem numLen_no (l : List UInt8) (i : Nat) (h : Pl.B l i < 48 ∨ 57 < Pl.B l i) : Pl.numLen i l = 0 := by
  have hd : Pl.dig (l.getD i 0) = false := by
    cases hs : Pl.dig (l.getD i 0) with
    | false => rfl
    | true => rw [Pl.dig_iff, toNat_B] at hs; omega
  unfold Pl.numLen
  rw [if_pos (.inr hd)]
theorem numLen_zero (l : List UInt8) (i : Nat) (hi : i < l.length) (h : Pl.B l i = 48) : Pl.numLen i l = i + 1 := by
  have e := toNat_B l i
  unfold Pl.numLen
  rw [if_neg, if_pos (by omega)]
  rintro (h1 | h1)
  · omega
  · have h2 : Pl.dig (l.getD i 0) = true := by rw [Pl.dig_iff]; omega
    rw [h2] at h1; cases h1
theorem numLen_run (l : List UInt8) (i k : Nat) (hi : i < l.length) (h : 48 ≤ Pl.B l i ∧ Pl.B l i ≤ 57) (hz : Pl.B l i ≠ 48) (hik : i ≤ k) (hk : k ≤ l.length) (hall : ∀ j, i ≤ j → j < k → 48 ≤ Pl.B l j ∧ Pl.B l j ≤ 57) (hs : k = l.length ∨ Pl.B l k < 48 ∨ 57 < Pl.B l k) : Pl.numLen i l = k := by
  have e := toNat_B l i
  unfold Pl.numLen
  rw [if_neg, if_neg (by omega), Pl.run_at Pl.dig (l.drop i) (k - i) (by rw [List.length_drop]; omega)]
  · omega
  · intro j hj
    rw [getD_drop, Pl.dig_iff]
    exact hall (i + j) (by omega) (by omega)
  · rw [getD_drop, List.length_drop, show i + (k - i) = k by omega]
    rcases hs with h | h
    · exact .inl (by omega)
    · right
      cases hs : Pl.dig (l.getD k 0) with
      | false => rfl
      | true => rw [Pl.dig_iff, toNat_B] at hs; omega
  · rintro (h1 | h1)
    · omega
    · have h2 : Pl.dig (l.getD i 0) = true := by rw [Pl.dig_iff]; omega
      rw [h2] at h1; cases h1

set_option maxRecDepth 100000 in
set_option maxHeartbeats 4000000 in
theorem argLen_any (b o c n : Nat) (l : List UInt8) (w : World) (hl : Hid (l.length = n)) (hr : RowAt w b o l) (hn : n ≤ 1048576) (k0 : Nat) (hk0 : Hid (Pl.argLen l = k0)) :
    Calls Tryd.prog 18 #[.slice (some ⟨b, o, none⟩) n c] w fun e w' => e = .returned (.int .i64 k0) ∧ w' = w := by
  have hrH := hide hr
  clear hr
  by_cases hq : 0 < n ∧ Pl.B l 0 = 34
  · obtain ⟨h0, hq⟩ := hq
    have c0 := hrH.out 0 (by rw [hl.out]; exact h0)
    rw [Nat.add_zero, hq] at c0
    go_enter Tryd.func18, Tryd.ntmps18
    go_wp2_with fail
    go_loopw [3] (fun kv wx => ∃ k : Nat, kv = .int .i64 k ∧ 1 ≤ k ∧ k ≤ n ∧ wx = w ∧ Hid (∀ j, 1 ≤ j → j < k → 32 ≤ Pl.B l j ∧ Pl.B l j ≠ 34 ∧ Pl.B l j ≠ 92)) (fun kv _ => n - (intOf kv).toNat)
    case atStart => exact ⟨1, rfl, by omega, by omega, rfl, hide (fun j h1 h2 => by omega)⟩
    case round =>
      obtain ⟨k, rfl, hk1, hk, rfl, hall⟩ := hrel
      rcases Nat.lt_or_ge k n with hkn | hkn
      · have ck := hrH.out k (by rw [hl.out]; omega)
        rcases beq_cases (Pl.B l k) 34 with ⟨r1, r2⟩ | ⟨r1, r2⟩
        · have hres := argLen_q l k hq hk1 (by rw [hl.out]; exact hkn) hall.out r2
          obtain rfl := hk0.out.symm.trans hres
          go_wp2_with fail
          go_ret
          exact ⟨rfl, rfl⟩
        · by_cases hg : 32 ≤ Pl.B l k ∧ Pl.B l k ≠ 92
          · obtain ⟨g1, g3⟩ := hg
            have s1 : (Pl.B l k == 92) = false := beq_eq_false_iff_ne.2 g3
            go_wp2_with fail
            go_roundw
            case rel =>
              refine ⟨k + 1, by go_num, by omega, by omega, by simp, hide (fun j h1 h2 => ?_)⟩
              rcases Nat.lt_or_ge j k with h | h
              · exact hall.out j h1 h
              · obtain rfl : j = k := by omega
                exact ⟨g1, r2, g3⟩
            case measure => simp [intOf]; omega
          · have hres := argLen_b l k hq hk1 (by rw [hl.out]; exact hkn) hall.out r2 (by omega)
            obtain rfl := hk0.out.symm.trans hres
            by_cases g1 : Pl.B l k < 32
            · go_wp2_with fail
              go_ret
              exact ⟨rfl, rfl⟩
            · have s1 : (Pl.B l k == 92) = true := beq_iff_eq.2 (by omega)
              go_wp2_with fail
              go_ret
              exact ⟨rfl, rfl⟩
      · have hres := argLen_e l hq (by rw [hl.out]; exact h0) (fun j h1 h2 => hall.out j h1 (by rw [hl.out] at h2; omega))
        obtain rfl := hk0.out.symm.trans hres
        go_wp2_with fail
        go_ret
        exact ⟨rfl, rfl⟩
  · have hstart : n = 0 ∨ 0 < n ∧ Pl.B l 0 ≠ 34 := by
      rcases Nat.eq_zero_or_pos n with h | h
      · exact .inl h
      · exact .inr ⟨h, fun e => hq ⟨h, e⟩⟩
    clear hq
    rcases hstart with h0 | ⟨h0, h34⟩
    · have hres := (argLen_n l 0 (.inl ⟨rfl, .inl (by rw [hl.out]; exact h0)⟩)).trans (numLen_end l 0 (by rw [hl.out]; omega))
      obtain rfl := hk0.out.symm.trans hres
      subst h0
      go_enter Tryd.func18, Tryd.ntmps18
      go_wp2_with fail
      go_ret
      exact ⟨rfl, rfl⟩
    · have c0 := hrH.out 0 (by rw [hl.out]; exact h0)
      rw [Nat.add_zero] at c0
      have q34 : (Pl.B l 0 == 34) = false := beq_eq_false_iff_ne.2 h34
      have h45 := beq_cases (Pl.B l 0) 45
      go_enter Tryd.func18, Tryd.ntmps18
      go_upto_if 47 with fail
      go_cut [5] (fun iv w' => ∃ i : Nat, iv = .int .i64 i ∧ w' = w ∧ i ≤ 1 ∧ Hid (NumAt l i))
      case first =>
        rcases h45 with ⟨q1, q2⟩ | ⟨q1, q2⟩
        · go_wp2_with fail
          go_meet
          case rel => exact ⟨1, rfl, rfl, by omega, .inr ⟨rfl, by rw [hl.out]; exact h0, q2⟩⟩
        · go_wp2_with fail
          go_meet
          case rel => exact ⟨0, rfl, rfl, by omega, .inl ⟨rfl, .inr ⟨h34, q2⟩⟩⟩
      obtain ⟨i, rfl, rfl, hi1, hnum⟩ := hcut
      have hres0 := hide ((hk0.out.symm.trans (argLen_n l i hnum.out)))
      clear h45 q34 c0
      rcases Nat.lt_or_ge i n with hin | hin
      · have ci := hrH.out i (by rw [hl.out]; exact hin)
        have hni : ((i : Int) == (n : Int)) = false := beq_eq_false_iff_ne.2 (by omega)
        by_cases hd : 48 ≤ Pl.B l i ∧ Pl.B l i ≤ 57
        · obtain ⟨d1, d2⟩ := hd
          rcases beq_cases (Pl.B l i) 48 with ⟨q1, q2⟩ | ⟨q1, q2⟩
          · obtain rfl := hres0.out.trans (numLen_zero l i (by rw [hl.out]; exact hin) q2)
            go_wp2_with fail
            go_ret
            exact ⟨rfl, rfl⟩
          · go_wp2_with fail
            go_loopw [5] (fun kv wx => ∃ k : Nat, kv = .int .i64 k ∧ i ≤ k ∧ k ≤ n ∧ wx = wc ∧ Hid (∀ j, i ≤ j → j < k → 48 ≤ Pl.B l j ∧ Pl.B l j ≤ 57)) (fun kv _ => n - (intOf kv).toNat)
            case atStart => exact ⟨i, rfl, by omega, by omega, by simp, hide (fun j h1 h2 => by omega)⟩
            case round =>
              obtain ⟨k, rfl, hk1, hk, rfl, hall⟩ := hrel
              rcases Nat.lt_or_ge k n with hkn | hkn
              · have ck := hrH.out k (by rw [hl.out]; omega)
                by_cases hdk : 48 ≤ Pl.B l k ∧ Pl.B l k ≤ 57
                · obtain ⟨e1, e2⟩ := hdk
                  go_wp2_with fail
                  go_roundw
                  case rel =>
                    refine ⟨k + 1, by go_num, by omega, by omega, by simp, hide (fun j h1 h2 => ?_)⟩
                    rcases Nat.lt_or_ge j k with h | h
                    · exact hall.out j h1 h
                    · obtain rfl : j = k := by omega
                      exact ⟨e1, e2⟩
                  case measure => simp [intOf]; omega
                · obtain rfl := hres0.out.trans (numLen_run l i k (by rw [hl.out]; exact hin) ⟨d1, d2⟩ q2 hk1 (by rw [hl.out]; exact hk) hall.out (.inr (by omega)))
                  by_cases e1 : 48 ≤ Pl.B l k0
                  · have e2 : 57 < Pl.B l k0 := by omega
                    go_wp2_with fail
                    go_ret
                    exact ⟨rfl, rfl⟩
                  · go_wp2_with fail
                    go_ret
                    exact ⟨rfl, rfl⟩
              · obtain rfl := hres0.out.trans (numLen_run l i k (by rw [hl.out]; exact hin) ⟨d1, d2⟩ q2 hk1 (by rw [hl.out]; exact hk) hall.out (.inl (by rw [hl.out]; omega)))
                go_wp2_with fail
                go_ret
                exact ⟨rfl, rfl⟩
        · obtain rfl := hres0.out.trans (numLen_no l i (by omega))
          by_cases e1 : Pl.B l i < 48
          · go_wp2_with fail
            go_ret
            exact ⟨rfl, rfl⟩
          · have e2 : 57 < Pl.B l i := by omega
            go_wp2_with fail
            go_ret
            exact ⟨rfl, rfl⟩
      · obtain rfl := hres0.out.trans (numLen_end l i (by rw [hl.out]; exact hin))
        have hni : ((i : Int) == (n : Int)) = true := beq_iff_eq.2 (by omega)
        go_wp2_with fail
        go_ret
        exact ⟨rfl, rfl⟩
end Go.Proofs.Qxb6608938aDoor
