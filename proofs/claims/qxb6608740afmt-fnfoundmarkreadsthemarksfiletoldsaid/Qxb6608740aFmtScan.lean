/-
  WALKS: zzDigitsAt, zzScanMark: the model's reader of a line computes 'pm' too.
-/
import Derived.Test.Qxb6608740aFmtMark
import Derived.OwnWalk
namespace Go.Proofs.Qxb6608740aFmt
open Go.RowKit Go.PlainAid
set_option linter.unusedSimpArgs false

/-! ### plain -/
theorem valN_app : ∀ (a b : List UInt8) (e : Nat), Pl.valN (a ++ b) e = Pl.valN b (Pl.valN a e) := by
  intro a
  induction a with
  | nil => intros; rfl
  | cons c a ih => intro b e; rw [List.cons_append, Pl.valN, ih, Pl.valN]
theorem valN_take_le (d : List UInt8) (k : Nat) : Pl.valN (d.take k) 0 ≤ Pl.valN d 0 := by
  have h := valN_app (d.take k) (d.drop k) 0
  rw [List.take_append_drop] at h
  rw [h]; exact Pl.valN_le _ _
theorem valN_step (d : List UInt8) (k : Nat) (hk : k < d.length) (h : 48 ≤ Pl.B d k) : ((Pl.valN (d.take (k + 1)) 0 : Nat) : Int) = (Pl.valN (d.take k) 0 : Nat) * 10 + (Pl.B d k - 48) := by
  rw [List.take_add_one, List.getElem?_eq_getElem hk]
  show ((Pl.valN (d.take k ++ [d[k]]) 0 : Nat) : Int) = _
  rw [Pl.valN_snoc]
  rw [Pl.B_get d k hk] at h ⊢
  omega
theorem B_ne {d : List UInt8} {x : UInt8} (h : x ∉ d) (k : Nat) (hk : k < d.length) : Pl.B d k ≠ (x.toNat : Int) := by
  rw [Pl.B_get d k hk]
  intro e
  have e2 : d[k] = x := UInt8.toNat_inj.1 (by omega)
  exact h (e2 ▸ List.getElem_mem hk)
/-- A list is what stands ahead of the first x, and the rest. -/
theorem cut_at (x : UInt8) (l : List UInt8) : ∃ d r, l = d ++ r ∧ x ∉ d ∧ (r = [] ∨ ∃ r', r = x :: r') := by
  by_cases h : x ∈ l
  · obtain ⟨a, r, rfl, ha⟩ := List.eq_append_cons_of_mem h
    exact ⟨a, x :: r, rfl, ha, .inr ⟨r, rfl⟩⟩
  · exact ⟨l, [], by simp, h, .inl rfl⟩
theorem pdR_over {d : List UInt8} {k : Nat} (h : Pl.big ≤ Pl.valN (d.take k) 0) : pdR d = (0, false) := by
  have h1 := valN_take_le d k
  by_cases hd : Pl.allDig d = true
  · exact pdR_big hd (by omega)
  · exact pdR_no (by simpa using hd)

theorem ret_da {d : List UInt8} {a j : Int} {k : Bool} (h : pdR d = (a, k)) : Ending.returned (.tuple #[.int .i64 a, .int .i64 j, .bool k]) = .returned (.tuple #[.int .i64 (pdR d).1, .int .i64 j, .bool (pdR d).2]) := by rw [h]

set_option maxHeartbeats 1000000 in
theorem digitsAt_any (b o c : Nat) (l p d r : List UInt8) (n i : Nat) (w : World) (hl : Hid (l.length = n)) (hr : RowAt w b o l) (hlp : l = p ++ (d ++ r)) (hi : p.length = i) (hd : (32 : UInt8) ∉ d) (hrr : r = [] ∨ ∃ r', r = 32 :: r') (hn : n ≤ 1048576) :
    Calls Tryf.prog 18 #[.slice (some ⟨b, o, none⟩) n c, .int .i64 i] w fun e w' => ∃ j : Nat, e = .returned (.tuple #[.int .i64 (pdR d).1, .int .i64 j, .bool (pdR d).2]) ∧ w' = w ∧ ((pdR d).2 = true → j = i + d.length) := by
  have b0 := Pl.B_nonneg d
  have b1 := Pl.B_le d
  have hne := B_ne hd
  have hlen : Hid (i + (d.length + r.length) = n) := hide (by rw [← hl.out, hlp, ← hi]; simp)
  have hcel : Hid (∀ k, k < d.length → w.cell? ⟨b, o + (i + k), none⟩ = some (.int .u8 (Pl.B d k))) := hide fun k hk => by
    have h := hr (i + k) (by rw [hl.out]; have := hlen.out; omega)
    rwa [hlp, ← hi, Pl.B_right, Pl.B_left _ _ _ hk, hi] at h
  have hend : Hid (i + d.length = n ∨ (i + d.length < n ∧ w.cell? ⟨b, o + (i + d.length), none⟩ = some (.int .u8 32))) := by
    rcases hrr with rfl | ⟨r', rfl⟩
    · exact .inl (by have := hlen.out; simpa using this)
    · refine .inr ⟨by have := hlen.out; simp at this; omega, ?_⟩
      have h := hr (i + d.length) (by rw [hl.out]; have := hlen.out; simp at this; omega)
      have e : Pl.B l (i + d.length) = 32 := by
        rw [hlp, ← hi, Pl.B_right]
        have := Pl.B_right d (32 :: r') 0
        rw [Nat.add_zero] at this
        rw [this]; rfl
      rwa [e] at h
  have hle : i + d.length ≤ n := by have := hlen.out; omega
  clear hrr hlp hr hlen hl hi
  go_enter Tryf.func18, Tryf.ntmps18
  go_wp2
  go_loop [7, 8] (fun vv jv => ∃ (k : Nat) (v : Int), k ≤ d.length ∧ vv = .int .i64 v ∧ jv = .int .i64 ((i : Int) + k) ∧ 0 ≤ v ∧ v ≤ 9223372036854775807 ∧ Hid (((Pl.valN (d.take k) 0 : Nat) : Int) = v) ∧ Hid (∀ j, j < k → 48 ≤ Pl.B d j ∧ Pl.B d j ≤ 57)) (fun _ jv => n - (intOf jv).toNat)
  case atStart => exact ⟨0, 0, Nat.zero_le _, rfl, by go_num, by omega, by omega, hide rfl, hide fun j hj => absurd hj (Nat.not_lt_zero _)⟩
  case round =>
    obtain ⟨k, v, hk, rfl, rfl, hv0, hv1, hval, hall⟩ := hrel
    by_cases hlt : k < d.length
    · have hcell := hcel.out k hlt
      have hnek := hne k hlt
      have hbn : ((UInt8.toNat 32 : Nat) : Int) = 32 := rfl
      rw [hbn] at hnek
      clear hbn
      have hb0 := b0 k
      have hb1 := b1 k
      have hkn : i + k < n := by omega
      by_cases h1 : Pl.B d k < 48
      · have hv := hide (pdR_no (not_dig (l := d) (k := k) hlt (by omega)))
        go_wp2
        go_ret3
        exact ⟨i + k, ret_da hv.out, rfl, fun h => by rw [hv.out] at h; cases h⟩
      by_cases h2 : 57 < Pl.B d k
      · have hv := hide (pdR_no (not_dig (l := d) (k := k) hlt (by omega)))
        go_wp2
        go_ret3
        exact ⟨i + k, ret_da hv.out, rfl, fun h => by rw [hv.out] at h; cases h⟩
      have hst := hide (valN_step d k hlt (by omega))
      by_cases h3 : (9223372036854775807 - (Pl.B d k - 48)) / 10 < v
      · have hv := hide (pdR_over (d := d) (k := k + 1) (by
          have h4 := hst.out
          rw [hval.out] at h4
          unfold Pl.big
          omega))
        go_wp2
        go_ret3
        exact ⟨i + k, ret_da hv.out, rfl, fun h => by rw [hv.out] at h; cases h⟩
      · go_wp2
        go_round
        case rel => exact ⟨k + 1, v * 10 + (Pl.B d k - 48), by omega, by go_num, by go_num, by omega, by omega, hide (by rw [hst.out, hval.out]), hide fun j hj => by
          by_cases e : j = k
          · subst e; omega
          · exact hall.out j (by omega)⟩
        case measure => simp [intOf]; omega
    · have hke : k = d.length := by omega
      subst hke
      by_cases h0 : d.length = 0
      · have hv := hide (pdR_no (not_dig0 h0))
        have hend' := hend.out
        rw [h0, Nat.add_zero] at hend'
        rcases hend' with hen | ⟨hen, hcell⟩
        · go_wp2
          go_ret3
          exact ⟨_, ret_da hv.out, rfl, fun h => by simp [hv.out] at h⟩
        · go_wp2
          go_ret3
          exact ⟨_, ret_da hv.out, rfl, fun h => by simp [hv.out] at h⟩
      · have hq : ((i : Int) + (d.length : Nat) == i) = false := beq_eq_false_iff_ne.2 (by omega)
        have hv : Hid (pdR d = (v, true)) := hide (by
          have hd := (allDig_iff d).2 ⟨by omega, hall.out⟩
          have h4 := hval.out
          rw [List.take_length] at h4
          rw [pdR_ok hd (by unfold Pl.big; omega), h4])
        rcases hend.out with hen | ⟨hen, hcell⟩
        · have hlt2 : ¬ ((i : Int) + (d.length : Nat) < n) := by omega
          have henH := hide hen
          clear hen
          go_wp2
          go_ret3
          exact ⟨_, ret_da hv.out, rfl, fun _ => rfl⟩
        · go_wp2
          go_ret3
          exact ⟨_, ret_da hv.out, rfl, fun _ => by omega⟩

theorem digitsAt_at (b o c : Nat) (l p d r : List UInt8) (n i : Nat) (iv : Int) (w : World) (hiv : iv = (i : Int)) (hl : Hid (l.length = n)) (hr : RowAt w b o l) (hlp : l = p ++ (d ++ r)) (hi : p.length = i) (hd : (32 : UInt8) ∉ d) (hrr : r = [] ∨ ∃ r', r = 32 :: r') (hn : n ≤ 1048576) :
    Calls Tryf.prog 18 #[.slice (some ⟨b, o, none⟩) n c, .int .i64 iv] w fun e w' => ∃ j : Nat, e = .returned (.tuple #[.int .i64 (pdR d).1, .int .i64 j, .bool (pdR d).2]) ∧ w' = w ∧ ((pdR d).2 = true → j = i + d.length) := by
  subst hiv
  exact digitsAt_any b o c l p d r n i w hl hr hlp hi hd hrr hn

/-! ### what a line reads as, piece by piece -/
theorem pm_one {a : List UInt8} (ha : (32 : UInt8) ∉ a) : Pl.pm a = Pl.bad := by
  unfold Pl.pm; rw [Pl.sp_none _ ha]
theorem pm_two {a b : List UInt8} (ha : (32 : UInt8) ∉ a) (hb : (32 : UInt8) ∉ b) : Pl.pm (a ++ 32 :: b) = Pl.bad := by
  unfold Pl.pm
  rw [Pl.sp_mk _ _ ha]
  simp only
  rw [Pl.sp_none _ hb]
theorem pm_name {a r : List UInt8} (ha : (32 : UInt8) ∉ a) (hr : r = [] ∨ ∃ r', r = 32 :: r') (hv : Pl.validName a = false) : Pl.pm (a ++ r) = Pl.bad := by
  rcases hr with rfl | ⟨r', rfl⟩
  · rw [List.append_nil]; exact pm_one ha
  · unfold Pl.pm
    rw [Pl.sp_mk _ _ ha]
    simp only
    cases h : Pl.sp r' with
    | none => rfl
    | some bc =>
      obtain ⟨x, y⟩ := bc
      simp only
      split
      · rfl
      · exact pm3_no hv
theorem pm_many {a b u : List UInt8} (ha : (32 : UInt8) ∉ a) (hb : (32 : UInt8) ∉ b) (hu : (32 : UInt8) ∈ u) : Pl.pm (a ++ 32 :: (b ++ 32 :: u)) = Pl.bad := by
  unfold Pl.pm
  rw [Pl.sp_mk _ _ ha]
  simp only
  rw [Pl.sp_mk _ _ hb]
  simp only
  rw [if_pos (by simpa using hu)]
theorem pm_first {a b r : List UInt8} {x : Int} (ha : (32 : UInt8) ∉ a) (hb : (32 : UInt8) ∉ b) (hr : r = [] ∨ ∃ r', r = 32 :: r') (hv : Pl.validName a = true) (hx : pdR (Pl.strip b) = (x, false)) : Pl.pm (a ++ 32 :: (b ++ r)) = Pl.bad := by
  rcases hr with rfl | ⟨u, rfl⟩
  · rw [List.append_nil]; exact pm_two ha hb
  · by_cases hu : (32 : UInt8) ∈ u
    · exact pm_many ha hb hu
    · rw [Pl.three_pm ha hb hu]; exact pm3_bad1 hv hx
theorem pm_second {a b d r : List UInt8} {y : Int} (ha : (32 : UInt8) ∉ a) (hb : (32 : UInt8) ∉ b) (hd : (32 : UInt8) ∉ d) (hr : r = [] ∨ ∃ r', r = 32 :: r') (hv : Pl.validName a = true) (hx : pdR d = (y, false)) : Pl.pm (a ++ 32 :: (b ++ 32 :: (d ++ r))) = Pl.bad := by
  rcases hr with rfl | ⟨u, rfl⟩
  · rw [List.append_nil, Pl.three_pm ha hb hd]; exact pm3_bad2 hv hx
  · exact pm_many ha hb (by simp)
theorem pm_good {a b d : List UInt8} {x y : Int} (ha : (32 : UInt8) ∉ a) (hb : (32 : UInt8) ∉ b) (hd : (32 : UInt8) ∉ d) (hv : Pl.validName a = true) (hx : pdR (Pl.strip b) = (x, true)) (hy : pdR d = (y, true)) : Pl.pm (a ++ 32 :: (b ++ 32 :: (d ++ []))) = (a, if Pl.minus b then -x else x, y, true) := by
  rw [List.append_nil, Pl.three_pm ha hb hd]; exact pm3_ok hv hx hy
/-- The start's piece: with a sign or without. -/
theorem start_piece (t : List UInt8) : ∃ (ng : Bool) (d r : List UInt8), t = (if ng then [45] else []) ++ (d ++ r) ∧ (32 : UInt8) ∉ (if ng then [45] else []) ++ d ∧ (32 : UInt8) ∉ d ∧ (r = [] ∨ ∃ r', r = 32 :: r') ∧ Pl.strip ((if ng then [45] else []) ++ d) = d ∧ Pl.minus ((if ng then [45] else []) ++ d) = ng ∧ ((ng = true ∧ 0 < t.length ∧ Pl.B t 0 = 45) ∨ (ng = false ∧ (t.length = 0 ∨ (0 < t.length ∧ Pl.B t 0 ≠ 45)))) := by
  by_cases h : Pl.minus t = true
  · cases t with
    | nil => cases h
    | cons c t1 =>
      have hc : c = 45 := by unfold Pl.minus at h; simpa using h
      subst hc
      obtain ⟨d, r, rfl, hd, hr⟩ := cut_at 32 t1
      refine ⟨true, d, r, by simp, by simp [hd], hd, hr, rfl, rfl, .inl ⟨rfl, by simp, rfl⟩⟩
  · have hf : Pl.minus t = false := by simpa using h
    obtain ⟨d, r, rfl, hd, hr⟩ := cut_at 32 t
    have hm : Pl.minus d = false := by
      cases d with
      | nil => rfl
      | cons c d1 => exact hf
    refine ⟨false, d, r, by simp, by simpa using hd, hd, hr, by simp [Pl.strip, hm], by simpa using hm, .inr ⟨rfl, ?_⟩⟩
    by_cases h0 : (d ++ r).length = 0
    · exact .inl h0
    · refine .inr ⟨by omega, fun e => ?_⟩
      have := minus_B (b := d ++ r) (by omega)
      rw [hf, e] at this
      cases this

theorem ret_sm {r : Pl.Mk} {a : List UInt8} {x y : Int} {k : Bool} (h : r = (a, x, y, k)) :
    Ending.returned (.tuple #[.string ⟨a.toArray⟩, .int .i64 x, .int .i64 y, .bool k]) = .returned (.tuple #[.string ⟨r.1.toArray⟩, .int .i64 r.2.1, .int .i64 r.2.2.1, .bool r.2.2.2]) := by rw [h]

set_option maxRecDepth 100000 in
set_option maxHeartbeats 2000000 in
theorem scan_any (b o c : Nat) (l : List UInt8) (n : Nat) (w : World) (hl : Hid (l.length = n)) (hr : RowAt w b o l) (hn : n ≤ 1048576) (hcap : n ≤ c) (hc : c ≤ 9223372036854775807) :
    Calls Tryf.prog 14 #[.slice (some ⟨b, o, none⟩) n c] w fun e w' => e = .returned (.tuple #[.string ⟨(Pl.pm l).1.toArray⟩, .int .i64 (Pl.pm l).2.1, .int .i64 (Pl.pm l).2.2.1, .bool (Pl.pm l).2.2.2]) ∧ w' = w := by
  obtain ⟨a, r, hla, ha, hrr⟩ := cut_at 32 l
  have b0 := Pl.B_nonneg a
  have b1 := Pl.B_le a
  obtain ⟨m, hm⟩ : ∃ m, a.length = m := ⟨_, rfl⟩
  have hne := B_ne ha
  have hbn : ((UInt8.toNat 32 : Nat) : Int) = 32 := rfl
  rw [hbn] at hne
  clear hbn
  have hlen : Hid (m + r.length = n) := hide (by rw [← hl.out, hla, ← hm]; simp)
  have hcel : Hid (∀ k, k < m → w.cell? ⟨b, o + k, none⟩ = some (.int .u8 (Pl.B a k))) := hide fun k hk => by
    have h := hr k (by rw [hl.out]; have := hlen.out; omega)
    rwa [hla, Pl.B_left _ _ _ (by omega)] at h
  have hle : m ≤ n := by have := hlen.out; omega
  have hra : Hid (RowAt w b o a) := hide (RowAt.piece (p := []) (q := a) (r := r) (by rw [List.nil_append, ← hla]; exact hr))
  have hmH := hide hm
  have hrH := hide hr
  have hneH := hide hne
  have hlaH := hide hla
  clear hm hr hne hla
  go_enter Tryf.func14, Tryf.ntmps14
  go_wp2
  go_loop [6] (fun jv => ∃ (k : Nat), k ≤ m ∧ jv = .int .i64 k ∧ Hid (∀ j, j < k → 33 ≤ Pl.B a j ∧ Pl.B a j ≤ 126)) (fun jv => n - (intOf jv).toNat)
  case atStart => exact ⟨0, Nat.zero_le _, rfl, hide fun j hj => absurd hj (Nat.not_lt_zero _)⟩
  case round =>
    obtain ⟨k, hk, rfl, hall⟩ := hrel
    by_cases hlt : k < m
    · have hcell := hcel.out k hlt
      have hnek := hneH.out k (by rw [hmH.out]; exact hlt)
      have hb0 := b0 k
      have hb1 := b1 k
      have hkn : k < n := by omega
      by_cases h1 : 33 ≤ Pl.B a k ∧ Pl.B a k ≤ 126
      · obtain ⟨h1, h2⟩ := h1
        go_wp2_with (go_at_call 17; refine (nameByte_yes _ _ h1 h2).mono ?_; rintro e w' ⟨rfl, rfl⟩)
        go_round
        case rel => exact ⟨k + 1, by omega, by go_num, hide fun j hj => by
          by_cases e : j = k
          · subst e; omega
          · exact hall.out j (by omega)⟩
        case measure => simp [intOf]; omega
      · have hfin : Hid (Pl.pm l = Pl.bad) := hide (by rw [hlaH.out]; exact pm_name ha hrr (not_valid (k := k) (by rw [hmH.out]; exact hlt) h1))
        go_wp2_with (go_at_call 17; refine (nameByte_no _ _ h1).mono ?_; rintro e w' ⟨rfl, rfl⟩)
        refine bodyPost_ret (v := .tuple #[.string ⟨#[]⟩, .int .i64 0, .int .i64 0, .bool false]) (by simp [results, Tryf.results14, go_sem]) rfl ⟨ret_sm (a := []) hfin.out, rfl⟩
    · have hke : k = m := by omega
      subst hke
      clear hlt
      by_cases h0 : k = 0
      · have hfin : Hid (Pl.pm l = Pl.bad) := hide (by rw [hlaH.out]; exact pm_name ha hrr (not_valid0 (hmH.out.trans h0)))
        subst h0
        rcases hrr with rfl | ⟨t, rfl⟩
        · have hkn : n = 0 := by have := hlen.out; simpa using this.symm
          subst hkn
          go_wp2
          refine bodyPost_ret (v := .tuple #[.string ⟨#[]⟩, .int .i64 0, .int .i64 0, .bool false]) (by simp [results, Tryf.results14, go_sem]) rfl ⟨ret_sm (a := []) hfin.out, rfl⟩
        · have hkn : 0 < n := by have := hlen.out; simp at this; omega
          have hcell : w.cell? ⟨b, o, none⟩ = some (.int .u8 32) := by
            have h := hrH.out 0 (by rw [hl.out]; exact hkn)
            have ha0 : a = [] := List.length_eq_zero_iff.1 hmH.out
            rw [hlaH.out, ha0] at h
            exact h
          go_wp2
          refine bodyPost_ret (v := .tuple #[.string ⟨#[]⟩, .int .i64 0, .int .i64 0, .bool false]) (by simp [results, Tryf.results14, go_sem]) rfl ⟨ret_sm (a := []) hfin.out, rfl⟩
      have hq0 : ((k : Int) == 0) = false := beq_eq_false_iff_ne.2 (by omega)
      have hk0 : 0 < k := by omega
      clear h0
      have hvH : Hid (Pl.validName a = true) := hide ((valid_iff a).2 ⟨by rw [hmH.out]; exact hk0, fun j hj => hall.out j (by rw [← hmH.out]; exact hj)⟩)
      clear hall
      rcases hrr with rfl | ⟨t, rfl⟩
      · have hkn : n = k := by have := hlen.out; simpa using this.symm
        have hfin : Hid (Pl.pm l = Pl.bad) := hide (by rw [hlaH.out, List.append_nil]; exact pm_one ha)
        subst hkn
        go_wp2
        refine bodyPost_ret (v := .tuple #[.string ⟨#[]⟩, .int .i64 0, .int .i64 0, .bool false]) (by simp [results, Tryf.results14, go_sem]) rfl ⟨ret_sm (a := []) hfin.out, rfl⟩
      have hkn : k < n := by have := hlen.out; simp at this; omega
      have hqn : ((k : Int) == n) = false := beq_eq_false_iff_ne.2 (by omega)
      have hc32 : w.cell? ⟨b, o + k, none⟩ = some (.int .u8 32) := by
        have h := hrH.out k (by rw [hl.out]; exact hkn)
        have e : Pl.B l k = 32 := by
          have := Pl.B_right a (32 :: t) 0
          rw [Nat.add_zero, hmH.out] at this
          rw [hlaH.out, this]; rfl
        rwa [e] at h
      have hct : Hid (0 < t.length → w.cell? ⟨b, o + (k + 1), none⟩ = some (.int .u8 (Pl.B t 0))) := hide fun ht => by
        have h := hrH.out (k + 1) (by rw [hl.out]; have := hlen.out; simp at this; omega)
        have e : Pl.B l (k + 1) = Pl.B t 0 := by
          rw [hlaH.out, ← hmH.out, Pl.B_right, Pl.B_succ]
        rwa [e] at h
      have hlen1 : Hid (k + 1 + t.length = n) := hide (by have := hlen.out; simp at this; omega)
      have b0t := Pl.B_nonneg t 0
      have b1t := Pl.B_le t 0
      obtain ⟨ng, d1, r2, ht, hb', hd1, hr2, hstrip, hmin, hcase⟩ := start_piece t
      obtain ⟨y1, k1, hp1⟩ : ∃ y1 k1, pdR d1 = (y1, k1) := ⟨_, _, rfl⟩
      have hrng := pdR_rng hp1
      have hp1H := hide hp1
      clear hp1
      rcases hcase with ⟨rfl, ht0, htB⟩ | ⟨rfl, hno⟩
      · have hcell := hct.out ht0
        rw [htB] at hcell
        have hkn1 : k + 1 < n := by have := hlen1.out; omega
        obtain ⟨sg, hsg1⟩ : ∃ sg, sg = 1 := ⟨1, rfl⟩
        obtain ⟨sgl, hsgl⟩ : ∃ sgl : List UInt8, sgl = [45] := ⟨_, rfl⟩
        rw [if_pos rfl, ← hsgl] at ht hb' hstrip hmin
        have hsg : Hid (sgl.length = sg) := hide (by rw [hsgl, hsg1]; rfl)
        have hsgH := hide hsg1
        have hl3 : Hid (l = a ++ 32 :: (sgl ++ d1 ++ r2)) := hide (by rw [hlaH.out, ht]; simp)
        have hl3b : Hid (l = (a ++ 32 :: sgl) ++ (d1 ++ r2)) := hide (by rw [hl3.out]; simp)
        have hi3 : Hid ((a ++ 32 :: sgl).length = k + 1 + sg) := hide (by simp; rw [hmH.out, hsg.out]; omega)
        have hlen2 : Hid (k + 1 + sg + d1.length + r2.length = n) := hide (by rw [← hlen1.out, ht]; simp; rw [hsg.out]; omega)
        clear hsg1 hsgl ht htB hct
        go_wp2_with fail
        refine (digitsAt_at b o c l _ d1 r2 n (k + 1 + sg) ((k : Int) + 1 + 1) _ (by have := hsgH.out; omega) hl hrH.out hl3b.out hi3.out hd1 hr2 hn).mono ?_
        rintro e w' ⟨j1, rfl, rfl, hj1⟩
        rw [hp1H.out] at hj1 ⊢
        dsimp only at hj1 ⊢

        cases k1 with
        | false =>
          have hfin : Hid (Pl.pm l = Pl.bad) := hide (by rw [hl3.out]; exact pm_first ha hb' hr2 hvH.out (by rw [hstrip]; exact hp1H.out))
          go_wp2
          refine bodyPost_ret (v := .tuple #[.string ⟨#[]⟩, .int .i64 0, .int .i64 0, .bool false]) (by simp [results, Tryf.results14, go_sem]) rfl ⟨ret_sm (a := []) hfin.out, rfl⟩
        | true =>
          have hj1' : Hid (j1 = k + 1 + sg + d1.length) := hide (hj1 rfl)
          have hlen1 : Hid (j1 + r2.length = n) := hide (by rw [hj1'.out]; have := hlen2.out; omega)
          clear hj1
          rcases hr2 with rfl | ⟨u, rfl⟩
          · have hjn : j1 = n := by have := hlen1.out; simpa using this
            have hfin : Hid (Pl.pm l = Pl.bad) := hide (by rw [hl3.out, List.append_nil]; exact pm_two ha hb')
            clear hj1' hlen1
            subst hjn
            go_wp2
            refine bodyPost_ret (v := .tuple #[.string ⟨#[]⟩, .int .i64 0, .int .i64 0, .bool false]) (by simp [results, Tryf.results14, go_sem]) rfl ⟨ret_sm (a := []) hfin.out, rfl⟩
          · obtain ⟨d2, r3, rfl, hd2, hr3⟩ := cut_at 32 u
            have hjn : j1 < n := by have := hlen1.out; simp at this; omega
            have hqj : ((j1 : Int) == n) = false := beq_eq_false_iff_ne.2 (by omega)
            obtain ⟨y2, k2, hp2⟩ : ∃ y2 k2, pdR d2 = (y2, k2) := ⟨_, _, rfl⟩
            have hp2H := hide hp2
            clear hp2
            have hl4 : Hid (l = (a ++ 32 :: (sgl ++ d1) ++ [32]) ++ (d2 ++ r3)) := hide (by rw [hl3.out]; simp)
            have hi4 : Hid ((a ++ 32 :: (sgl ++ d1) ++ [32]).length = j1 + 1) := hide (by simp; rw [hj1'.out, hmH.out, hsg.out]; omega)
            go_wp2_with fail
            refine (digitsAt_at b o c l _ d2 r3 n (j1 + 1) ((j1 : Int) + 1) _ (by omega) hl hrH.out hl4.out hi4.out hd2 hr3 hn).mono ?_
            rintro e w' ⟨j2, rfl, rfl, hj2⟩
            rw [hp2H.out] at hj2 ⊢
            dsimp only at hj2 ⊢
            cases k2 with
            | false =>
              have hfin : Hid (Pl.pm l = Pl.bad) := hide (by rw [hl3.out]; exact pm_second ha hb' hd2 hr3 hvH.out hp2H.out)
              go_wp2
              refine bodyPost_ret (v := .tuple #[.string ⟨#[]⟩, .int .i64 0, .int .i64 0, .bool false]) (by simp [results, Tryf.results14, go_sem]) rfl ⟨ret_sm (a := []) hfin.out, rfl⟩
            | true =>
              have hj2' : Hid (j2 = j1 + 1 + d2.length) := hide (hj2 rfl)
              clear hj2
              rcases hr3 with rfl | ⟨u, rfl⟩
              · have hjn2 : n = j2 := by have h1 := hj2'.out; have h2 := hlen1.out; simp at h2; omega
                have hfin : Hid (Pl.pm l = (a, -y1, y2, true)) := hide (by rw [hl3.out, pm_good ha hb' hd2 hvH.out (by rw [hstrip]; exact hp1H.out) hp2H.out, hmin]; rfl)
                have hconv := conv_row (c := c) hmH.out hra.out
                clear hj2' hlen1 hj1' hlen2
                have hkc : k ≤ c := by omega
                subst hjn2
                go_wp2
                refine bodyPost_ret (v := .tuple #[.string ⟨a.toArray⟩, .int .i64 (-y1), .int .i64 y2, .bool true]) (by simp [results, Tryf.results14, go_sem]) rfl ⟨ret_sm hfin.out, rfl⟩
              · have hjn2 : j2 < n := by have h1 := hj2'.out; have h2 := hlen1.out; simp at h2; omega
                have hqj2 : ((j2 : Int) != n) = true := bne_iff_ne.2 (by omega)
                have hfin : Hid (Pl.pm l = Pl.bad) := hide (by rw [hl3.out]; exact pm_many ha hb' (by simp))
                go_wp2
                refine bodyPost_ret (v := .tuple #[.string ⟨#[]⟩, .int .i64 0, .int .i64 0, .bool false]) (by simp [results, Tryf.results14, go_sem]) rfl ⟨ret_sm (a := []) hfin.out, rfl⟩
      · obtain ⟨sg, hsg1⟩ : ∃ sg, sg = 0 := ⟨0, rfl⟩
        obtain ⟨sgl, hsgl⟩ : ∃ sgl : List UInt8, sgl = [] := ⟨_, rfl⟩
        rw [if_neg (by simp), ← hsgl] at ht hb' hstrip hmin
        have hsg : Hid (sgl.length = sg) := hide (by rw [hsgl, hsg1]; rfl)
        have hsgH := hide hsg1
        have hl3 : Hid (l = a ++ 32 :: (sgl ++ d1 ++ r2)) := hide (by rw [hlaH.out, ht]; simp)
        have hl3b : Hid (l = (a ++ 32 :: sgl) ++ (d1 ++ r2)) := hide (by rw [hl3.out]; simp)
        have hi3 : Hid ((a ++ 32 :: sgl).length = k + 1 + sg) := hide (by simp; rw [hmH.out, hsg.out]; omega)
        have hlen2 : Hid (k + 1 + sg + d1.length + r2.length = n) := hide (by rw [← hlen1.out, ht]; simp; rw [hsg.out]; omega)
        have hq45 : Hid (k + 1 = n ∨ (k + 1 < n ∧ w.cell? ⟨b, o + (k + 1), none⟩ = some (.int .u8 (Pl.B t 0)) ∧ Pl.B t 0 ≠ 45)) := hide (by
          rcases hno with h | ⟨h, h2⟩
          · exact .inl (by have := hlen1.out; omega)
          · exact .inr ⟨by have := hlen1.out; omega, hct.out h, h2⟩)
        clear hsg1 hsgl ht hct hno
        rcases hq45.out with hkn1 | ⟨hkn1, hcell, hne45⟩
        · have hkn2 : ¬ ((k : Int) + 1 < n) := by omega
          have hkn1H := hide hkn1
          clear hkn1
          go_wp2_with fail
          refine (digitsAt_at b o c l _ d1 r2 n (k + 1 + sg) ((k : Int) + 1) _ (by have := hsgH.out; omega) hl hrH.out hl3b.out hi3.out hd1 hr2 hn).mono ?_
          rintro e w' ⟨j1, rfl, rfl, hj1⟩
          rw [hp1H.out] at hj1 ⊢
          dsimp only at hj1 ⊢
  
          cases k1 with
          | false =>
            have hfin : Hid (Pl.pm l = Pl.bad) := hide (by rw [hl3.out]; exact pm_first ha hb' hr2 hvH.out (by rw [hstrip]; exact hp1H.out))
            go_wp2
            refine bodyPost_ret (v := .tuple #[.string ⟨#[]⟩, .int .i64 0, .int .i64 0, .bool false]) (by simp [results, Tryf.results14, go_sem]) rfl ⟨ret_sm (a := []) hfin.out, rfl⟩
          | true =>
            have hj1' : Hid (j1 = k + 1 + sg + d1.length) := hide (hj1 rfl)
            have hlen1 : Hid (j1 + r2.length = n) := hide (by rw [hj1'.out]; have := hlen2.out; omega)
            clear hj1
            rcases hr2 with rfl | ⟨u, rfl⟩
            · have hjn : j1 = n := by have := hlen1.out; simpa using this
              have hfin : Hid (Pl.pm l = Pl.bad) := hide (by rw [hl3.out, List.append_nil]; exact pm_two ha hb')
              clear hj1' hlen1
              subst hjn
              go_wp2
              refine bodyPost_ret (v := .tuple #[.string ⟨#[]⟩, .int .i64 0, .int .i64 0, .bool false]) (by simp [results, Tryf.results14, go_sem]) rfl ⟨ret_sm (a := []) hfin.out, rfl⟩
            · obtain ⟨d2, r3, rfl, hd2, hr3⟩ := cut_at 32 u
              have hjn : j1 < n := by have := hlen1.out; simp at this; omega
              have hqj : ((j1 : Int) == n) = false := beq_eq_false_iff_ne.2 (by omega)
              obtain ⟨y2, k2, hp2⟩ : ∃ y2 k2, pdR d2 = (y2, k2) := ⟨_, _, rfl⟩
              have hp2H := hide hp2
              clear hp2
              have hl4 : Hid (l = (a ++ 32 :: (sgl ++ d1) ++ [32]) ++ (d2 ++ r3)) := hide (by rw [hl3.out]; simp)
              have hi4 : Hid ((a ++ 32 :: (sgl ++ d1) ++ [32]).length = j1 + 1) := hide (by simp; rw [hj1'.out, hmH.out, hsg.out]; omega)
              go_wp2_with fail
              refine (digitsAt_at b o c l _ d2 r3 n (j1 + 1) ((j1 : Int) + 1) _ (by omega) hl hrH.out hl4.out hi4.out hd2 hr3 hn).mono ?_
              rintro e w' ⟨j2, rfl, rfl, hj2⟩
              rw [hp2H.out] at hj2 ⊢
              dsimp only at hj2 ⊢
              cases k2 with
              | false =>
                have hfin : Hid (Pl.pm l = Pl.bad) := hide (by rw [hl3.out]; exact pm_second ha hb' hd2 hr3 hvH.out hp2H.out)
                go_wp2
                refine bodyPost_ret (v := .tuple #[.string ⟨#[]⟩, .int .i64 0, .int .i64 0, .bool false]) (by simp [results, Tryf.results14, go_sem]) rfl ⟨ret_sm (a := []) hfin.out, rfl⟩
              | true =>
                have hj2' : Hid (j2 = j1 + 1 + d2.length) := hide (hj2 rfl)
                clear hj2
                rcases hr3 with rfl | ⟨u, rfl⟩
                · have hjn2 : n = j2 := by have h1 := hj2'.out; have h2 := hlen1.out; simp at h2; omega
                  have hfin : Hid (Pl.pm l = (a, y1, y2, true)) := hide (by rw [hl3.out, pm_good ha hb' hd2 hvH.out (by rw [hstrip]; exact hp1H.out) hp2H.out, hmin]; rfl)
                  have hconv := conv_row (c := c) hmH.out hra.out
                  clear hj2' hlen1 hj1' hlen2
                  have hkc : k ≤ c := by omega
                  subst hjn2
                  go_wp2
                  refine bodyPost_ret (v := .tuple #[.string ⟨a.toArray⟩, .int .i64 (y1), .int .i64 y2, .bool true]) (by simp [results, Tryf.results14, go_sem]) rfl ⟨ret_sm hfin.out, rfl⟩
                · have hjn2 : j2 < n := by have h1 := hj2'.out; have h2 := hlen1.out; simp at h2; omega
                  have hqj2 : ((j2 : Int) != n) = true := bne_iff_ne.2 (by omega)
                  have hfin : Hid (Pl.pm l = Pl.bad) := hide (by rw [hl3.out]; exact pm_many ha hb' (by simp))
                  go_wp2
                  refine bodyPost_ret (v := .tuple #[.string ⟨#[]⟩, .int .i64 0, .int .i64 0, .bool false]) (by simp [results, Tryf.results14, go_sem]) rfl ⟨ret_sm (a := []) hfin.out, rfl⟩
        · skip
          go_wp2_with fail
          refine (digitsAt_at b o c l _ d1 r2 n (k + 1 + sg) ((k : Int) + 1) _ (by have := hsgH.out; omega) hl hrH.out hl3b.out hi3.out hd1 hr2 hn).mono ?_
          rintro e w' ⟨j1, rfl, rfl, hj1⟩
          rw [hp1H.out] at hj1 ⊢
          dsimp only at hj1 ⊢
  
          cases k1 with
          | false =>
            have hfin : Hid (Pl.pm l = Pl.bad) := hide (by rw [hl3.out]; exact pm_first ha hb' hr2 hvH.out (by rw [hstrip]; exact hp1H.out))
            go_wp2
            refine bodyPost_ret (v := .tuple #[.string ⟨#[]⟩, .int .i64 0, .int .i64 0, .bool false]) (by simp [results, Tryf.results14, go_sem]) rfl ⟨ret_sm (a := []) hfin.out, rfl⟩
          | true =>
            have hj1' : Hid (j1 = k + 1 + sg + d1.length) := hide (hj1 rfl)
            have hlen1 : Hid (j1 + r2.length = n) := hide (by rw [hj1'.out]; have := hlen2.out; omega)
            clear hj1
            rcases hr2 with rfl | ⟨u, rfl⟩
            · have hjn : j1 = n := by have := hlen1.out; simpa using this
              have hfin : Hid (Pl.pm l = Pl.bad) := hide (by rw [hl3.out, List.append_nil]; exact pm_two ha hb')
              clear hj1' hlen1
              subst hjn
              go_wp2
              refine bodyPost_ret (v := .tuple #[.string ⟨#[]⟩, .int .i64 0, .int .i64 0, .bool false]) (by simp [results, Tryf.results14, go_sem]) rfl ⟨ret_sm (a := []) hfin.out, rfl⟩
            · obtain ⟨d2, r3, rfl, hd2, hr3⟩ := cut_at 32 u
              have hjn : j1 < n := by have := hlen1.out; simp at this; omega
              have hqj : ((j1 : Int) == n) = false := beq_eq_false_iff_ne.2 (by omega)
              obtain ⟨y2, k2, hp2⟩ : ∃ y2 k2, pdR d2 = (y2, k2) := ⟨_, _, rfl⟩
              have hp2H := hide hp2
              clear hp2
              have hl4 : Hid (l = (a ++ 32 :: (sgl ++ d1) ++ [32]) ++ (d2 ++ r3)) := hide (by rw [hl3.out]; simp)
              have hi4 : Hid ((a ++ 32 :: (sgl ++ d1) ++ [32]).length = j1 + 1) := hide (by simp; rw [hj1'.out, hmH.out, hsg.out]; omega)
              go_wp2_with fail
              refine (digitsAt_at b o c l _ d2 r3 n (j1 + 1) ((j1 : Int) + 1) _ (by omega) hl hrH.out hl4.out hi4.out hd2 hr3 hn).mono ?_
              rintro e w' ⟨j2, rfl, rfl, hj2⟩
              rw [hp2H.out] at hj2 ⊢
              dsimp only at hj2 ⊢
              cases k2 with
              | false =>
                have hfin : Hid (Pl.pm l = Pl.bad) := hide (by rw [hl3.out]; exact pm_second ha hb' hd2 hr3 hvH.out hp2H.out)
                go_wp2
                refine bodyPost_ret (v := .tuple #[.string ⟨#[]⟩, .int .i64 0, .int .i64 0, .bool false]) (by simp [results, Tryf.results14, go_sem]) rfl ⟨ret_sm (a := []) hfin.out, rfl⟩
              | true =>
                have hj2' : Hid (j2 = j1 + 1 + d2.length) := hide (hj2 rfl)
                clear hj2
                rcases hr3 with rfl | ⟨u, rfl⟩
                · have hjn2 : n = j2 := by have h1 := hj2'.out; have h2 := hlen1.out; simp at h2; omega
                  have hfin : Hid (Pl.pm l = (a, y1, y2, true)) := hide (by rw [hl3.out, pm_good ha hb' hd2 hvH.out (by rw [hstrip]; exact hp1H.out) hp2H.out, hmin]; rfl)
                  have hconv := conv_row (c := c) hmH.out hra.out
                  clear hj2' hlen1 hj1' hlen2
                  have hkc : k ≤ c := by omega
                  subst hjn2
                  go_wp2
                  refine bodyPost_ret (v := .tuple #[.string ⟨a.toArray⟩, .int .i64 (y1), .int .i64 y2, .bool true]) (by simp [results, Tryf.results14, go_sem]) rfl ⟨ret_sm hfin.out, rfl⟩
                · have hjn2 : j2 < n := by have h1 := hj2'.out; have h2 := hlen1.out; simp at h2; omega
                  have hqj2 : ((j2 : Int) != n) = true := bne_iff_ne.2 (by omega)
                  have hfin : Hid (Pl.pm l = Pl.bad) := hide (by rw [hl3.out]; exact pm_many ha hb' (by simp))
                  go_wp2
                  refine bodyPost_ret (v := .tuple #[.string ⟨#[]⟩, .int .i64 0, .int .i64 0, .bool false]) (by simp [results, Tryf.results14, go_sem]) rfl ⟨ret_sm (a := []) hfin.out, rfl⟩
end Go.Proofs.Qxb6608740aFmt
