/-
  WALK: timeid.parseDigits.
-/
import Derived.Test.Qxb6608740aFmtBase
import Derived.Test.Qxb6608740aFmtShelf
namespace Go.Proofs.Qxb6608740aFmt
open Go.RowKit Go.PlainAid

set_option maxHeartbeats 1000000 in
theorem digits_any (b o c : Nat) (l : List UInt8) (n : Nat) (w : World) (hl : Hid (l.length = n)) (hr : RowAt w b o l) (hE : Env w) (hn : n ≤ 1048576) :
    Calls Tryf.prog 29 #[.slice (some ⟨b, o, none⟩) n c] w fun e w' => e = .returned (.tuple #[.int .i64 (pdR l).1, .bool (pdR l).2]) ∧ Below w.heap.size w w' := by
  have b0 := Pl.B_nonneg l
  have b1 := Pl.B_le l
  by_cases h0 : n = 0
  · have hq : ((n : Int) == 0) = true := beq_iff_eq.2 (by omega)
    have hv := hide (pdR_no (not_dig0 (hl.out.trans h0)))
    clear h0
    go_enter Tryf.func29, Tryf.ntmps29
    go_wp2
    go_ret2
    exact ⟨ret_pd hv.out, Below.refl _ _⟩
  have hq : ((n : Int) == 0) = false := beq_eq_false_iff_ne.2 (by omega)
  have h0' : 0 < n := by omega
  clear h0
  have hrH := hide hr
  have hEH := hide hE
  have hconv := conv_row (c := c) hl.out hr
  clear hr hE
  go_enter Tryf.func29, Tryf.ntmps29
  go_wp2
  go_loop [13] (fun i => ∃ k : Nat, k ≤ n ∧ i = .int .i64 k ∧ Hid (∀ j, j < k → 48 ≤ Pl.B l j ∧ Pl.B l j ≤ 57)) (fun i => n - (intOf i).toNat)
  case atStart => exact ⟨0, Nat.zero_le _, rfl, hide fun j hj => absurd hj (Nat.not_lt_zero _)⟩
  case round =>
    obtain ⟨k, hk, rfl, hall⟩ := hrel
    by_cases hlt : k < n
    · have hcell := hrH.out k (by rw [hl.out]; exact hlt)
      by_cases h1 : Pl.B l k < 48
      · have hv := hide (pdR_no (not_dig (l := l) (k := k) (by rw [hl.out]; exact hlt) (by omega)))
        go_wp2
        go_ret2
        exact ⟨ret_pd hv.out, Below.refl _ _⟩
      · by_cases h2 : 57 < Pl.B l k
        · have hv := hide (pdR_no (not_dig (l := l) (k := k) (by rw [hl.out]; exact hlt) (by omega)))
          go_wp2
          go_ret2
          exact ⟨ret_pd hv.out, Below.refl _ _⟩
        · go_wp2
          go_round
          case rel => exact ⟨k + 1, by omega, by go_num, hide fun j hj => by
            by_cases e : j = k
            · subst e; omega
            · exact hall.out j (by omega)⟩
          case measure => simp [intOf]; omega
    · have hd := (allDig_iff l).2 ⟨by rw [hl.out]; exact h0', fun j hj => hall.out j (by rw [hl.out] at hj; omega)⟩
      have hsz : (⟨l.toArray⟩ : ByteArray).size ≤ 1048576 := by show l.length ≤ _; rw [hl.out]; exact hn
      have hp := Pl.parseI hd
      by_cases hbig : Pl.valN l 0 < Pl.big
      · rw [if_pos hbig] at hp
        have hv := hide (pdR_ok hd hbig)
        have hpH := hide hp
        generalize ((Pl.valN l 0 : Nat) : Int) = v at *
        clear hp hd hbig hrH hEH hall
        go_wp2_with (go_at_call 37; refine (Tryf.strconv_ParseInt_10_at64_ok ⟨l.toArray⟩ (by omega) v hpH.out _).mono ?_; rintro e w' ⟨rfl, hw'⟩)
        have hbw : Below w.heap.size w w' := by
          rcases hw' with rfl | ⟨t, rfl⟩
          · exact Below.refl _ _
          · exact Lib.bytesWorld_below _ _ _
        clear hw'
        go_wp2
        go_ret2
        exact ⟨ret_pd hv.out, hbw⟩
      · rw [if_neg hbig] at hp
        have hv := hide (pdR_big hd hbig)
        have hpH := hide hp
        obtain ⟨_, ev, hev1, hev2⟩ := hEH.out
        have hev2H := hide hev2
        have hev1H := hide hev1
        clear hp hd hbig hrH hEH hall hev2 hev1
        go_wp2_with (go_at_call 37; refine (Tryf.strconv_ParseInt_10_at64_range ⟨l.toArray⟩ (by omega) hpH.out ev _ hev1H.out hev2H.out).mono ?_; rintro e w' ⟨N, rfl, _, _, hbw⟩)
        go_ret2
        exact ⟨ret_pd hv.out, hbw⟩

end Go.Proofs.Qxb6608740aFmt
