/-
  WALK: unicode/utf8.Valid at a row of valid UTF-8: it answers true. (After the kit's walk of utf8.ValidString, turned to slices.)
-/
import Derived.Test.Qxb6608938aDoorWord
import Derived.Shelf.Unicode.DecodeAny
import Derived.Laws.BitsAllLaws
import Derived.Deep.LoopGhost
import Derived.Deep.DeepMust
import Derived.Deep.DeepBigQuietO
import Derived.Below
namespace Go.Proofs.Qxb6608938aDoor
open Go.RowKit Go.PlainAid Go.BigFrame

theorem valid_one (x : UInt8) (t : List UInt8) (h : x.toNat < 128) : Lib.validD (x :: t) = Lib.validD t :=
  Lib.validD_ascii 1 (x :: t) (fun b hb => by simp at hb; subst hb; exact h)

set_option maxRecDepth 100000 in
theorem and7 : ∀ X : Fin 256, bits .and .u8 ((X.val : Nat) : Int) 7 = ((X.val % 8 : Nat) : Int) := by decide
/-- What a valid row says of its lead byte from 128 on. -/
theorem lead_true (x : UInt8) (t1 : List UInt8) (h : 128 ≤ x.toNat) (hv : Lib.validD (x :: t1) = true) :
    ∃ sz, (sz = 2 ∨ sz = 3 ∨ sz = 4) ∧ Lib.firstT x.toNat % 8 = sz ∧ sz ≤ t1.length + 1 ∧ (Lib.accLo (Lib.firstT x.toNat / 16) : Int) ≤ Pl.B (x :: t1) 1 ∧ Pl.B (x :: t1) 1 ≤ (Lib.accHi (Lib.firstT x.toNat / 16) : Int) ∧
      (3 ≤ sz → 128 ≤ Pl.B (x :: t1) 2 ∧ Pl.B (x :: t1) 2 ≤ 191) ∧ (4 ≤ sz → 128 ≤ Pl.B (x :: t1) 3 ∧ Pl.B (x :: t1) 3 ≤ 191) ∧ Lib.validD ((x :: t1).drop sz) = true := by
  have hl := Lib.validD_lead (x :: t1) (by simp) h
  rw [hv] at hl
  unfold Pl.B
  have e0 : (x :: t1).getD 0 0 = x := rfl
  rw [e0] at hl
  generalize Lib.firstT x.toNat % 8 = sz at *
  generalize Lib.accLo (Lib.firstT x.toNat / 16) = lo at *
  generalize Lib.accHi (Lib.firstT x.toNat / 16) = hi at *
  rw [List.length_cons] at hl
  unfold Lib.checkN at hl
  by_cases s2 : sz = 2
  · subst s2
    rw [if_pos rfl] at hl
    split at hl
    · rename_i h1; split at h1
      · cases hl
      · cases h1
    · rename_i k h1
      split at h1
      · cases h1
      · rename_i h2
        obtain rfl : 2 = k := Option.some.inj h1
        exact ⟨2, by omega, rfl, by omega, by omega, by omega, by omega, by omega, hl.symm⟩
  · rw [if_neg s2] at hl
    by_cases s3 : sz = 3
    · subst s3
      rw [if_pos rfl] at hl
      split at hl
      · rename_i h1; split at h1
        · cases hl
        · cases h1
      · rename_i k h1
        split at h1
        · cases h1
        · rename_i h2
          obtain rfl : 3 = k := Option.some.inj h1
          exact ⟨3, by omega, rfl, by omega, by omega, by omega, by omega, by omega, hl.symm⟩
    · rw [if_neg s3] at hl
      by_cases s4 : sz = 4
      · subst s4
        rw [if_pos rfl] at hl
        split at hl
        · rename_i h1; split at h1
          · cases hl
          · cases h1
        · rename_i k h1
          split at h1
          · cases h1
          · rename_i h2
            obtain rfl : 4 = k := Option.some.inj h1
            exact ⟨4, by omega, rfl, by omega, by omega, by omega, by omega, by omega, hl.symm⟩
      · rw [if_neg s4] at hl
        cases hl

set_option maxHeartbeats 16000000 in
set_option maxRecDepth 1000000 in
theorem valid_any (b o n c : Nat) (l : List UInt8) (w : World) (hl : Hid (l.length = n)) (hr : RowAt w b o l) (hT : Lib.Utf8Tabs 0 1 w) (hn : n ≤ 1048576) (hcap : n ≤ c) (hv : Lib.validD l = true) :
    Calls Tryd.prog 19 #[.slice (some ⟨b, o, none⟩) n c] w fun e w' => e = .returned (.bool true) ∧ Below w.heap.size w w' := by
  have hrH := hide hr
  have hTH := hide hT
  have hvH := hide hv
  clear hr hT hv
  go_enter Tryd.func19, Tryd.ntmps19
  go_wp2_with fail
  go_loopg [0] (n + 1) (fun gk sv wx => ∃ (o' m : Nat) (t : List UInt8), sv = .slice (some ⟨b, o', none⟩) m m ∧ Hid (t.length = m) ∧ Hid (RowAt w b o' t) ∧ Hid (Lib.validD t = true) ∧ m < gk ∧ m ≤ n ∧ Below w.heap.size w wx)
  case atStart => exact ⟨o, n, l, rfl, hl, hrH, hvH, by omega, by omega, Below.refl _ _⟩
  case round =>
    obtain ⟨o', m, t, rfl, ht, hrt, hvt, hgk, hmn, hbw⟩ := hrel
    obtain ⟨g', rfl⟩ : ∃ g', gk = g' + 1 := ⟨gk - 1, by omega⟩
    have hrw := hide (hrt.out.below hbw)
    rcases Nat.eq_zero_or_pos m with h0 | h0
    · subst h0
      go_wp2_with fail
      go_ret
      exact ⟨rfl, hbw⟩
    · obtain ⟨m1, rfl⟩ : ∃ m1, m = m1 + 1 := ⟨m - 1, by omega⟩
      obtain ⟨x, t1, rfl⟩ : ∃ x t1, t = x :: t1 := by
        match t, ht.out with
        | x :: t1, _ => exact ⟨x, t1, rfl⟩
      have hx := x.toNat_lt
      have c0 : wr.cell? ⟨b, o', none⟩ = some (.int .u8 (x.toNat : Int)) := hrw.out 0 (by simp)
      have ht1 : t1.length = m1 := by have := ht.out; simpa using this
      by_cases hasc : (x.toNat : Int) < 128
      · have hv1 : Hid (Lib.validD t1 = true) := hide (by rw [← valid_one x t1 (by omega)]; exact hvt.out)
        have hr1 : RowAt w b (o' + 1) t1 := hrt.out.drop 1
        rcases Nat.eq_zero_or_pos m1 with h1 | h1
        · subst h1
          go_wp2_with fail
          go_roundg g'
          case measure => omega
          case rel => exact ⟨_, 0, [], rfl, hide rfl, hide (fun i hi => by simp at hi), hide rfl, by omega, by omega, hbw⟩
        · have hm1 : (m1 + 1 : Nat) ≠ 1 := by omega
          by_cases c8 : 8 < m1
          · obtain ⟨m2, rfl⟩ : ∃ m2, m1 = m2 + 8 := ⟨m1 - 8, by omega⟩
            have c8z : (8 : Int) < ((m2 + 8 : Nat) : Int) := by omega
            obtain ⟨A1, lA1, kA1, cA1⟩ := word_row b (o' + 1) (m2 + 8) (m2 + 8) t1 ht1 (by omega)
            have hand1 : bits .and .u64 (A1 : Int) 9259542123273814144 = ((A1 &&& 9259542123273814144 : Nat) : Int) := u64_and_nat A1 9259542123273814144 lA1 (by omega)
            obtain ⟨Z1, hZ1⟩ : ∃ Z1, A1 &&& 9259542123273814144 = Z1 := ⟨_, rfl⟩
            rw [hZ1] at hand1 kA1
            by_cases hz1 : Z1 = 0
            · have hz1b : ((Z1 : Int) == 0) = true := by simp [hz1]
              have hm2 : (m2 + 8 : Nat) ≠ 8 := by omega
              obtain ⟨t2, ht2d⟩ : ∃ t2, t1.drop 8 = t2 := ⟨_, rfl⟩
              have ht2 : t2.length = m2 := by rw [← ht2d, List.length_drop]; omega
              have hv2 : Hid (Lib.validD t2 = true) := hide (by rw [← ht2d, ← Lib.validD_ascii 8 t1 (kA1 hz1)]; exact hv1.out)
              have hr2 : RowAt w b (o' + 1 + 8) t2 := by rw [← ht2d]; exact hr1.drop 8
              have c1W := hide (cA1 wr ((hrt.out.drop 1).below hbw))
              clear kA1 cA1 hrw hrt hvt hv1 hr1 ht
              go_wp2_with (go_at_call 21; go_must (refine c1W.out.mono ?_; rintro e W1 ⟨rfl, q1, rfl⟩))
              have hb1 : Below w.heap.size w (wr.drewN q1) := below_drewN hbw q1
              generalize wr.drewN q1 = wq at hb1 ⊢
              clear c1W c0 hbw ht1
              generalize o' + 1 + 8 = o2 at hr2 ⊢
              by_cases c16 : 16 < m2
              · obtain ⟨m3, rfl⟩ : ∃ m3, m2 = m3 + 16 := ⟨m2 - 16, by omega⟩
                have c16z : (16 : Int) < (m3 : Int) + 16 := by omega
                have s8z : (8 : Int) ≤ (m3 : Int) + 16 := by omega
                have hmne : (m3 + 16 : Nat) ≠ 8 := by omega
                obtain ⟨A2, lA2, kA2, cA2⟩ := word_row b o2 (m3 + 16) (m3 + 16) t2 ht2 (by omega)
                obtain ⟨A3, lA3, kA3, cA3⟩ := word_row b (o2 + 8) (m3 + 8) (m3 + 8) (t2.drop 8) (by rw [List.length_drop]; omega) (by omega)
                have hor2 : bits .or .u64 (A2 : Int) (A3 : Int) = ((A2 ||| A3 : Nat) : Int) := u64_or_nat A2 A3 lA2 lA3
                have lor2 : A2 ||| A3 < 18446744073709551616 := Nat.or_lt_two_pow (n := 64) lA2 lA3
                have hand2 : bits .and .u64 ((A2 ||| A3 : Nat) : Int) 9259542123273814144 = (((A2 ||| A3) &&& 9259542123273814144 : Nat) : Int) := u64_and_nat _ 9259542123273814144 lor2 (by omega)
                have k2 : (A2 ||| A3) &&& 9259542123273814144 = 0 → ∀ x ∈ t2.take 16, x.toNat < 128 := fun h0' => by
                  obtain ⟨e1, e2⟩ := (Lib.or_mask A2 A3 _).1 h0'
                  rw [show (16 : Nat) = 8 + 8 from rfl, List.take_add]
                  intro x hx
                  rcases List.mem_append.1 hx with h | h
                  · exact kA2 e1 x h
                  · exact kA3 e2 x h
                obtain ⟨O2, hO2⟩ : ∃ O2, A2 ||| A3 = O2 := ⟨_, rfl⟩
                rw [hO2] at hor2 hand2 k2
                obtain ⟨Z2, hZ2⟩ : ∃ Z2, O2 &&& 9259542123273814144 = Z2 := ⟨_, rfl⟩
                rw [hZ2] at hand2 k2
                have cW2 := hide (fun k => cA2 (wq.drewN k) (hr2.below (below_drewN hb1 k)))
                have cW3 := hide (fun k => cA3 (wq.drewN k) ((hr2.drop 8).below (below_drewN hb1 k)))
                clear kA2 kA3 cA2 cA3 lor2 hO2 hZ2
                by_cases hz2 : Z2 = 0
                · have hz2b : ((Z2 : Int) == 0) = true := by simp [hz2]
                  have hmne16 : (m3 + 16 : Nat) ≠ 16 := by omega
                  obtain ⟨t3, ht3d⟩ : ∃ t3, t2.drop 16 = t3 := ⟨_, rfl⟩
                  have ht3 : t3.length = m3 := by rw [← ht3d, List.length_drop]; omega
                  have hv3 : Hid (Lib.validD t3 = true) := hide (by rw [← ht3d, ← Lib.validD_ascii 16 t2 (k2 hz2)]; exact hv2.out)
                  have hr3 : RowAt w b (o2 + 16) t3 := by rw [← ht3d]; exact hr2.drop 16
                  go_big_quiet (first | (go_at_call 21; with_reducible refine Calls.quiet_of (cW2.out _)) | (go_at_call 21; with_reducible refine Calls.quiet_of (cW3.out _)))
                  have hb2 : Below w.heap.size w (wq.drewN nq) := below_drewN hb1 nq
                  generalize wq.drewN nq = wq2 at hb2 ⊢
                  clear cW2 cW3 k2 hr2 hv2 hb1
                  go_wp2
                  go_loopg [0] (m3 + 1) (fun g2 sv wx => ∃ (o3 m4 : Nat) (u : List UInt8), sv = .slice (some ⟨b, o3, none⟩) m4 m4 ∧ Hid (u.length = m4) ∧ Hid (RowAt w b o3 u) ∧ Hid (Lib.validD u = true) ∧ m4 < g2 ∧ m4 ≤ m3 ∧ Below w.heap.size w wx)
                  case atStart => exact ⟨o2 + 16, m3, t3, rfl, hide ht3, hide hr3, hv3, by omega, by omega, hb2⟩
                  case round =>
                    obtain ⟨o3, m4, u, rfl, hul, hru, hvu, hg2, hm43, hbu⟩ := hrel
                    by_cases c32 : 32 < m4
                    · obtain ⟨g3, rfl⟩ : ∃ g3, gk = g3 + 1 := ⟨gk - 1, by omega⟩
                      obtain ⟨m5, rfl⟩ : ∃ m5, m4 = m5 + 32 := ⟨m4 - 32, by omega⟩
                      have c32z : (32 : Int) < (m5 : Int) + 32 := by omega
                      have s8u : (8 : Int) ≤ (m5 : Int) + 32 := by omega
                      have s16u : (16 : Int) ≤ (m5 : Int) + 32 := by omega
                      have s24u : (24 : Int) ≤ (m5 : Int) + 32 := by omega
                      have n8 : (m5 + 32 : Nat) ≠ 8 := by omega
                      have n16 : (m5 + 32 : Nat) ≠ 16 := by omega
                      have n24 : (m5 + 32 : Nat) ≠ 24 := by omega
                      have n32 : (m5 + 32 : Nat) ≠ 32 := by omega
                      obtain ⟨B0, lB0, kB0, cB0⟩ := word_row b o3 (m5 + 32) (m5 + 32) u hul.out (by omega)
                      obtain ⟨B1, lB1, kB1, cB1⟩ := word_row b (o3 + 8) (m5 + 24) (m5 + 24) (u.drop 8) (by rw [List.length_drop, hul.out]; omega) (by omega)
                      obtain ⟨B2, lB2, kB2, cB2⟩ := word_row b (o3 + 16) (m5 + 16) (m5 + 16) (u.drop 16) (by rw [List.length_drop, hul.out]; omega) (by omega)
                      obtain ⟨B3, lB3, kB3, cB3⟩ := word_row b (o3 + 24) (m5 + 8) (m5 + 8) (u.drop 24) (by rw [List.length_drop, hul.out]; omega) (by omega)
                      have ho1 : bits .or .u64 (B0 : Int) (B1 : Int) = ((B0 ||| B1 : Nat) : Int) := u64_or_nat B0 B1 lB0 lB1
                      have ho2 : bits .or .u64 (B2 : Int) (B3 : Int) = ((B2 ||| B3 : Nat) : Int) := u64_or_nat B2 B3 lB2 lB3
                      have lo1 : B0 ||| B1 < 18446744073709551616 := Nat.or_lt_two_pow (n := 64) lB0 lB1
                      have lo2 : B2 ||| B3 < 18446744073709551616 := Nat.or_lt_two_pow (n := 64) lB2 lB3
                      have ho3 : bits .or .u64 ((B0 ||| B1 : Nat) : Int) ((B2 ||| B3 : Nat) : Int) = (((B0 ||| B1) ||| (B2 ||| B3) : Nat) : Int) := u64_or_nat _ _ lo1 lo2
                      have lo3 : (B0 ||| B1) ||| (B2 ||| B3) < 18446744073709551616 := Nat.or_lt_two_pow (n := 64) lo1 lo2
                      have hand3 : bits .and .u64 (((B0 ||| B1) ||| (B2 ||| B3) : Nat) : Int) 9259542123273814144 = ((((B0 ||| B1) ||| (B2 ||| B3)) &&& 9259542123273814144 : Nat) : Int) := u64_and_nat _ 9259542123273814144 lo3 (by omega)
                      have k3 : ((B0 ||| B1) ||| (B2 ||| B3)) &&& 9259542123273814144 = 0 → ∀ x ∈ u.take 32, x.toNat < 128 := fun h0' => by
                        obtain ⟨e01, e23⟩ := (Lib.or_mask _ _ _).1 h0'
                        obtain ⟨e0, e1⟩ := (Lib.or_mask _ _ _).1 e01
                        obtain ⟨e2, e3⟩ := (Lib.or_mask _ _ _).1 e23
                        have e32 : u.take 32 = u.take 8 ++ ((u.drop 8).take 8 ++ ((u.drop 16).take 8 ++ (u.drop 24).take 8)) := by
                          rw [show (32 : Nat) = 8 + (8 + (8 + 8)) from rfl, List.take_add, List.take_add, List.take_add, List.drop_drop, List.drop_drop]
                        rw [e32]
                        intro x hx
                        rcases List.mem_append.1 hx with h | h
                        · exact kB0 e0 x h
                        rcases List.mem_append.1 h with h | h
                        · exact kB1 e1 x h
                        rcases List.mem_append.1 h with h | h
                        · exact kB2 e2 x h
                        · exact kB3 e3 x h
                      obtain ⟨P1, hP1⟩ : ∃ P1, B0 ||| B1 = P1 := ⟨_, rfl⟩
                      obtain ⟨P2, hP2⟩ : ∃ P2, B2 ||| B3 = P2 := ⟨_, rfl⟩
                      rw [hP1, hP2] at ho3 hand3 k3
                      rw [hP1] at ho1
                      rw [hP2] at ho2
                      obtain ⟨P3, hP3⟩ : ∃ P3, P1 ||| P2 = P3 := ⟨_, rfl⟩
                      rw [hP3] at ho3 hand3 k3
                      obtain ⟨Z3, hZ3⟩ : ∃ Z3, P3 &&& 9259542123273814144 = Z3 := ⟨_, rfl⟩
                      rw [hZ3] at hand3 k3
                      have dB0 := hide (fun k => cB0 (wr.drewN k) (hru.out.below (below_drewN hbu k)))
                      have dB1 := hide (fun k => cB1 (wr.drewN k) ((hru.out.drop 8).below (below_drewN hbu k)))
                      have dB2 := hide (fun k => cB2 (wr.drewN k) ((hru.out.drop 16).below (below_drewN hbu k)))
                      have dB3 := hide (fun k => cB3 (wr.drewN k) ((hru.out.drop 24).below (below_drewN hbu k)))
                      clear kB0 kB1 kB2 kB3 cB0 cB1 cB2 cB3 lo1 lo2 lo3 hP1 hP2 hP3 hZ3
                      by_cases hz3 : Z3 = 0
                      · as_aux_lemma =>
                          have hz3b : ((Z3 : Int) == 0) = true := by simp [hz3]
                          have hv5 : Hid (Lib.validD (u.drop 32) = true) := hide (by rw [← Lib.validD_ascii 32 u (k3 hz3)]; exact hvu.out)
                          go_wp2_with fail
                          go_big_quiet (first | (go_at_call 21; with_reducible refine Calls.quiet_of (dB0.out _)) | (go_at_call 21; with_reducible refine Calls.quiet_of (dB1.out _)) | (go_at_call 21; with_reducible refine Calls.quiet_of (dB2.out _)) | (go_at_call 21; with_reducible refine Calls.quiet_of (dB3.out _)))
                          go_wp2
                          go_roundg g3
                          case measure => omega
                          case rel => exact ⟨o3 + 32, m5, u.drop 32, rfl, hide (by rw [List.length_drop, hul.out]; omega), hide (hru.out.drop 32), hv5, by omega, by omega, below_drewN hbu nq⟩
                      · as_aux_lemma =>
                          have hz3b : ((Z3 : Int) == 0) = false := by simp; omega
                          go_wp2_with fail
                          go_big_quiet (first | (go_at_call 21; with_reducible refine Calls.quiet_of (dB0.out _)) | (go_at_call 21; with_reducible refine Calls.quiet_of (dB1.out _)) | (go_at_call 21; with_reducible refine Calls.quiet_of (dB2.out _)) | (go_at_call 21; with_reducible refine Calls.quiet_of (dB3.out _)))
                          go_wp2
                          go_roundg g'
                          case measure => omega
                          case rel => exact ⟨o3, m5 + 32, u, rfl, hul, hru, hvu, by omega, by omega, below_drewN hbu nq⟩
                    · have c32z : ¬ ((32 : Int) < (m4 : Int)) := by omega
                      have c32b : decide ((32 : Int) < (m4 : Int)) = false := decide_eq_false c32z
                      go_wp2_with fail
                      go_big_quiet (fail)
                      go_wp2
                      go_roundg g'
                      case measure => omega
                      case rel => exact ⟨o3, m4, u, rfl, hul, hru, hvu, by omega, by omega, below_drewN hbu nq⟩
                · as_aux_lemma =>
                    have hz2b : ((Z2 : Int) == 0) = false := by simp; omega
                    go_big_quiet (first | (go_at_call 21; with_reducible refine Calls.quiet_of (cW2.out _)) | (go_at_call 21; with_reducible refine Calls.quiet_of (cW3.out _)))
                    go_wp2
                    go_roundg g'
                    case measure => omega
                    case rel => exact ⟨o2, m3 + 16, t2, rfl, hide ht2, hide hr2, hv2, by omega, by omega, below_drewN hb1 _⟩
              · have c16z : ¬ ((16 : Int) < (m2 : Int)) := by omega
                have c16b : decide ((16 : Int) < (m2 : Int)) = false := decide_eq_false c16z
                go_quiet (fail)
                go_wp2
                go_roundg g'
                case measure => omega
                case rel => exact ⟨o2, m2, t2, rfl, hide ht2, hide hr2, hv2, by omega, by omega, below_drewN hb1 _⟩
            · as_aux_lemma =>
                have hz1b : ((Z1 : Int) == 0) = false := by simp; omega
                have c1W := hide (cA1 wr ((hrt.out.drop 1).below hbw))
                go_wp2_with (go_at_call 21; go_must (refine c1W.out.mono ?_; rintro e W1 ⟨rfl, q1, rfl⟩))
                go_roundg g'
                case measure => omega
                case rel => exact ⟨o' + 1, m2 + 8, t1, rfl, hide ht1, hide hr1, hv1, by omega, by omega, below_drewN hbw _⟩
          · have c8z : ¬ ((8 : Int) < (m1 : Int)) := by omega
            go_wp2_with fail
            go_roundg g'
            case measure => omega
            case rel => exact ⟨o' + 1, m1, t1, rfl, hide ht1, hide hr1, hv1, by omega, by omega, hbw⟩
      · have hascz : ¬ ((x.toNat : Int) < 128) := hasc
        obtain ⟨sz, hsz, hS, hszm, hlo, hhi, hb2, hb3, hvd⟩ := lead_true x t1 (by omega) hvt.out
        rw [ht1] at hszm
        have hTr := Utf8Tabs_below hTH.out hbw
        have f0 : wr.cell? ⟨0, x.toNat, none⟩ = some (.int .u8 (Lib.firstT x.toNat)) := hTr.1 x.toNat hx
        have hXlt : Lib.firstT x.toNat < 256 := by rcases Lib.firstT_cases x.toNat with h | h | h | h | h | h | h | h | h <;> omega
        obtain ⟨X, hX⟩ : ∃ X, Lib.firstT x.toNat = X := ⟨_, rfl⟩
        rw [hX] at f0 hXlt hS hlo hhi
        have h7 := and7 ⟨X, hXlt⟩
        simp only at h7
        have ha0 : wr.cell? ⟨1, X / 16 * 2, none⟩ = some (.int .u8 (Lib.accLo (X / 16))) := by rw [Nat.mul_comm]; exact (hTr.2 (X / 16) (by omega)).1
        have ha1 : wr.cell? ⟨1, X / 16 * 2 + 1, none⟩ = some (.int .u8 (Lib.accHi (X / 16))) := by rw [Nat.mul_comm]; exact (hTr.2 (X / 16) (by omega)).2
        obtain ⟨LO, hLO⟩ : ∃ LO, Lib.accLo (X / 16) = LO := ⟨_, rfl⟩
        obtain ⟨HI, hHI⟩ : ∃ HI, Lib.accHi (X / 16) = HI := ⟨_, rfl⟩
        rw [hLO] at ha0 hlo
        rw [hHI] at ha1 hhi
        have cb : ∀ k, k < m1 + 1 → wr.cell? ⟨b, o' + k, none⟩ = some (.int .u8 (Pl.B (x :: t1) k)) := fun k hk => hrw.out k (by rw [ht.out]; exact hk)
        have d1 := cb 1
        have d2 := cb 2
        have d3 := cb 3
        have hlen := ht.out
        generalize hT0 : x :: t1 = t at *
        obtain ⟨y1, hy1⟩ : ∃ y1, Pl.B t 1 = y1 := ⟨_, rfl⟩
        obtain ⟨y2, hy2⟩ : ∃ y2, Pl.B t 2 = y2 := ⟨_, rfl⟩
        obtain ⟨y3, hy3⟩ : ∃ y3, Pl.B t 3 = y3 := ⟨_, rfl⟩
        rw [hy1] at d1 hlo hhi
        rw [hy2] at d2 hb2
        rw [hy3] at d3 hb3
        have hrtH := hrt
        have hbk : b < wr.heap.size := cell_lt c0
        clear hTr cb hX hLO hHI hy1 hy2 hy3 hrw hvt
        rcases hsz with rfl | rfl | rfl
        · as_aux_lemma =>
            have hSZz : (X : Int) % 8 = 2 := by omega
            obtain ⟨m2, rfl⟩ : ∃ m2, m1 = m2 + 1 := ⟨m1 - 1, by omega⟩
            have e1 := d1 (by omega)
            clear d1 d2 d3
            have q0 : ¬ ((m2 : Int) + 1 + 1 < 2) := by omega
            have i1 : (1 : Int) < (m2 : Int) + 1 + 1 := by omega
            have q1 : ¬ (y1 < (LO : Int)) := by omega
            have q2 : ¬ ((HI : Int) < y1) := by omega
            rcases Nat.eq_zero_or_pos m2 with hm2 | hm2
            · subst hm2
              go_upto_region 18 with fail
              go_big_quiet (fail)
              go_wp2
              go_roundg g'
              case measure => omega
              case rel => exact ⟨_, 0, [], rfl, hide rfl, hide (fun i hi => by simp at hi), hide rfl, by omega, by omega, below_drewN (hbw.alloc hbw.size _) _⟩
            · have hmn2 : (m2 + 1 + 1 : Nat) ≠ 2 := by omega
              go_upto_region 18 with fail
              go_big_quiet (fail)
              go_wp2
              go_roundg g'
              case measure => omega
              case rel => exact ⟨o' + 2, m2, t.drop 2, rfl, hide (by rw [List.length_drop, hlen]; omega), hide (hrtH.out.drop 2), hide hvd, by omega, by omega, below_drewN (hbw.alloc hbw.size _) _⟩
        · as_aux_lemma =>
            have hSZz : (X : Int) % 8 = 3 := by omega
            obtain ⟨m2, rfl⟩ : ∃ m2, m1 = m2 + 2 := ⟨m1 - 2, by omega⟩
            have e1 := d1 (by omega)
            have e2 := d2 (by omega)
            clear d1 d2 d3
            have q0 : ¬ ((m2 : Int) + 2 + 1 < 3) := by omega
            have i1 : (1 : Int) < (m2 : Int) + 2 + 1 := by omega
            have i2 : (2 : Int) < (m2 : Int) + 2 + 1 := by omega
            have q1 : ¬ (y1 < (LO : Int)) := by omega
            have q2 : ¬ ((HI : Int) < y1) := by omega
            have q3 : ¬ (y2 < 128) := by have := hb2 (by omega); omega
            have q4 : ¬ (191 < y2) := by have := hb2 (by omega); omega
            rcases Nat.eq_zero_or_pos m2 with hm2 | hm2
            · subst hm2
              go_upto_region 22 with fail
              go_big_quiet (fail)
              go_wp2
              go_roundg g'
              case measure => omega
              case rel => exact ⟨_, 0, [], rfl, hide rfl, hide (fun i hi => by simp at hi), hide rfl, by omega, by omega, below_drewN (hbw.alloc hbw.size _) _⟩
            · have hmn2 : (m2 + 2 + 1 : Nat) ≠ 3 := by omega
              go_upto_region 22 with fail
              go_big_quiet (fail)
              go_wp2
              go_roundg g'
              case measure => omega
              case rel => exact ⟨o' + 3, m2, t.drop 3, rfl, hide (by rw [List.length_drop, hlen]; omega), hide (hrtH.out.drop 3), hide hvd, by omega, by omega, below_drewN (hbw.alloc hbw.size _) _⟩
        · as_aux_lemma =>
            have hSZz : (X : Int) % 8 = 4 := by omega
            obtain ⟨m2, rfl⟩ : ∃ m2, m1 = m2 + 3 := ⟨m1 - 3, by omega⟩
            have e1 := d1 (by omega)
            have e2 := d2 (by omega)
            have e3 := d3 (by omega)
            clear d1 d2 d3
            have q0 : ¬ ((m2 : Int) + 3 + 1 < 4) := by omega
            have i1 : (1 : Int) < (m2 : Int) + 3 + 1 := by omega
            have i2 : (2 : Int) < (m2 : Int) + 3 + 1 := by omega
            have i3 : (3 : Int) < (m2 : Int) + 3 + 1 := by omega
            have q1 : ¬ (y1 < (LO : Int)) := by omega
            have q2 : ¬ ((HI : Int) < y1) := by omega
            have q3 : ¬ (y2 < 128) := by have := hb2 (by omega); omega
            have q4 : ¬ (191 < y2) := by have := hb2 (by omega); omega
            have q5 : ¬ (y3 < 128) := by have := hb3 (by omega); omega
            have q6 : ¬ (191 < y3) := by have := hb3 (by omega); omega
            rcases Nat.eq_zero_or_pos m2 with hm2 | hm2
            · subst hm2
              go_upto_region 26 with fail
              go_big_quiet (fail)
              go_wp2
              go_roundg g'
              case measure => omega
              case rel => exact ⟨_, 0, [], rfl, hide rfl, hide (fun i hi => by simp at hi), hide rfl, by omega, by omega, below_drewN (hbw.alloc hbw.size _) _⟩
            · have hmn2 : (m2 + 3 + 1 : Nat) ≠ 4 := by omega
              go_upto_region 26 with fail
              go_big_quiet (fail)
              go_wp2
              go_roundg g'
              case measure => omega
              case rel => exact ⟨o' + 4, m2, t.drop 4, rfl, hide (by rw [List.length_drop, hlen]; omega), hide (hrtH.out.drop 4), hide hvd, by omega, by omega, below_drewN (hbw.alloc hbw.size _) _⟩
end Go.Proofs.Qxb6608938aDoor
