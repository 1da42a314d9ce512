/-
  WALKS: bool2, unmin, round, log2Pow10, prescale, uscale, pack64, parseFloat64 of internal/strconv.
-/
import Derived.Test.Qxb6606304aDoorRows
import Derived.Test.Qxb6606304aDoorShelf
import Derived.Test.Qxb6606304aDoorWant
import Derived.WalkKit
import Derived.WalkSpells
import Derived.WalkLawsBesides
import Derived.PlainAid
import Derived.OwnWalk
import Derived.BigQuiet
import Derived.Deep.DeepCutAuto
import Derived.Deep.CutBlock
import Derived.Laws.BitsAllLaws
import Derived.Laws.Externs
import Derived.WalkSmall
namespace Go.Proofs.Qxb6606304aDoor
open Go.RowKit Go.PlainAid
set_option linter.unusedSimpArgs false

theorem hide {p : Prop} (h : p) : Hid p := h
theorem cell_lt {w : World} {a : Addr} {v : Value} (h : w.cell? a = some v) : a.block < w.heap.size := by
  rcases Nat.lt_or_ge a.block w.heap.size with h1 | h1
  · exact h1
  · unfold World.cell? at h
    simp [Array.getElem?_eq_none h1] at h

theorem boolU (b : Bool) (w : World) : Calls Tryd.prog 52 #[.bool b] w fun e w' => e = .returned (.int .u64 (if b then 1 else 0)) ∧ w' = w := by
  cases b
  all_goals
    go_enter Tryd.func52, Tryd.ntmps52
    go_wp2
    go_ret
    exact ⟨rfl, rfl⟩
theorem boolI (b : Bool) (w : World) : Calls Tryd.prog 68 #[.bool b] w fun e w' => e = .returned (.int .i64 (if b then 1 else 0)) ∧ w' = w := by
  cases b
  all_goals
    go_enter Tryd.func68, Tryd.ntmps68
    go_wp2
    go_ret
    exact ⟨rfl, rfl⟩
theorem unmin53 (w : World) : Calls Tryd.prog 69 #[.int .u64 9007199254740992] w fun e w' => e = .returned (.int .u64 36028797018963966) ∧ w' = w := by
  go_enter Tryd.func69, Tryd.ntmps69
  go_wp2
  go_ret
  exact ⟨rfl, rfl⟩
theorem and1 (a : Nat) (ha : a < 18446744073709551616) : bits .and .u64 (a : Int) 1 = ((a % 2 : Nat) : Int) := by
  have h := u64_and_nat a 1 ha (by omega)
  rw [nat_mask1] at h
  exact h
theorem or_u (a b : Nat) (ha : a < 18446744073709551616) (hb : b < 18446744073709551616) : bits .or .u64 (a : Int) (b : Int) = ((a ||| b : Nat) : Int) := u64_or_nat a b ha hb
theorem ret_u {a b : Int} (h : a = b) : Ending.returned (.int .u64 a) = .returned (.int .u64 b) := by rw [h]
set_option maxHeartbeats 1000000 in
theorem round_any (u : Nat) (w : World) (hu : u < 9223372036854775808) : Calls Tryd.prog 71 #[.int .u64 u] w fun e w' => e = .returned (.int .u64 (Fl.rnd u : Nat)) ∧ w' = w := by
  have h : bits .and .u64 ((u : Int) / 4) 1 = (u : Int) / 4 % 2 := by
    have h := and1 (u / 4) (by omega)
    rw [show ((u / 4 : Nat) : Int) = (u : Int) / 4 by omega] at h
    rw [h]; omega
  go_enter Tryd.func71, Tryd.ntmps71
  go_wp2
  go_ret
  have e : ((u : Int) + 1 + (u : Int) / 4 % 2) / 4 = (Fl.rnd u : Nat) := by unfold Fl.rnd; omega
  exact ⟨ret_u e, rfl⟩
set_option maxHeartbeats 1000000 in
theorem log2_any (p : Int) (w : World) (h1 : -1000 ≤ p) (h2 : p ≤ 1000) : Calls Tryd.prog 65 #[.int .i64 p] w fun e w' => e = .returned (.int .i64 (Fl.lgp p)) ∧ w' = w := by
  go_enter Tryd.func65, Tryd.ntmps65
  go_wp2
  go_ret
  exact ⟨rfl, rfl⟩
set_option maxHeartbeats 2000000 in
theorem uscale_any (x hi lo g : Nat) (w : World) (hx : x < 18446744073709551616) (hhi : hi < 18446744073709551616) (hlo : lo < 18446744073709551616) (hbig : 18446744073709551616 ≤ x * hi) (c0 : w.cell? ⟨g, 0, none⟩ = some (.int .u64 hi)) (c1 : w.cell? ⟨g, 1, none⟩ = some (.int .u64 lo)) (c2 : w.cell? ⟨g, 2, none⟩ = some (.int .i64 8)) :
    Calls Tryd.prog 67 #[.int .u64 x, .pointer (some ⟨g, 0, none⟩)] w fun e w' => e = .returned (.int .u64 (Fl.usc x hi lo : Nat)) ∧ Below w.heap.size w w' := by
  have hm1 := hide (Tryd.bits_Mul64 x hi hx hhi w)
  have hm2 := hide (Tryd.bits_Mul64 x lo hx hlo w)
  have hmid : x * hi % 18446744073709551616 < 18446744073709551616 := Nat.mod_lt _ (by omega)
  have hh1 : 1 ≤ x * hi / 18446744073709551616 := by omega
  have hh : x * hi / 18446744073709551616 < 18446744073709551616 := by
    have := Nat.mul_le_mul (show x ≤ 18446744073709551615 by omega) (show hi ≤ 18446744073709551615 by omega)
    omega
  have hmid2 : x * lo / 18446744073709551616 < 18446744073709551616 := by
    have := Nat.mul_le_mul (show x ≤ 18446744073709551615 by omega) (show lo ≤ 18446744073709551615 by omega)
    omega
  obtain ⟨R, hR⟩ : ∃ R, R = Fl.usc x hi lo := ⟨_, rfl⟩
  rw [← hR]
  unfold Fl.usc at hR
  clear hbig
  generalize x * hi / 18446744073709551616 = h at *
  generalize x * hi % 18446744073709551616 = mid at *
  generalize x * lo / 18446744073709551616 = mid2 at *
  generalize x * lo % 18446744073709551616 = low at *
  have hb8 : bits .and .i64 8 63 = 8 := by decide
  have o0 := or_u (h / 256) 0 (by omega) (by omega)
  have o1 := or_u (h / 256) 1 (by omega) (by omega)
  have o2 := or_u ((h - 1) / 256) 0 (by omega) (by omega)
  have o3 := or_u ((h - 1) / 256) 1 (by omega) (by omega)
  rw [show ((h / 256 : Nat) : Int) = (h : Int) / 256 by omega] at o0 o1
  rw [show (((h - 1) / 256 : Nat) : Int) = ((h : Int) - 1) / 256 by omega] at o2 o3
  by_cases hl : h / 256 * 256 ≠ h
  · rw [if_pos hl] at hR
    have hq : ((h : Int) / 256 * 256 != h) = true := bne_iff_ne.2 (by omega)
    have horH := hide o1
    have hRH := hide hR
    clear hR o0 o1 o2 o3
    go_enter Tryd.func67, Tryd.ntmps67
    go_wp2_with (go_at_call 80; (with_reducible refine (hm1.out).mono ?_); rintro e w' ⟨rfl, rfl⟩)
    go_ret
    exact ⟨ret_u (horH.out.trans (by rw [hRH.out])), Below.refl _ _⟩
  · rw [if_neg hl] at hR
    have hq : ((h : Int) / 256 * 256 != h) = false := by rw [bne_eq_false_iff_eq]; omega
    by_cases hlt : mid < mid2
    · rw [if_pos hlt] at hR
      by_cases hr : 1 < (mid + 18446744073709551616 - mid2) % 18446744073709551616
      · rw [if_pos hr] at hR
        have hgt : (1 : Int) < (mid : Int) - mid2 + 18446744073709551616 := by omega
        have hwr : IntKind.u64.wrap ((mid : Int) - mid2) = (mid : Int) - mid2 + 18446744073709551616 := by rw [IntKind.wrap_u64]; omega
        have horH := hide o3
        have hRH := hide hR
        clear hR o0 o1 o2 o3 hr
        go_enter Tryd.func67, Tryd.ntmps67
        go_upto_region 7 with (first
        | (go_at_call 80; (with_reducible refine (hm1.out).mono ?_); rintro e w1 ⟨rfl, hw1⟩; rw [hw1]; clear hw1 w1)
        | (go_at_call 80; (with_reducible refine (hm2.out).mono ?_); rintro e w1 ⟨rfl, hw1⟩; rw [hw1]; clear hw1 w1)
        | (go_at_call 52; (with_reducible refine (boolU _ _).mono ?_); rintro e w1 ⟨rfl, hw1⟩; rw [hw1]; clear hw1 w1))
        go_quiet (first | (go_at_call 52; refine Calls.quiet_of_same (boolU _ _)))
        go_wp2
        go_ret
        exact ⟨ret_u (horH.out.trans (by rw [hRH.out])), below_drewN (Below.refl _ _) _⟩
      · rw [if_neg hr] at hR
        have hgt : decide ((1 : Int) < (mid : Int) - mid2 + 18446744073709551616) = false := decide_eq_false (by omega)
        have hwr : IntKind.u64.wrap ((mid : Int) - mid2) = (mid : Int) - mid2 + 18446744073709551616 := by rw [IntKind.wrap_u64]; omega
        have horH := hide o2
        have hRH := hide hR
        clear hR o0 o1 o2 o3 hr
        go_enter Tryd.func67, Tryd.ntmps67
        go_upto_region 7 with (first
        | (go_at_call 80; (with_reducible refine (hm1.out).mono ?_); rintro e w1 ⟨rfl, hw1⟩; rw [hw1]; clear hw1 w1)
        | (go_at_call 80; (with_reducible refine (hm2.out).mono ?_); rintro e w1 ⟨rfl, hw1⟩; rw [hw1]; clear hw1 w1)
        | (go_at_call 52; (with_reducible refine (boolU _ _).mono ?_); rintro e w1 ⟨rfl, hw1⟩; rw [hw1]; clear hw1 w1))
        go_quiet (first | (go_at_call 52; refine Calls.quiet_of_same (boolU _ _)))
        go_wp2
        go_ret
        exact ⟨ret_u (horH.out.trans (by rw [hRH.out])), below_drewN (Below.refl _ _) _⟩
    · rw [if_neg hlt] at hR
      by_cases hr : 1 < (mid + 18446744073709551616 - mid2) % 18446744073709551616
      · rw [if_pos hr] at hR
        have hgt : (1 : Int) < (mid : Int) - mid2 := by omega
        have horH := hide o1
        have hRH := hide hR
        clear hR o0 o1 o2 o3 hr
        go_enter Tryd.func67, Tryd.ntmps67
        go_upto_region 7 with (first
        | (go_at_call 80; (with_reducible refine (hm1.out).mono ?_); rintro e w1 ⟨rfl, hw1⟩; rw [hw1]; clear hw1 w1)
        | (go_at_call 80; (with_reducible refine (hm2.out).mono ?_); rintro e w1 ⟨rfl, hw1⟩; rw [hw1]; clear hw1 w1)
        | (go_at_call 52; (with_reducible refine (boolU _ _).mono ?_); rintro e w1 ⟨rfl, hw1⟩; rw [hw1]; clear hw1 w1))
        go_quiet (first | (go_at_call 52; refine Calls.quiet_of_same (boolU _ _)))
        go_wp2
        go_ret
        exact ⟨ret_u (horH.out.trans (by rw [hRH.out])), below_drewN (Below.refl _ _) _⟩
      · rw [if_neg hr] at hR
        have hgt : decide ((1 : Int) < (mid : Int) - mid2) = false := decide_eq_false (by omega)
        have horH := hide o0
        have hRH := hide hR
        clear hR o0 o1 o2 o3 hr
        go_enter Tryd.func67, Tryd.ntmps67
        go_upto_region 7 with (first
        | (go_at_call 80; (with_reducible refine (hm1.out).mono ?_); rintro e w1 ⟨rfl, hw1⟩; rw [hw1]; clear hw1 w1)
        | (go_at_call 80; (with_reducible refine (hm2.out).mono ?_); rintro e w1 ⟨rfl, hw1⟩; rw [hw1]; clear hw1 w1)
        | (go_at_call 52; (with_reducible refine (boolU _ _).mono ?_); rintro e w1 ⟨rfl, hw1⟩; rw [hw1]; clear hw1 w1))
        go_quiet (first | (go_at_call 52; refine Calls.quiet_of_same (boolU _ _)))
        go_wp2
        go_ret
        exact ⟨ret_u (horH.out.trans (by rw [hRH.out])), below_drewN (Below.refl _ _) _⟩

theorem frombits (n : Int) (w : World) : (callFunc 53 #[.int .u64 n]).run Tryd.prog w = .ok (.value (.float .f64 n.toNat)) w := by
  rw [run_callFunc_extern (e := Extern.MathFloatBits.float64frombits) Tryd.func53 (by kernel_rfl) (by kernel_rfl) (by kernel_rfl) (by kernel_rfl)]
  rfl

/-! ### pack64 -/
theorem join_sg (sg y : Nat) (hs : sg = 0 ∨ sg = 9223372036854775808) (hy : y < 9223372036854775808) : sg ||| y = sg + y := by
  rcases hs with rfl | rfl
  · simp
  · exact nat_join 63 _ _ (by decide) hy
theorem and52 (sg L : Nat) (hs : sg = 0 ∨ sg = 9223372036854775808) (hL : L < 4503599627370496) : (sg + (4503599627370496 + L)) &&& 4503599627370496 = 4503599627370496 := by
  have h := nat_bit 52 (sg + (4503599627370496 + L))
  rw [show (2 : Nat) ^ 52 = 4503599627370496 by decide +kernel] at h
  rw [h]
  have : (sg + (4503599627370496 + L)) / 4503599627370496 % 2 = 1 := by rcases hs with rfl | rfl <;> omega
  rw [this]
theorem andNot52 (sg L : Nat) (hs : sg = 0 ∨ sg = 9223372036854775808) (hL : L < 4503599627370496) : (sg + (4503599627370496 + L)) &&& (18446744073709551615 - 4503599627370496) = sg + L := by
  have e1 : 4503599627370496 + L = 4503599627370496 ||| L := (nat_join 52 4503599627370496 L (by decide) hL).symm
  have e2 : L &&& (18446744073709551615 - 4503599627370496) = L := by
    have h : L &&& 4503599627370495 = L := by
      rw [show 4503599627370495 = 2 ^ 52 - 1 by decide +kernel, Nat.and_two_pow_sub_one_eq_mod]
      exact Nat.mod_eq_of_lt hL
    have h2 : (4503599627370495 : Nat) &&& (18446744073709551615 - 4503599627370496) = 4503599627370495 := by decide +kernel
    calc L &&& (18446744073709551615 - 4503599627370496) = (L &&& 4503599627370495) &&& (18446744073709551615 - 4503599627370496) := by rw [h]
      _ = L := by rw [Nat.and_assoc, h2, h]
  rw [← join_sg sg (4503599627370496 + L) hs (by omega), e1, Nat.and_or_distrib_right, Nat.and_or_distrib_right, e2]
  have e3 : sg &&& (18446744073709551615 - 4503599627370496) = sg := by rcases hs with rfl | rfl <;> decide +kernel
  have e4 : (4503599627370496 : Nat) &&& (18446744073709551615 - 4503599627370496) = 0 := by decide +kernel
  rw [e3, e4, Nat.zero_or]
  exact join_sg sg L hs (by omega)
theorem or52 (sg L E : Nat) (hs : sg = 0 ∨ sg = 9223372036854775808) (hL : L < 4503599627370496) (hE : E < 2048) : (sg + L) ||| (E * 4503599627370496) = sg + (E * 4503599627370496 + L) := by
  rw [← join_sg sg L hs (by omega), Nat.or_assoc, Nat.or_comm L]
  have h := nat_join 52 (E * 4503599627370496) L (by rw [show (2 : Nat) ^ 52 = 4503599627370496 by decide +kernel]; exact Nat.mul_mod_left _ _) hL
  rw [h]
  exact join_sg sg _ hs (by omega)
theorem ret_f {a b : Nat} (h : a = b) : Ending.returned (.tuple #[.float .f64 a, .nilIface]) = .returned (.tuple #[.float .f64 b, .nilIface]) := by rw [h]
set_option maxRecDepth 100000 in
set_option maxHeartbeats 1000000 in
theorem pack_core (m e : Int) (y E R : Nat) (w : World) (a1 : bits .and .u64 m 4503599627370496 = 4503599627370496) (a2 : bits .andNot .u64 m 4503599627370496 = (y : Int)) (_hy : y < 18446744073709551616)
    (a3 : Hid (bits .or .u64 (y : Int) ((E : Int) * 4503599627370496) = (R : Int))) (hE : 1075 + e = (E : Int)) (hE2 : E < 2046) :
    Calls Tryd.prog 74 #[.int .u64 m, .int .i64 e] w fun ev w' => ev = .returned (.tuple #[.float .f64 R, .nilIface]) ∧ w' = w := by
  have he : e < 972 := by omega
  have hfb := frombits (bits .or .u64 (y : Int) ((E : Int) * 4503599627370496)) w
  have hR : ((R : Int)).toNat = R := by omega
  rw [a3.out, hR] at hfb
  rw [← a3.out] at hfb
  go_enter Tryd.func74, Tryd.ntmps74
  go_wp2
  go_ret2
  exact ⟨rfl, rfl⟩
theorem pack_any (sg L E : Nat) (m e : Int) (w : World) (hs : sg = 0 ∨ sg = 9223372036854775808) (hm : m = ((sg + (4503599627370496 + L) : Nat) : Int)) (hL : L < 4503599627370496) (hE : 1075 + e = (E : Int)) (hE2 : E < 2046) :
    Calls Tryd.prog 74 #[.int .u64 m, .int .i64 e] w fun ev w' => ev = .returned (.tuple #[.float .f64 (sg + (E * 4503599627370496 + L)), .nilIface]) ∧ w' = w := by
  have hsz : sg + (4503599627370496 + L) < 18446744073709551616 := by rcases hs with rfl | rfl <;> omega
  have hsL : sg + L < 18446744073709551616 := by omega
  refine pack_core m e (sg + L) E _ w ?_ ?_ hsL ?_ hE hE2
  · have h := u64_and_nat (sg + (4503599627370496 + L)) 4503599627370496 hsz (by omega)
    rw [and52 sg L hs hL, ← hm] at h
    exact h
  · have h := u64_andNot_nat (sg + (4503599627370496 + L)) 4503599627370496 hsz (by omega)
    rw [andNot52 sg L hs hL, ← hm] at h
    exact h
  · have h := u64_or_nat (sg + L) (E * 4503599627370496) hsL (by omega)
    rw [or52 sg L E hs hL (by omega)] at h
    rw [Int.natCast_mul] at h
    exact hide h
end Go.Proofs.Qxb6606304aDoor
