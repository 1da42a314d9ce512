/-
  WALKS: prescale, parseFloat64 of internal/strconv.
-/
import Derived.Test.Qxb6606304aDoorScl
namespace Go.Proofs.Qxb6606304aDoor
open Go.RowKit Go.PlainAid
set_option linter.unusedSimpArgs false

theorem al140 : Tryd.prog.arrayLen 140 = 696 := by kernel_rfl
theorem un140 : Tryd.prog.underlying 140 = some (.array 696 139) := by kernel_rfl
theorem el140 : Tryd.prog.elem 140 = 139 := by kernel_rfl
theorem co139 : Tryd.prog.cellsOf 139 = 2 := by kernel_rfl
set_option maxRecDepth 100000 in
set_option maxHeartbeats 1000000 in
theorem prescale_any (g k : Nat) (e p lp : Int) (hi lo : Nat) (v0 v1 v2 : Value) (w : World) (hk : p + 348 = (k : Int)) (hk2 : k < 696) (t0 : w.cell? ⟨11, k * 2, none⟩ = some (.int .u64 hi)) (t1 : w.cell? ⟨11, k * 2 + 1, none⟩ = some (.int .u64 lo))
    (_hg : g ≠ 11) (c0 : w.cell? ⟨g, 0, none⟩ = some v0) (c1 : w.cell? ⟨g, 1, none⟩ = some v1) (c2 : w.cell? ⟨g, 2, none⟩ = some v2) (f0 : w.frozen? ⟨g, 0, none⟩ = false) (f1 : w.frozen? ⟨g, 1, none⟩ = false) (f2 : w.frozen? ⟨g, 2, none⟩ = false) (hs : e + lp + 3 = -8) (_he1 : -2000 ≤ e) (_he2 : e ≤ 2000) :
    Calls Tryd.prog 66 #[.pointer (some ⟨g, 0, none⟩), .int .i64 e, .int .i64 p, .int .i64 lp] w fun ev w' => ev = .returned (.tuple #[]) ∧ w' = ((w.setCell ⟨g, 0, none⟩ (.int .u64 hi)).setCell ⟨g, 1, none⟩ (.int .u64 lo)).setCell ⟨g, 2, none⟩ (.int .i64 8) := by
  have h1 := al140
  have h2 := un140
  have h3 := el140
  have h4 := co139
  go_enter Tryd.func66, Tryd.ntmps66
  go_wp2
  exact bodyPost_end (v := .tuple #[]) (by simp [results, Tryd.results66, go_sem]) rfl ⟨rfl, rfl⟩

theorem bitLenAux_is : ∀ (b f x : Nat), 2 ^ b ≤ x → x < 2 ^ (b + 1) → b < f → Lib.bitLenAux f x = b + 1 := by
  intro b
  induction b with
  | zero =>
    intro f x h1 h2 hf
    obtain ⟨f, rfl⟩ : ∃ f', f = f' + 1 := ⟨f - 1, by omega⟩
    have : x = 1 := by simp at h1 h2; omega
    subst this
    rw [Lib.bitLenAux, if_neg (by omega)]
    cases f with
    | zero => rfl
    | succ f => rw [Lib.bitLenAux, if_pos (by omega)]
  | succ b ih =>
    intro f x h1 h2 hf
    obtain ⟨f, rfl⟩ : ∃ f', f = f' + 1 := ⟨f - 1, by omega⟩
    have hp := Nat.two_pow_pos (b + 1)
    rw [Nat.pow_succ] at h1
    rw [Nat.pow_succ, Nat.pow_succ] at h2
    rw [Lib.bitLenAux, if_neg (by omega), ih f (x / 2) (by omega) (by rw [Nat.pow_succ]; omega) (by omega)]
    omega
theorem bitLen_is {b x : Nat} (hb : 1 ≤ b) (hb2 : b ≤ 64) (h1 : 2 ^ (b - 1) ≤ x) (h2 : x < 2 ^ b) : Lib.bitLen x = b := by
  unfold Lib.bitLen
  rw [bitLenAux_is (b - 1) 64 x h1 (by rw [show b - 1 + 1 = b by omega]; exact h2) (by omega)]
  omega

/-- The table of powers of ten lies in w. -/
def TabW (w : World) : Prop := ∀ p : Int, -22 ≤ p → p ≤ 22 → w.cell? ⟨11, (p + 348).toNat * 2, none⟩ = some (.int .u64 (Fl.hiT p : Nat)) ∧ w.cell? ⟨11, (p + 348).toNat * 2 + 1, none⟩ = some (.int .u64 (Fl.loT p : Nat))
theorem TabW.below {w w' : World} (h : TabW w) (hb : Below w.heap.size w w') : TabW w' := fun p h1 h2 =>
  ⟨(hb.cell (p := ⟨11, _, none⟩) (cell_lt (h p h1 h2).1)).trans (h p h1 h2).1, (hb.cell (p := ⟨11, _, none⟩) (cell_lt (h p h1 h2).2)).trans (h p h1 h2).2⟩

set_option maxRecDepth 100000 in
set_option maxHeartbeats 2000000 in
theorem pf_core (d b hi lo x : Nat) (p l : Int) (sg : Nat) (w : World) (hs : sg = 0 ∨ sg = 9223372036854775808) (hb1 : 50 ≤ b) (hb2 : b ≤ 54) (hd : d < 18446744073709551616) (hbl : Lib.bitLen d = b) (hp1 : -22 ≤ p) (hp2 : p ≤ 22) (hl : Fl.lgp p = l) (hl1 : -75 ≤ l) (hl2 : l ≤ 75)
    (hT : TabW w) (hhi : hi = Fl.hiT p) (hlo : lo = Fl.loT p) (hhib : hi < 18446744073709551616) (hlob : lo < 18446744073709551616) (hx : x = d * 2 ^ (64 - b)) (hxb : x < 18446744073709551616) (hbig : 18446744073709551616 ≤ x * hi) (u R : Nat) (hu : u = Fl.usc x hi lo) (hub : u < 9223372036854775808)
    (hM1 : 4503599627370496 ≤ Fl.goM u) (hM2 : Fl.goM u < 9007199254740992) (hR : Fl.goRung u (53 - (b : Int) - l) = R) :
    Calls Tryd.prog 55 #[.int .u64 d, .int .i64 p, .int .u64 sg] w fun ev w' => ev = .returned (.tuple #[.float .f64 (sg + R), .nilIface]) ∧ Below w.heap.size w w' := by
  have hlen := hide (Tryd.bits_Len64 (d : Int) w (by omega) (by omega))
  rw [Int.toNat_natCast, hbl] at hlen
  have hlg := hide (log2_any p w (by omega) (by omega))
  rw [hl] at hlg
  have hTH := hide hT
  clear hT hbl hl
  have hRH := hide hR
  have hxH := hide hx
  have huH := hide hu
  clear hR hx hu
  have hmin : min 1074 (53 - (b : Int) - l) = 53 - (b : Int) - l := by omega
  have hg11 : 11 < w.heap.size := cell_lt (hTH.out 0 (by omega) (by omega)).1
  obtain ⟨k, hk⟩ : ∃ k : Nat, p + 348 = k := ⟨(p + 348).toNat, by omega⟩
  have hpre := hide (prescale_any w.heap.size k (53 - (b : Int) - l - (64 - (b : Int))) p l hi lo (.int .u64 0) (.int .u64 0) (.int .i64 0) (w.alloc (.cells #[.int .u64 0, .int .u64 0, .int .i64 0] 120)) hk (by omega)
    ((World.cell?_alloc_lt _ _ _ hg11).trans (by rw [hhi, ← (hTH.out p hp1 hp2).1, show (p + 348).toNat = k by omega])) ((World.cell?_alloc_lt _ _ _ hg11).trans (by rw [hlo, ← (hTH.out p hp1 hp2).2, show (p + 348).toNat = k by omega]))
    (by omega) (by go_simp) (by go_simp) (by go_simp) (by go_simp) (by go_simp) (by go_simp) (by omega) (by omega) (by omega))
  obtain ⟨W2, hW2⟩ : ∃ W2, (((w.alloc (.cells #[.int .u64 0, .int .u64 0, .int .i64 0] 120)).setCell ⟨w.heap.size, 0, none⟩ (.int .u64 hi)).setCell ⟨w.heap.size, 1, none⟩ (.int .u64 lo)).setCell ⟨w.heap.size, 2, none⟩ (.int .i64 8) = W2 := ⟨_, rfl⟩
  have q0 : W2.cell? ⟨w.heap.size, 0, none⟩ = some (.int .u64 hi) := by rw [← hW2]; go_simp
  have q1 : W2.cell? ⟨w.heap.size, 1, none⟩ = some (.int .u64 lo) := by rw [← hW2]; go_simp
  have q2 : W2.cell? ⟨w.heap.size, 2, none⟩ = some (.int .i64 8) := by rw [← hW2]; go_simp
  have hbW : Below w.heap.size w W2 := by
    rw [← hW2]
    exact ((((Below.refl w.heap.size w).alloc (Nat.le_refl _) _).setCell (p := ⟨w.heap.size, 0, none⟩) (Nat.le_refl _) _).setCell (p := ⟨w.heap.size, 1, none⟩) (Nat.le_refl _) _).setCell (p := ⟨w.heap.size, 2, none⟩) (Nat.le_refl _) _
  rw [hW2] at hpre
  clear hW2 hhi hlo
  have hus := hide (uscale_any x hi lo w.heap.size W2 hxb hhib hlob hbig q0 q1 q2)
  rw [← huH.out] at hus
  clear hbig huH
  have hsh : IntKind.u64.wrap ((d : Int) * 2 ^ (64 - b)) = (x : Int) := by
    have e : (d : Int) * 2 ^ (64 - b) = (x : Int) := by rw [hxH.out, Int.natCast_mul, Int.natCast_pow]; rfl
    rw [e, IntKind.wrap_u64]
    omega
  clear hxH
  go_enter Tryd.func55, Tryd.ntmps55
  go_upto_region 9 with (first
    | (go_at_call 64; (with_reducible refine (hlen.out).mono ?_); rintro e w1 ⟨rfl, hw1⟩; rw [hw1]; clear hw1 w1)
    | (go_at_call 65; (with_reducible refine (hlg.out).mono ?_); rintro e w1 ⟨rfl, hw1⟩; rw [hw1]; clear hw1 w1)
    | (go_at_call 66; (with_reducible refine (hpre.out).mono ?_); rintro e w1 ⟨rfl, hw1⟩; rw [hw1]; clear hw1 w1)
    | (go_at_call 67; (with_reducible refine (hus.out).mono ?_); rintro e W3 ⟨rfl, hb3⟩))
  clear hlen hlg hpre hus hsh
  have bel3 := hbW.trans (hb3.mono hbW.size)
  obtain ⟨L, hL⟩ : ∃ L, Fl.goM u = 4503599627370496 + L := ⟨Fl.goM u - 4503599627370496, by omega⟩
  have hL2 : L < 4503599627370496 := by omega
  have hLH := hide hL
  clear hL hM1 hM2
  have hum := hide (unmin53 W3)
  by_cases hu : 36028797018963966 ≤ u
  · obtain ⟨E, hE⟩ : ∃ E : Nat, 1075 + -(53 - (b : Int) - l - 1) = E := ⟨(1075 + -(53 - (b : Int) - l - 1)).toNat, by omega⟩
    have hE2 : E < 2046 := by omega
    have hand := and1 u (by omega)
    have hor0 := u64_or_nat (u / 2) (u % 2) (by omega) (by omega)
    rw [show u / 2 ||| u % 2 = Fl.rsh u from rfl] at hor0
    obtain ⟨v, hv⟩ : ∃ v, Fl.rsh u = v := ⟨_, rfl⟩
    have hvb : v < 9223372036854775808 := by
      rw [← hv]; unfold Fl.rsh
      rw [Fl.or_bit _ _ (by omega)]
      split <;> omega
    have hrd := hide (round_any v W3 hvb)
    have hgm : Fl.rnd v = 4503599627370496 + L := by rw [← hLH.out, ← hv]; unfold Fl.goM; rw [if_pos hu]
    rw [hgm] at hrd
    rw [hv] at hor0
    have hor : bits .or .u64 ((u : Int) / 2) ((u : Int) % 2) = (v : Int) := by
      rw [← hor0]; congr 1
    have hand' : bits .and .u64 (u : Int) 1 = (u : Int) % 2 := by rw [hand]; omega
    have hsg : bits .or .u64 (sg : Int) (4503599627370496 + (L : Int)) = ((sg + (4503599627370496 + L) : Nat) : Int) := by
      have h := u64_or_nat sg (4503599627370496 + L) (by omega) (by omega)
      rw [join_sg sg _ hs (by omega), show ((4503599627370496 + L : Nat) : Int) = 4503599627370496 + (L : Int) by omega] at h
      exact h
    have hfin : Hid (sg + (E * 4503599627370496 + L) = sg + R) := hide (by
      rw [← hRH.out]
      unfold Fl.goRung
      have : Fl.goS u = 1 := by unfold Fl.goS; rw [if_pos hu]
      rw [this, hLH.out]
      omega)
    obtain ⟨mm, hmm⟩ : ∃ mm : Int, mm = ((sg + (4503599627370496 + L) : Nat) : Int) := ⟨_, rfl⟩
    rw [← hmm] at hsg
    have hpk := hide (pack_any sg L E mm (-(53 - (b : Int) - l - 1)) W3 hs hmm hL2 hE hE2)
    rw [hfin.out] at hpk
    clear hfin hmm hs hor0 hand hv hgm hLH hRH
    have hEH := hide hE
    clear hE
    go_wp2_with (first
      | (go_at_call 69; (with_reducible refine (hum.out).mono ?_); rintro e w1 ⟨rfl, hw1⟩; rw [hw1]; clear hw1 w1)
      | (go_at_call 68; (with_reducible refine (boolI _ _).mono ?_); rintro e w1 ⟨rfl, hw1⟩; rw [hw1]; clear hw1 w1)
      | (go_at_call 71; (with_reducible refine (hrd.out).mono ?_); rintro e w1 ⟨rfl, hw1⟩; rw [hw1]; clear hw1 w1)
      | (go_at_call 74; (with_reducible refine (hpk.out).mono ?_); rintro e w1 ⟨rfl, hw1⟩; rw [hw1]; clear hw1 w1))
    go_ret2
    exact ⟨rfl, bel3⟩
  · obtain ⟨E, hE⟩ : ∃ E : Nat, 1075 + -(53 - (b : Int) - l) = E := ⟨(1075 + -(53 - (b : Int) - l)).toNat, by omega⟩
    have hE2 : E < 2046 := by omega
    have hand := and1 u (by omega)
    have hrd := hide (round_any u W3 hub)
    have hgm : Fl.rnd u = 4503599627370496 + L := by rw [← hLH.out]; unfold Fl.goM; rw [if_neg hu]
    rw [hgm] at hrd
    have hor : bits .or .u64 (u : Int) ((u : Int) % 2) = (u : Int) := by
      have h := u64_or_nat u (u % 2) (by omega) (by omega)
      rw [Fl.or_bit _ _ (by omega), if_neg (by omega), show ((u % 2 : Nat) : Int) = (u : Int) % 2 by omega] at h
      exact h
    have hand' : bits .and .u64 (u : Int) 1 = (u : Int) % 2 := by rw [hand]; omega
    have hsg : bits .or .u64 (sg : Int) (4503599627370496 + (L : Int)) = ((sg + (4503599627370496 + L) : Nat) : Int) := by
      have h := u64_or_nat sg (4503599627370496 + L) (by omega) (by omega)
      rw [join_sg sg _ hs (by omega), show ((4503599627370496 + L : Nat) : Int) = 4503599627370496 + (L : Int) by omega] at h
      exact h
    have hfin : Hid (sg + (E * 4503599627370496 + L) = sg + R) := hide (by
      rw [← hRH.out]
      unfold Fl.goRung
      have : Fl.goS u = 0 := by unfold Fl.goS; rw [if_neg hu]
      rw [this, hLH.out]
      omega)
    obtain ⟨mm, hmm⟩ : ∃ mm : Int, mm = ((sg + (4503599627370496 + L) : Nat) : Int) := ⟨_, rfl⟩
    rw [← hmm] at hsg
    have hpk := hide (pack_any sg L E mm (-(53 - (b : Int) - l)) W3 hs hmm hL2 hE hE2)
    rw [hfin.out] at hpk
    clear hfin hmm hs hand hgm hLH hRH
    have hEH := hide hE
    clear hE
    go_wp2_with (first
      | (go_at_call 69; (with_reducible refine (hum.out).mono ?_); rintro e w1 ⟨rfl, hw1⟩; rw [hw1]; clear hw1 w1)
      | (go_at_call 68; (with_reducible refine (boolI _ _).mono ?_); rintro e w1 ⟨rfl, hw1⟩; rw [hw1]; clear hw1 w1)
      | (go_at_call 71; (with_reducible refine (hrd.out).mono ?_); rintro e w1 ⟨rfl, hw1⟩; rw [hw1]; clear hw1 w1)
      | (go_at_call 74; (with_reducible refine (hpk.out).mono ?_); rintro e w1 ⟨rfl, hw1⟩; rw [hw1]; clear hw1 w1))
    go_ret2
    exact ⟨rfl, bel3⟩
end Go.Proofs.Qxb6606304aDoor
