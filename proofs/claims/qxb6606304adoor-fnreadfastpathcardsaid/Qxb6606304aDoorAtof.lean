/-
  WALKS: atof64, parseFloatPrefix, internal/strconv.ParseFloat, strconv.ParseFloat at a decimal number of the law's.
-/
import Derived.Test.Qxb6606304aDoorExact
import Derived.Test.Qxb6606304aDoorRead
namespace Go.Proofs.Qxb6606304aDoor
open Go.RowKit Go.PlainAid
set_option linter.unusedSimpArgs false

/-- What is asked of the two readers of the text. -/
structure Reads (s : ByteArray) (w : World) (d : Nat) (ex : Int) (neg : Bool) : Prop where
  sp : Calls Tryd.prog 43 #[.string s] w fun e w' => e = .returned (.tuple #[.float .f64 0, .int .i64 0, .bool false]) ∧ w' = w
  rf : Calls Tryd.prog 44 #[.string s] w fun e w' => e = .returned (.tuple #[.int .u64 d, .int .i64 ex, .bool neg, .bool false, .bool false, .int .i64 s.size, .bool true]) ∧ w' = w

theorem ret_f3 {a b : Nat} {n : Int} (h : a = b) : Ending.returned (.tuple #[.float .f64 a, .int .i64 n, .nilIface]) = .returned (.tuple #[.float .f64 b, .int .i64 n, .nilIface]) := by rw [h]
set_option maxRecDepth 100000 in
set_option maxHeartbeats 4000000 in
theorem atof_any (s : ByteArray) (w : World) (d : Nat) (ex p : Int) (neg : Bool) (r : Nat) (hE : Env w) (hR : Reads s w d ex neg) (hd : d ≤ 9007199254740992) (hex : d ≠ 0 → ex = p) (hp1 : -22 ≤ p) (hp2 : p ≤ 22)
    (hop : ∀ s, Fl.opB p (wd s (Fl.rungOf d 0)) = some (wd s r)) (hr0 : d = 0 → r = 0) (hz : p = 0 → d ≠ 0 → d < 4503599627370496 → r = Fl.rungOf d 0)
    (hw : ∀ b : Nat, 1 ≤ b → 2 ^ (b - 1) ≤ d → d < 2 ^ b → 50 ≤ b → (p ≤ 0 → 53 ≤ b) → 4503599627370496 ≤ Fl.goM (Fl.usc (d * 2 ^ (64 - b)) (Fl.hiT p) (Fl.loT p)) ∧ Fl.goM (Fl.usc (d * 2 ^ (64 - b)) (Fl.hiT p) (Fl.loT p)) < 9007199254740992 ∧
        Fl.goRung (Fl.usc (d * 2 ^ (64 - b)) (Fl.hiT p) (Fl.loT p)) (53 - (b : Int) - Fl.lgp p) = r) :
    Calls Tryd.prog 39 #[.string s] w fun e w' => e = .returned (.tuple #[.float .f64 (wd neg r), .int .i64 s.size, .nilIface]) ∧ Below w.heap.size w w' := by
  have hsp := hide hR.sp
  have hrf := hide hR.rf
  have hopt := hE.opt
  obtain ⟨n, hn⟩ : ∃ n, s.size = n := ⟨_, rfl⟩
  rw [hn] at hrf ⊢
  obtain ⟨sg, hsg⟩ : ∃ sg, sgn neg = sg := ⟨_, rfl⟩
  have hsgb : sg = 0 ∨ sg = 9223372036854775808 := by rw [← hsg]; unfold sgn; cases neg <;> simp
  have hsh : IntKind.u64.wrap ((if neg = true then (1 : Int) else 0) * 9223372036854775808) = (sg : Int) := by
    rw [← hsg, IntKind.wrap_u64]; unfold sgn; cases neg <;> simp
  have hor : bits .or .u64 (sg : Int) 0 = (sg : Int) := by
    have h := u64_or_nat sg 0 (by omega) (by omega)
    simpa using h
  have hfb := frombits (sg : Int) w
  rw [Int.toNat_natCast] at hfb
  have hbl := hide (boolU neg w)
  obtain ⟨bi, hbi⟩ : ∃ bi : Int, (if neg = true then (1 : Int) else 0) = bi := ⟨_, rfl⟩
  rw [hbi] at hbl hsh
  have hbi1 : 0 ≤ bi ∧ bi ≤ 1 := by rw [← hbi]; split <;> omega
  obtain ⟨hbi1, hbi2⟩ := hbi1
  by_cases hd0 : d = 0
  · have hr := hr0 hd0
    have hfin : Hid (sg = wd neg r) := hide (by rw [wd_eq, hsg, hr]; omega)
    subst hd0
    clear hop hw hz hex hr hr0 hsg
    go_enter Tryd.func39, Tryd.ntmps39
    go_wp2_with (first
      | (go_at_call 43; (with_reducible refine (hsp.out).mono ?_); rintro e w1 ⟨rfl, hw1⟩; rw [hw1]; clear hw1 w1)
      | (go_at_call 44; (with_reducible refine (hrf.out).mono ?_); rintro e w1 ⟨rfl, hw1⟩; rw [hw1]; clear hw1 w1)
      | (go_at_call 52; (with_reducible refine (hbl.out).mono ?_); rintro e w1 ⟨rfl, hw1⟩; rw [hw1]; clear hw1 w1))
    go_ret3
    exact ⟨ret_f3 hfin.out, Below.refl _ _⟩
  · have hexp := hex hd0
    subst hexp
    have hxa := hide (exact_any d ex neg r w hE hd0 hd hp1 hp2 hop hz)
    have hpf := hide (fun hg => pf_any d ex neg r w hE hd0 hd hp1 hp2 hg hw)
    rw [hsg] at hpf
    have hdne : ((d : Int) == 0) = false := beq_eq_false_iff_ne.2 (by omega)
    clear hop hw hz hex hr0
    go_enter Tryd.func39, Tryd.ntmps39
    go_upto_region 20 with (first
      | (go_at_call 43; (with_reducible refine (hsp.out).mono ?_); rintro e w1 ⟨rfl, hw1⟩; rw [hw1]; clear hw1 w1)
      | (go_at_call 44; (with_reducible refine (hrf.out).mono ?_); rintro e w1 ⟨rfl, hw1⟩; rw [hw1]; clear hw1 w1)
      | (go_at_call 52; (with_reducible refine (hbl.out).mono ?_); rintro e w1 ⟨rfl, hw1⟩; rw [hw1]; clear hw1 w1))
    refine (hxa.out).mono ?_
    rintro e w1 ⟨hres, rfl⟩
    rcases hres with rfl | ⟨v, rfl, hgr⟩
    · go_wp2_with fail
      go_ret3
      exact ⟨rfl, Below.refl _ _⟩
    · have hpf' := hide (hpf.out hgr)
      go_wp2_with (go_at_call 55; (with_reducible refine (hpf'.out).mono ?_); rintro e w2 ⟨rfl, hb2⟩)
      go_ret3
      exact ⟨rfl, hb2⟩

set_option maxRecDepth 100000 in
set_option maxHeartbeats 1000000 in
theorem prefix_any (s : ByteArray) (w : World) (f : Nat) (h : Calls Tryd.prog 39 #[.string s] w fun e w' => e = .returned (.tuple #[.float .f64 f, .int .i64 s.size, .nilIface]) ∧ Below w.heap.size w w') :
    Calls Tryd.prog 29 #[.string s, .int .i64 64] w fun e w' => e = .returned (.tuple #[.float .f64 f, .int .i64 s.size, .nilIface]) ∧ Below w.heap.size w w' := by
  have hH := hide h
  clear h
  go_enter Tryd.func29, Tryd.ntmps29
  go_wp2_with (go_at_call 39; (with_reducible refine (hH.out).mono ?_); rintro e w2 ⟨rfl, hb2⟩)
  go_ret3
  exact ⟨rfl, hb2⟩
set_option maxRecDepth 100000 in
set_option maxHeartbeats 1000000 in
theorem inner_any (s : ByteArray) (w : World) (f : Nat) (h : Calls Tryd.prog 39 #[.string s] w fun e w' => e = .returned (.tuple #[.float .f64 f, .int .i64 s.size, .nilIface]) ∧ Below w.heap.size w w') :
    Calls Tryd.prog 19 #[.string s, .int .i64 64] w fun e w' => e = .returned (.tuple #[.float .f64 f, .nilIface]) ∧ Below w.heap.size w w' := by
  have hH := hide (prefix_any s w f h)
  clear h
  go_enter Tryd.func19, Tryd.ntmps19
  go_wp2_with (go_at_call 29; (with_reducible refine (hH.out).mono ?_); rintro e w2 ⟨rfl, hb2⟩)
  go_ret2
  exact ⟨rfl, hb2⟩
set_option maxRecDepth 100000 in
set_option maxHeartbeats 1000000 in
theorem parseFloat_any (s : ByteArray) (w : World) (f : Nat) (h : Calls Tryd.prog 39 #[.string s] w fun e w' => e = .returned (.tuple #[.float .f64 f, .int .i64 s.size, .nilIface]) ∧ Below w.heap.size w w') :
    Calls Tryd.prog 13 #[.string s, .int .i64 64] w fun e w' => e = .returned (.tuple #[.float .f64 f, .nilIface]) ∧ Below w.heap.size w w' := by
  have hH := hide (inner_any s w f h)
  clear h
  go_enter Tryd.func13, Tryd.ntmps13
  go_wp2_with (go_at_call 19; (with_reducible refine (hH.out).mono ?_); rintro e w2 ⟨rfl, hb2⟩)
  go_ret2
  exact ⟨rfl, hb2⟩
end Go.Proofs.Qxb6606304aDoor
