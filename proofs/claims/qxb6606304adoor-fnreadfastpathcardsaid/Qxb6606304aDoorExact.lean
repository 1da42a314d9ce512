/-
  WALKS: atof64exact of internal/strconv; parseFloat64 at the law's numbers.
-/
import Derived.Test.Qxb6606304aDoorPf
import Derived.Test.Qxb6606304aDoorWantB
import Derived.Laws.FloatArith
namespace Go.Proofs.Qxb6606304aDoor
open Go.RowKit Go.PlainAid
set_option linter.unusedSimpArgs false

/-- WHAT THE WALKS ASK OF THE LIBRARY's VARIABLES. -/
structure Env (w : World) : Prop where
  tab : TabW w
  opt : w.cell? ⟨3, 0, none⟩ = some (.bool true)
  inf : w.cell? ⟨4, 0, none⟩ = some (.int .u64 52)
  pow : ∃ b o c, w.cell? ⟨9, 0, none⟩ = some (.slice (some ⟨b, o, none⟩) 23 c) ∧ ∀ k, k < 23 → w.cell? ⟨b, o + k, none⟩ = some (.float .f64 (Fl.pb k))
theorem Env.below {w w' : World} (h : Env w) (hb : Below w.heap.size w w') : Env w' := by
  obtain ⟨h1, h2, h3, b, o, c, h4, h5⟩ := h
  exact ⟨h1.below hb, (hb.cell (p := ⟨3, 0, none⟩) (cell_lt h2)).trans h2, (hb.cell (p := ⟨4, 0, none⟩) (cell_lt h3)).trans h3, b, o, c, (hb.cell (p := ⟨9, 0, none⟩) (cell_lt h4)).trans h4, fun k hk => (hb.cell (p := ⟨b, o + k, none⟩) (cell_lt (h5 k hk))).trans (h5 k hk)⟩

abbrev wd (s : Bool) (r : Nat) : Nat := Ieee.double.word s r
theorem conv_f (d : Nat) (w : World) : (convert 23 26 (.int .u64 (d : Int))).run Tryd.prog w = .ok (.float .f64 (wd false (Fl.rungOf d 0))) w := by
  have e : FloatKind.f64.nearest (d : Int) = wd false (Fl.rungOf d 0) := by
    unfold FloatKind.nearest FloatKind.encode
    show Ieee.double.nearest (decide ((d : Int) < 0)) (d : Int).natAbs 0 = _
    rw [decide_eq_false (by omega), Int.natAbs_natCast, Fl.nearest_word]
  have h := Tryd.underlying26
  have h2 := Tryd.underlying23
  rw [← e]
  simp [convert, run_underlying h, run_underlying h2, Conv.intToFloat]

theorem neg_f (a : Nat) (h : a ≤ 9218868437227405312) (w : World) : (Op.unary .neg (.float .f64 (wd false a))).run Tryd.prog w = .ok (.float .f64 (wd true a)) w := by
  have e : Op.negFloat .f64 (wd false a) = wd true a := Fl.word_neg a h
  show (pure (Value.float .f64 (Op.negFloat .f64 (wd false a))) : Sem Value).run Tryd.prog w = _
  rw [e]
  rfl
theorem ret_ft {a b : Nat} (t : Bool) (h : a = b) : Ending.returned (.tuple #[.float .f64 a, .bool t]) = .returned (.tuple #[.float .f64 b, .bool t]) := by rw [h]
theorem arith_f (op : BinOp) (s : Bool) (a y r : Nat) (w : World) (h : floatBits op .f64 (wd s a) y = some (wd s r)) : (binOp op 26 (.float .f64 (wd s a)) (.float .f64 y)).run Tryd.prog w = .ok (.float .f64 (wd s r)) w :=
  run_float_arith w op 26 .f64 _ _ _ h
/-- What atof64exact answers: the law's float; or 'not by this road', and then the number is great. -/
def ExRes (d : Nat) (p : Int) (neg : Bool) (r : Nat) (e : Ending) : Prop :=
  e = .returned (.tuple #[.float .f64 (wd neg r), .bool true]) ∨ ∃ v, e = .returned (.tuple #[.float .f64 v, .bool false]) ∧ (4503599627370496 ≤ d ∨ (0 < p ∧ 1000000000000000 < d))
set_option maxRecDepth 100000 in
set_option maxHeartbeats 2000000 in
theorem exact_any (d : Nat) (p : Int) (neg : Bool) (r : Nat) (w : World) (hE : Env w) (hd0 : d ≠ 0) (hd : d ≤ 9007199254740992) (hp1 : -22 ≤ p) (hp2 : p ≤ 22) (hop : ∀ s, Fl.opB p (wd s (Fl.rungOf d 0)) = some (wd s r)) (hz : p = 0 → d ≠ 0 → d < 4503599627370496 → r = Fl.rungOf d 0) :
    Calls Tryd.prog 54 #[.int .u64 d, .int .i64 p, .bool neg] w fun e w' => ExRes d p neg r e ∧ w' = w := by
  have hinf := hE.inf
  obtain ⟨pb, po, pc, hpw, hpk⟩ := hE.pow
  have hpkH := hide hpk
  clear hpk hE
  by_cases hbig : 4503599627370496 ≤ d
  · have hsh : ((d : Int) / 4503599627370496 != 0) = true := bne_iff_ne.2 (by omega)
    go_enter Tryd.func54, Tryd.ntmps54
    go_wp2
    go_ret2
    exact ⟨.inr ⟨_, rfl, .inl hbig⟩, rfl⟩
  · have hsh : ((d : Int) / 4503599627370496 != 0) = false := by rw [bne_eq_false_iff_eq]; omega
    have hconv := conv_f d w
    obtain ⟨a, ha⟩ : ∃ a, Fl.rungOf d 0 = a := ⟨_, rfl⟩
    have ha1 : a ≤ 9218868437227405312 := by rw [← ha]; exact Fl.rungOf_le _ _
    have hng := Fl.word_neg a ha1
    rw [ha] at hconv hop hz
    cases neg with
    | false =>
      by_cases hp0 : p = 0
      · subst hp0
        have hra := hide (hz rfl hd0 (by omega))
        clear hop hz
        go_enter Tryd.func54, Tryd.ntmps54
        go_wp2
        go_ret2
        exact ⟨.inl (ret_ft true (by rw [hra.out])), rfl⟩
      by_cases hpp : 0 < p
      · obtain ⟨k, rfl⟩ : ∃ k : Nat, p = k := ⟨p.toNat, by omega⟩
        have hk : w.cell? ⟨pb, po + k, none⟩ = some (.float .f64 (Fl.pb k)) := hpkH.out k (by omega)
        have hmul := arith_f .mul false a (Fl.pb k) r w (by
          have h := hop false
          unfold Fl.opB at h
          rw [if_pos (by omega), Int.natAbs_natCast] at h
          exact h)
        clear hop hz
        by_cases h15 : d ≤ 1000000000000000
        · obtain ⟨o1, o2⟩ := Fl.ord15 d hd0 h15 false
          rw [ha] at o1 o2
          have o1' : (FloatKind.f64.format.order (wd false a) 4831355200913801216 == some .gt) = false := o1
          have o2' : (FloatKind.f64.format.order (wd false a) 14054727237768577024 == some .lt) = false := o2
          clear o1 o2
          go_enter Tryd.func54, Tryd.ntmps54
          go_wp2
          go_ret2
          exact ⟨.inl rfl, rfl⟩
        · obtain ⟨t1, o1⟩ : ∃ t, (FloatKind.f64.format.order (wd false a) 4831355200913801216 == some .gt) = t := ⟨_, rfl⟩
          obtain ⟨t2, o2⟩ : ∃ t, (FloatKind.f64.format.order (wd false a) 14054727237768577024 == some .lt) = t := ⟨_, rfl⟩
          cases t1
          · cases t2
            · go_enter Tryd.func54, Tryd.ntmps54
              go_wp2
              go_ret2
              exact ⟨.inl rfl, rfl⟩
            · go_enter Tryd.func54, Tryd.ntmps54
              go_wp2
              go_ret2
              exact ⟨.inr ⟨_, rfl, .inr ⟨hpp, by omega⟩⟩, rfl⟩
          · go_enter Tryd.func54, Tryd.ntmps54
            go_wp2
            go_ret2
            exact ⟨.inr ⟨_, rfl, .inr ⟨hpp, by omega⟩⟩, rfl⟩
      · obtain ⟨k, rfl⟩ : ∃ k : Nat, p = -(k : Int) := ⟨(-p).toNat, by omega⟩
        have hk : w.cell? ⟨pb, po + k, none⟩ = some (.float .f64 (Fl.pb k)) := hpkH.out k (by omega)
        have hdiv := arith_f .quo false a (Fl.pb k) r w (by
          have h := hop false
          unfold Fl.opB at h
          rw [if_neg (by omega), Int.natAbs_neg, Int.natAbs_natCast] at h
          exact h)
        clear hop hz
        go_enter Tryd.func54, Tryd.ntmps54
        go_wp2
        go_ret2
        exact ⟨.inl rfl, rfl⟩
    | true =>
      have hneg := neg_f a ha1 w
      by_cases hp0 : p = 0
      · subst hp0
        have hra := hide (hz rfl hd0 (by omega))
        clear hop hz
        go_enter Tryd.func54, Tryd.ntmps54
        go_wp2
        go_ret2
        exact ⟨.inl (ret_ft true (by rw [hra.out])), rfl⟩
      by_cases hpp : 0 < p
      · obtain ⟨k, rfl⟩ : ∃ k : Nat, p = k := ⟨p.toNat, by omega⟩
        have hk : w.cell? ⟨pb, po + k, none⟩ = some (.float .f64 (Fl.pb k)) := hpkH.out k (by omega)
        have hmul := arith_f .mul true a (Fl.pb k) r w (by
          have h := hop true
          unfold Fl.opB at h
          rw [if_pos (by omega), Int.natAbs_natCast] at h
          exact h)
        clear hop hz
        by_cases h15 : d ≤ 1000000000000000
        · obtain ⟨o1, o2⟩ := Fl.ord15 d hd0 h15 true
          rw [ha] at o1 o2
          have o1' : (FloatKind.f64.format.order (wd true a) 4831355200913801216 == some .gt) = false := o1
          have o2' : (FloatKind.f64.format.order (wd true a) 14054727237768577024 == some .lt) = false := o2
          clear o1 o2
          go_enter Tryd.func54, Tryd.ntmps54
          go_wp2
          go_ret2
          exact ⟨.inl rfl, rfl⟩
        · obtain ⟨t1, o1⟩ : ∃ t, (FloatKind.f64.format.order (wd true a) 4831355200913801216 == some .gt) = t := ⟨_, rfl⟩
          obtain ⟨t2, o2⟩ : ∃ t, (FloatKind.f64.format.order (wd true a) 14054727237768577024 == some .lt) = t := ⟨_, rfl⟩
          cases t1
          · cases t2
            · go_enter Tryd.func54, Tryd.ntmps54
              go_wp2
              go_ret2
              exact ⟨.inl rfl, rfl⟩
            · go_enter Tryd.func54, Tryd.ntmps54
              go_wp2
              go_ret2
              exact ⟨.inr ⟨_, rfl, .inr ⟨hpp, by omega⟩⟩, rfl⟩
          · go_enter Tryd.func54, Tryd.ntmps54
            go_wp2
            go_ret2
            exact ⟨.inr ⟨_, rfl, .inr ⟨hpp, by omega⟩⟩, rfl⟩
      · obtain ⟨k, rfl⟩ : ∃ k : Nat, p = -(k : Int) := ⟨(-p).toNat, by omega⟩
        have hk : w.cell? ⟨pb, po + k, none⟩ = some (.float .f64 (Fl.pb k)) := hpkH.out k (by omega)
        have hdiv := arith_f .quo true a (Fl.pb k) r w (by
          have h := hop true
          unfold Fl.opB at h
          rw [if_neg (by omega), Int.natAbs_neg, Int.natAbs_natCast] at h
          exact h)
        clear hop hz
        go_enter Tryd.func54, Tryd.ntmps54
        go_wp2
        go_ret2
        exact ⟨.inl rfl, rfl⟩

def sgn (neg : Bool) : Nat := if neg then 9223372036854775808 else 0
theorem wd_eq (neg : Bool) (r : Nat) : wd neg r = sgn neg + r := by
  unfold wd Ieee.Format.word sgn
  rw [Fl.signWeight]
  cases neg <;> simp
/-- parseFloat64 at the law's numbers. -/
theorem pf_any (d : Nat) (p : Int) (neg : Bool) (r : Nat) (w : World) (hE : Env w) (hd0 : d ≠ 0) (hd : d ≤ 9007199254740992) (hp1 : -22 ≤ p) (hp2 : p ≤ 22) (hgr : 4503599627370496 ≤ d ∨ (0 < p ∧ 1000000000000000 < d))
    (hw : ∀ b : Nat, 1 ≤ b → 2 ^ (b - 1) ≤ d → d < 2 ^ b → 50 ≤ b → (p ≤ 0 → 53 ≤ b) → 4503599627370496 ≤ Fl.goM (Fl.usc (d * 2 ^ (64 - b)) (Fl.hiT p) (Fl.loT p)) ∧ Fl.goM (Fl.usc (d * 2 ^ (64 - b)) (Fl.hiT p) (Fl.loT p)) < 9007199254740992 ∧
        Fl.goRung (Fl.usc (d * 2 ^ (64 - b)) (Fl.hiT p) (Fl.loT p)) (53 - (b : Int) - Fl.lgp p) = r) :
    Calls Tryd.prog 55 #[.int .u64 d, .int .i64 p, .int .u64 (sgn neg)] w fun ev w' => ev = .returned (.tuple #[.float .f64 (wd neg r), .nilIface]) ∧ Below w.heap.size w w' := by
  obtain ⟨b, hb, h1, h2⟩ := Fl.bits_of d hd0
  have hb4 := Fl.b_le h1 hd
  have up : ∀ c : Nat, 2 ^ c ≤ d → c < b := fun c hc => by
    rcases Nat.lt_or_ge c b with h | h
    · exact h
    · have := Nat.pow_le_pow_right (show 0 < 2 by omega) h
      omega
  have h50 : 50 ≤ b := up 49 (by rw [show (2 : Nat) ^ 49 = 562949953421312 by decide +kernel]; omega)
  have h53 : p ≤ 0 → 53 ≤ b := fun hp => up 52 (by rw [show (2 : Nat) ^ 52 = 4503599627370496 by decide +kernel]; omega)
  obtain ⟨m1, m2, m3⟩ := hw b hb h1 h2 h50 h53
  have hT : (2 ≤ Fl.hiT p ∧ Fl.hiT p < 18446744073709551616 ∧ Fl.loT p < 18446744073709551616) ∧ -75 ≤ Fl.lgp p ∧ Fl.lgp p ≤ 75 := by
    by_cases hp : 0 ≤ p
    · obtain ⟨k, rfl⟩ : ∃ k : Nat, p = k := ⟨p.toNat, by omega⟩
      obtain ⟨a1, a2, a3, a4, a5, a6, a7, a8, a9, a10⟩ := Fl.hiT_ok k (by omega)
      exact ⟨⟨a1, a2, a3⟩, a7, a8⟩
    · obtain ⟨k, rfl⟩ : ∃ k : Nat, p = -(k : Int) := ⟨(-p).toNat, by omega⟩
      obtain ⟨a1, a2, a3, a4, a5, a6, a7, a8, a9, a10⟩ := Fl.hiT_ok k (by omega)
      exact ⟨⟨a4, a5, a6⟩, a9, a10⟩
  have hxl : 9223372036854775808 ≤ d * 2 ^ (64 - b) := by
    have h := Nat.mul_le_mul_right (2 ^ (64 - b)) h1
    rw [← Nat.pow_add, show b - 1 + (64 - b) = 63 by omega, show (2 : Nat) ^ 63 = 9223372036854775808 by decide +kernel] at h
    exact h
  have hxu : d * 2 ^ (64 - b) < 18446744073709551616 := by
    have h := (Nat.mul_lt_mul_right (Nat.two_pow_pos (64 - b))).2 h2
    rw [← Nat.pow_add, show b + (64 - b) = 64 by omega, show (2 : Nat) ^ 64 = 18446744073709551616 by decide +kernel] at h
    exact h
  have hbig : 18446744073709551616 ≤ d * 2 ^ (64 - b) * Fl.hiT p := Nat.le_trans (by decide +kernel) (Nat.mul_le_mul hxl hT.1.1)
  rw [wd_eq]
  exact pf_core d b (Fl.hiT p) (Fl.loT p) (d * 2 ^ (64 - b)) p (Fl.lgp p) (sgn neg) w (by unfold sgn; cases neg <;> simp) h50 hb4 (by omega) (bitLen_is hb (by omega) h1 h2) hp1 hp2 rfl hT.2.1 hT.2.2 hE.tab rfl rfl hT.1.2.1 hT.1.2.2 rfl hxu hbig _ r rfl (Fl.goM_small m2) m1 m2 m3
end Go.Proofs.Qxb6606304aDoor
