/-
  WALKS: zzIsDigit, zzIsBlank, zzModelScan: the law's own automaton reads the parts PF0.
-/
import Derived.Test.Qxb6606304aDoorScan
namespace Go.Proofs.Qxb6606304aDoor
open Go.RowKit Go.PlainAid
set_option linter.unusedSimpArgs false

theorem isDig_any (c : Int) (b : Bool) (w : World) (hb : b = decide (48 ≤ c ∧ c ≤ 57)) : Calls Tryd.prog 9 #[.int .u8 c] w fun e w' => e = .returned (.bool b) ∧ w' = w := by
  by_cases h1 : 48 ≤ c
  · by_cases h2 : c ≤ 57
    · have hb' : b = true := by rw [hb]; simp; omega
      subst hb'
      clear hb
      go_enter Tryd.func9, Tryd.ntmps9
      go_wp2
      go_ret
      exact ⟨rfl, rfl⟩
    · have hb' : b = false := by rw [hb]; simp; omega
      subst hb'
      clear hb
      go_enter Tryd.func9, Tryd.ntmps9
      go_wp2
      go_ret
      exact ⟨rfl, rfl⟩
  · have hb' : b = false := by rw [hb]; simp; omega
    subst hb'
    clear hb
    go_enter Tryd.func9, Tryd.ntmps9
    go_wp2
    go_ret
    exact ⟨rfl, rfl⟩
def blank (c : Int) : Bool := c == 32 || c == 9 || c == 10 || c == 13
theorem isBlank_any (c : Int) (w : World) : Calls Tryd.prog 14 #[.int .u8 c] w fun e w' => e = .returned (.bool (blank c)) ∧ w' = w := by
  unfold blank
  by_cases h1 : c = 32
  · subst h1
    go_enter Tryd.func14, Tryd.ntmps14
    go_wp2
    go_ret
    exact ⟨rfl, rfl⟩
  by_cases h2 : c = 9
  · subst h2
    go_enter Tryd.func14, Tryd.ntmps14
    go_wp2
    go_ret
    exact ⟨rfl, rfl⟩
  by_cases h3 : c = 10
  · subst h3
    go_enter Tryd.func14, Tryd.ntmps14
    go_wp2
    go_ret
    exact ⟨rfl, rfl⟩
  have e1 : (c == 32) = false := beq_eq_false_iff_ne.2 h1
  have e2 : (c == 9) = false := beq_eq_false_iff_ne.2 h2
  have e3 : (c == 10) = false := beq_eq_false_iff_ne.2 h3
  rw [e1, e2, e3]
  go_enter Tryd.func14, Tryd.ntmps14
  go_wp2
  go_ret
  exact ⟨rfl, rfl⟩

/-- The parts that stand at T's beginning, number or not. -/
structure PF0 (T : ByteArray) (ps na nf q pe ne en : Nat) (neg dot ee xe eneg : Bool) : Prop where
  sz : T.size ≤ 1048576
  sg : Sgn T 0 ps neg
  i : Run T ps na
  pt : (dot = true ∧ ps + na < T.size ∧ bt T (ps + na) = 46 ∧ Run T (ps + na + 1) nf) ∨ (dot = false ∧ nf = 0 ∧ (ps + na < T.size → bt T (ps + na) ≠ 46))
  hq : q = ps + na + (if dot then 1 + nf else 0)
  ex : (ee = false ∧ xe = false ∧ en = q ∧ (q < T.size → bt T q ≠ 101 ∧ bt T q ≠ 69)) ∨ (ee = true ∧ q < T.size ∧ (bt T q = 101 ∨ bt T q = 69) ∧ Sgn T (q + 1) pe eneg ∧ Run T pe ne ∧ ((0 < ne ∧ xe = true ∧ en = pe + ne) ∨ (ne = 0 ∧ xe = false ∧ en = q)))
theorem PF0.pf {T : ByteArray} {ps na nf q pe ne en : Nat} {neg dot ee xe eneg : Bool} (h : PF0 T ps na nf q pe ne en neg dot ee xe eneg) (hf : 0 < na + nf) : PF T ps na nf q pe ne en neg dot ee xe eneg := ⟨h.sz, h.sg, h.i, h.pt, hf, h.hq, h.ex⟩
theorem Sgn.any (T : ByteArray) (a : Nat) : ∃ p neg, Sgn T a p neg := by
  by_cases h : a < T.size
  · by_cases h1 : bt T a = 43
    · exact ⟨a + 1, false, .inr (.inl ⟨rfl, rfl, h, h1⟩)⟩
    · by_cases h2 : bt T a = 45
      · exact ⟨a + 1, true, .inr (.inr ⟨rfl, rfl, h, h2⟩)⟩
      · exact ⟨a, false, .inl ⟨rfl, rfl, fun _ => ⟨h1, h2⟩⟩⟩
  · exact ⟨a, false, .inl ⟨rfl, rfl, fun h' => absurd h' h⟩⟩
theorem Sgn.le {T : ByteArray} {a p : Nat} {neg : Bool} (h : Sgn T a p neg) (ha : a ≤ T.size) : p ≤ T.size := by
  rcases h with ⟨h, _⟩ | ⟨h, _, h2, _⟩ | ⟨h, _, h2, _⟩ <;> omega
theorem PF0.any (T : ByteArray) (hT : T.size ≤ 1048576) : ∃ ps na nf q pe ne en neg dot ee xe eneg, PF0 T ps na nf q pe ne en neg dot ee xe eneg := by
  obtain ⟨ps, neg, hsg⟩ := Sgn.any T 0
  obtain ⟨na, hi⟩ := Run.any T ps (hsg.le (by omega))
  have step : ∀ (nf q : Nat) (dot : Bool), ((dot = true ∧ ps + na < T.size ∧ bt T (ps + na) = 46 ∧ Run T (ps + na + 1) nf) ∨ (dot = false ∧ nf = 0 ∧ (ps + na < T.size → bt T (ps + na) ≠ 46))) → q = ps + na + (if dot then 1 + nf else 0) → q ≤ T.size → ∃ ps na nf q pe ne en neg dot ee xe eneg, PF0 T ps na nf q pe ne en neg dot ee xe eneg := by
    intro nf q dot hpt hq hqn
    by_cases he : q < T.size ∧ (bt T q = 101 ∨ bt T q = 69)
    · obtain ⟨pe, eneg, hs2⟩ := Sgn.any T (q + 1)
      obtain ⟨ne, hr⟩ := Run.any T pe (hs2.le (by omega))
      by_cases hne : 0 < ne
      · exact ⟨ps, na, nf, q, pe, ne, pe + ne, neg, dot, true, true, eneg, hT, hsg, hi, hpt, hq, .inr ⟨rfl, he.1, he.2, hs2, hr, .inl ⟨hne, rfl, rfl⟩⟩⟩
      · exact ⟨ps, na, nf, q, pe, ne, q, neg, dot, true, false, eneg, hT, hsg, hi, hpt, hq, .inr ⟨rfl, he.1, he.2, hs2, hr, .inr ⟨by omega, rfl, rfl⟩⟩⟩
    · exact ⟨ps, na, nf, q, 0, 0, q, neg, dot, false, false, false, hT, hsg, hi, hpt, hq, .inl ⟨rfl, rfl, rfl, fun h => ⟨fun h2 => he ⟨h, .inl h2⟩, fun h2 => he ⟨h, .inr h2⟩⟩⟩⟩
  have hle := hi.le
  by_cases hp : ps + na < T.size ∧ bt T (ps + na) = 46
  · obtain ⟨nf, hf⟩ := Run.any T (ps + na + 1) (by omega)
    have := hf.le
    exact step nf (ps + na + (1 + nf)) true (.inl ⟨rfl, hp.1, hp.2, hf⟩) (by simp) (by omega)
  · exact step 0 (ps + na) false (.inr ⟨rfl, rfl, fun h h2 => hp ⟨h, h2⟩⟩) (by simp) (by omega)

/-- Where the automaton stands. -/
def SInv (ps na nf q pe ne : Nat) (dot ee : Bool) (st i : Nat) (la po eo : Int) : Prop :=
  (st = 0 ∧ i = 0 ∧ la = -1 ∧ po = -1 ∧ eo = -1) ∨
  (st = 1 ∧ i = 1 ∧ ps = 1 ∧ la = -1 ∧ po = -1 ∧ eo = -1) ∨
  (st = 2 ∧ (∃ a, 1 ≤ a ∧ a ≤ na ∧ i = ps + a) ∧ la = i ∧ po = -1 ∧ eo = -1) ∨
  (st = 3 ∧ na = 0 ∧ dot = true ∧ i = ps + 1 ∧ la = -1 ∧ po = ps ∧ eo = -1) ∨
  (st = 4 ∧ dot = true ∧ (∃ f, f ≤ nf ∧ (0 < na ∨ 0 < f) ∧ i = ps + na + 1 + f) ∧ la = i ∧ po = ((ps + na : Nat) : Int) ∧ eo = -1) ∨
  (st = 5 ∧ ee = true ∧ 0 < na + nf ∧ i = q + 1 ∧ la = q ∧ (po = if dot then ((ps + na : Nat) : Int) else -1) ∧ eo = q) ∨
  (st = 6 ∧ ee = true ∧ 0 < na + nf ∧ i = q + 2 ∧ pe = q + 2 ∧ la = q ∧ (po = if dot then ((ps + na : Nat) : Int) else -1) ∧ eo = q) ∨
  (st = 7 ∧ ee = true ∧ 0 < na + nf ∧ (∃ c, 1 ≤ c ∧ c ≤ ne ∧ i = pe + c) ∧ la = i ∧ (po = if dot then ((ps + na : Nat) : Int) else -1) ∧ eo = q)
/-- What the automaton leaves. -/
def SEnd (ps na nf q en : Nat) (dot ee : Bool) (la po eo : Int) : Prop :=
  (0 < na + nf → la = en ∧ (po = if dot then ((ps + na : Nat) : Int) else -1) ∧ (eo = if ee then (q : Int) else -1)) ∧ (na + nf = 0 → la = -1)

/-- A byte of T and what the automaton asks of it. -/
structure Cls (c : Int) (dg e43 e45 e46 e101 e69 : Bool) : Prop where
  dg : dg = decide (48 ≤ c ∧ c ≤ 57)
  e43 : (c == 43) = e43
  e45 : (c == 45) = e45
  e46 : (c == 46) = e46
  e101 : (c == 101) = e101
  e69 : (c == 69) = e69
theorem cls_dig {c : Int} (h1 : 48 ≤ c) (h2 : c ≤ 57) : Cls c true false false false false false :=
  ⟨by simp; omega, beq_eq_false_iff_ne.2 (by omega), beq_eq_false_iff_ne.2 (by omega), beq_eq_false_iff_ne.2 (by omega), beq_eq_false_iff_ne.2 (by omega), beq_eq_false_iff_ne.2 (by omega)⟩
theorem cls_43 : Cls 43 false true false false false false := ⟨by decide, by decide, by decide, by decide, by decide, by decide⟩
theorem cls_45 : Cls 45 false false true false false false := ⟨by decide, by decide, by decide, by decide, by decide, by decide⟩
theorem cls_46 : Cls 46 false false false true false false := ⟨by decide, by decide, by decide, by decide, by decide, by decide⟩
theorem cls_101 : Cls 101 false false false false true false := ⟨by decide, by decide, by decide, by decide, by decide, by decide⟩
theorem cls_69 : Cls 69 false false false false false true := ⟨by decide, by decide, by decide, by decide, by decide, by decide⟩
theorem cls_no {c : Int} (h : ¬ (48 ≤ c ∧ c ≤ 57)) : ∃ e43 e45 e46 e101 e69, Cls c false e43 e45 e46 e101 e69 := ⟨_, _, _, _, _, by simp; omega, rfl, rfl, rfl, rfl, rfl⟩
end Go.Proofs.Qxb6606304aDoor
