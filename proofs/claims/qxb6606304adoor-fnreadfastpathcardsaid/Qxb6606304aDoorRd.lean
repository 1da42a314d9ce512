/-
  WALK: numtext.Read where the string begins with a number that has a fraction or an exponent.
-/
import Derived.Test.Qxb6606304aDoorScan
import Derived.Test.Qxb6606304aDoorAtof
namespace Go.Proofs.Qxb6606304aDoor
open Go.RowKit Go.PlainAid
set_option linter.unusedSimpArgs false

set_option maxRecDepth 100000 in
set_option maxHeartbeats 4000000 in
theorem read_any (s a b c d e f : ByteArray) (w : World) (fl : Nat) (hscan : Calls Tryd.prog 11 #[.string s] w fun ev w' => ev = .returned (.tuple #[.agg #[.string a, .string b, .string c, .string d, .string e, .string f], .bool true]) ∧ Below w.heap.size w w')
    (hcd : 0 < c.size ∨ 0 < d.size) (hpf : ∀ W, Below w.heap.size w W → Calls Tryd.prog 39 #[.string e] W fun ev w' => ev = .returned (.tuple #[.float .f64 fl, .int .i64 e.size, .nilIface]) ∧ Below W.heap.size W w') :
    Calls Tryd.prog 7 #[.string s] w fun ev w' => ev = .returned (.tuple #[.int .i64 0, .float .f64 fl, .bool false]) ∧ Below w.heap.size w w' := by
  have hsH := hide hscan
  have hpH := hide hpf
  clear hscan hpf
  have fin : ∀ W : World, Below w.heap.size w W → Hid (Calls Tryd.prog 13 #[.string e, .int .i64 64] (W.alloc (.cells #[.string a, .string b, .string c, .string d, .string e, .string f] 34)) fun ev w' => ev = .returned (.tuple #[.float .f64 fl, .nilIface]) ∧ Below w.heap.size w w') := fun W hW => by
    have hb : Below w.heap.size w (W.alloc (.cells #[.string a, .string b, .string c, .string d, .string e, .string f] 34)) := hW.alloc hW.size _
    exact hide ((parseFloat_any e _ fl (hpH.out _ hb)).mono fun ev w' h => ⟨h.1, hb.trans (h.2.mono hb.size)⟩)
  by_cases hc : 0 < c.size
  · obtain ⟨e1, e2⟩ := isE_no hc
    go_enter Tryd.func7, Tryd.ntmps7
    go_wp2_with (first
      | (go_at_call 11; (with_reducible refine (hsH.out).mono ?_); rintro ev w1 ⟨rfl, hb1⟩; have hfin := fin w1 hb1)
      | (go_at_call 13; (with_reducible refine (hfin.out).mono ?_); rintro ev w2 ⟨rfl, hb2⟩))
    go_ret3
    exact ⟨rfl, hb2⟩
  · obtain ⟨e1, e2⟩ := isE_yes (s := c) (by omega)
    obtain ⟨e3, e4⟩ := isE_no (s := d) (by omega)
    go_enter Tryd.func7, Tryd.ntmps7
    go_wp2_with (first
      | (go_at_call 11; (with_reducible refine (hsH.out).mono ?_); rintro ev w1 ⟨rfl, hb1⟩; have hfin := fin w1 hb1)
      | (go_at_call 13; (with_reducible refine (hfin.out).mono ?_); rintro ev w2 ⟨rfl, hb2⟩))
    go_ret3
    exact ⟨rfl, hb2⟩
end Go.Proofs.Qxb6606304aDoor
