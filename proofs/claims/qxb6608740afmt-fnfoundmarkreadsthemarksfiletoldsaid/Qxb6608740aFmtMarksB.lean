/-
  WALK: timeid.parseMarks where the data are not whole lines; ZZparseMarks; ZZfloorOf.
-/
import Derived.Test.Qxb6608740aFmtMarks
namespace Go.Proofs.Qxb6608740aFmt
open Go.RowKit Go.PlainAid Go.Extern.Stop Go.Stop Go.Extern Go.Maps

theorem marks_none {d : List UInt8} (h : d.getLast? ≠ some 10) : Pl.marks d = none := by
  unfold Pl.marks Pl.lnsO; rw [if_neg h]

set_option maxRecDepth 100000 in
set_option maxHeartbeats 2000000 in
theorem marks_bad (F : Interp) (p : Option Addr) (n c : Nat) (d : List UInt8) (w : World) (hF : F.answers w.tape) (hL : Lies w p n c d) (hd : d.getLast? ≠ some 10) (hn : n ≤ 1000001) (hbk : ∀ a, p = some a → a.block < w.heap.size) :
    Calls Tryf.prog 15 #[.slice p n c] w fun e w' => MRes d w.heap.size w' e ∧ Below w.heap.size w w' := by
  have hbad := hide (marks_none hd)
  have hb2 : Below w.heap.size w (((w.alloc (.cells #[.map none] 26)).alloc (.cells #[.nilIface] 28)).alloc (.cells #[.iface 22 (.slice p n c)] 20)) := below_al (Nat.le_refl _) (below_al (Nat.le_refl _) (below_al (Nat.le_refl _) (Below.refl _ w)))
  have hF2 : F.answers (((w.alloc (.cells #[.map none] 26)).alloc (.cells #[.nilIface] 28)).alloc (.cells #[.iface 22 (.slice p n c)] 20)).tape := hF
  have hV : (((w.alloc (.cells #[.map none] 26)).alloc (.cells #[.nilIface] 28)).alloc (.cells #[.iface 22 (.slice p n c)] 20)).cell? ⟨w.heap.size + 1 + 1, 0, none⟩ = some (.iface 22 (.slice p n c)) := by go_simp
  have hop := op_lies "fmt.errorf" (w := ((w.alloc (.cells #[.map none] 26)).alloc (.cells #[.nilIface] 28)).alloc (.cells #[.iface 22 (.slice p n c)] 20)) (p := p) (n := n) (c := c) (l := d) ⟨hL.1, hL.2.1, fun ad had => by
    obtain ⟨b, o, rfl, hr⟩ := hL.2.2 ad had
    exact ⟨b, o, rfl, hr.below_le hb2 (hbk _ had)⟩⟩
  have he := hide (errf0 F _ _ _ hF2 hV hop)
  have hne : (⟨w.heap.size + 1, 0, none⟩ : Addr) ≠ ⟨w.heap.size, 0, none⟩ := fun h => by injection h with h _; omega
  have hz0 : (((w.alloc (.cells #[.map none] 26)).alloc (.cells #[.nilIface] 28)).alloc (.cells #[.iface 22 (.slice p n c)] 20)).cell? ⟨w.heap.size, 0, none⟩ = some (.map none) := by go_simp
  have hz1 : (((w.alloc (.cells #[.map none] 26)).alloc (.cells #[.nilIface] 28)).alloc (.cells #[.iface 22 (.slice p n c)] 20)).cell? ⟨w.heap.size + 1, 0, none⟩ = some .nilIface := by go_simp
  have hy0 : (((w.alloc (.cells #[.map none] 26)).alloc (.cells #[.nilIface] 28)).alloc (.cells #[.iface 22 (.slice p n c)] 20)).frozen? ⟨w.heap.size, 0, none⟩ = false := by go_simp
  have hy1 : (((w.alloc (.cells #[.map none] 26)).alloc (.cells #[.nilIface] 28)).alloc (.cells #[.iface 22 (.slice p n c)] 20)).frozen? ⟨w.heap.size + 1, 0, none⟩ = false := by go_simp
  have fin : ∀ (W3 : World) (e : Ending), IsErr e → Below (((w.alloc (.cells #[.map none] 26)).alloc (.cells #[.nilIface] 28)).alloc (.cells #[.iface 22 (.slice p n c)] 20)).heap.size (((w.alloc (.cells #[.map none] 26)).alloc (.cells #[.nilIface] 28)).alloc (.cells #[.iface 22 (.slice p n c)] 20)) W3 → Below w.heap.size w W3 ∧ W3.cell? ⟨w.heap.size, 0, none⟩ = some (.map none) ∧ W3.cell? ⟨w.heap.size + 1, 0, none⟩ = some .nilIface ∧ W3.frozen? ⟨w.heap.size, 0, none⟩ = false ∧ W3.frozen? ⟨w.heap.size + 1, 0, none⟩ = false := fun _ _ _ hb3 =>
    ⟨hb2.trans (hb3.mono hb2.size), (hb3.cell (p := ⟨w.heap.size, 0, none⟩) (by simp <;> omega)).trans hz0, (hb3.cell (p := ⟨w.heap.size + 1, 0, none⟩) (by simp <;> omega)).trans hz1, (hb3.frozen (p := ⟨w.heap.size, 0, none⟩) (by simp <;> omega)).trans hy0, (hb3.frozen (p := ⟨w.heap.size + 1, 0, none⟩) (by simp <;> omega)).trans hy1⟩
  have finH := hide fin
  clear fin hz0 hz1 hy0 hy1 hop hV hF2
  rcases Nat.eq_zero_or_pos n with h0 | h0
  · subst h0
    go_enter Tryf.func15, Tryf.ntmps15
    go_wp2_with (go_at_call 19; (with_reducible refine (he.out).mono ?_); rintro e W3 ⟨hie, hb3⟩; obtain ⟨belW, c0, c1, f0, f1⟩ := finH.out _ _ hie hb3; obtain ⟨kk, aa, rfl⟩ := hie)
    have g0 : ((W3.setCell ⟨w.heap.size, 0, none⟩ (.map none)).setCell ⟨w.heap.size + 1, 0, none⟩ (.iface kk (.pointer (some aa)))).cell? ⟨w.heap.size, 0, none⟩ = some (.map none) := (World.cell?_setCell_other _ _ _ _ hne).trans (World.cell?_setCell_same _ _ _ c0)
    have g1 : ((W3.setCell ⟨w.heap.size, 0, none⟩ (.map none)).setCell ⟨w.heap.size + 1, 0, none⟩ (.iface kk (.pointer (some aa)))).cell? ⟨w.heap.size + 1, 0, none⟩ = some (.iface kk (.pointer (some aa))) := World.cell?_setCell_same _ _ _ ((World.cell?_setCell_other _ _ _ _ (Ne.symm hne)).trans c1)
    refine bodyPost_ret (v := .tuple #[.map none, .iface kk (.pointer (some aa))]) (by simp [results, Tryf.results15, go_sem, g0, g1]) rfl ⟨?_, (belW.setCell (p := ⟨w.heap.size, 0, none⟩) (Nat.le_refl _) _).setCell (p := ⟨w.heap.size + 1, 0, none⟩) (Nat.le_succ _) _⟩
    unfold MRes
    rw [hbad.out]
    exact ⟨_, _, rfl⟩
  · obtain ⟨m, rfl⟩ : ∃ m, n = m + 1 := ⟨n - 1, by omega⟩
    cases p with
    | none => have := (hL.2.1 rfl).1; omega
    | some ad =>
      obtain ⟨b, o, rfl, hr⟩ := hL.2.2 ad rfl
      have hcm := hr m (by rw [hL.1]; omega)
      obtain ⟨y, hy⟩ : ∃ y, Pl.B d m = y := ⟨_, rfl⟩
      rw [hy] at hcm
      have hy10 : (y != 10) = true := by
        rw [bne_iff_ne]
        rintro rfl
        apply hd
        have hm : m < d.length := by rw [hL.1]; omega
        rw [Pl.B_get d m hm] at hy
        have hdl : d ≠ [] := fun e => by rw [e] at hm; simp at hm
        rw [List.getLast?_eq_getElem?, show d.length - 1 = m by rw [hL.1]; omega, List.getElem?_eq_getElem hm]
        congr 1
        exact UInt8.toNat_inj.1 (by have : (10 : UInt8).toNat = 10 := rfl; omega)
      have hbk' : b < w.heap.size := hbk _ rfl
      have hbk1 : b < w.heap.size + 1 := by omega
      have hbk2 : b < w.heap.size + 1 + 1 := by omega
      clear hL hr hd
      go_enter Tryf.func15, Tryf.ntmps15
      go_wp2_with (go_at_call 19; (with_reducible refine (he.out).mono ?_); rintro e W3 ⟨hie, hb3⟩; obtain ⟨belW, c0, c1, f0, f1⟩ := finH.out _ _ hie hb3; obtain ⟨kk, aa, rfl⟩ := hie)
      have g0 : ((W3.setCell ⟨w.heap.size, 0, none⟩ (.map none)).setCell ⟨w.heap.size + 1, 0, none⟩ (.iface kk (.pointer (some aa)))).cell? ⟨w.heap.size, 0, none⟩ = some (.map none) := (World.cell?_setCell_other _ _ _ _ hne).trans (World.cell?_setCell_same _ _ _ c0)
      have g1 : ((W3.setCell ⟨w.heap.size, 0, none⟩ (.map none)).setCell ⟨w.heap.size + 1, 0, none⟩ (.iface kk (.pointer (some aa)))).cell? ⟨w.heap.size + 1, 0, none⟩ = some (.iface kk (.pointer (some aa))) := World.cell?_setCell_same _ _ _ ((World.cell?_setCell_other _ _ _ _ (Ne.symm hne)).trans c1)
      refine bodyPost_ret (v := .tuple #[.map none, .iface kk (.pointer (some aa))]) (by simp [results, Tryf.results15, go_sem, g0, g1]) rfl ⟨?_, (belW.setCell (p := ⟨w.heap.size, 0, none⟩) (Nat.le_refl _) _).setCell (p := ⟨w.heap.size + 1, 0, none⟩) (Nat.le_succ _) _⟩
      unfold MRes
      rw [hbad.out]
      exact ⟨_, _, rfl⟩
end Go.Proofs.Qxb6608740aFmt
