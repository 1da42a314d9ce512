/-
  WALK: the law FnFoundMarkSeesAnAddedLine: it returns true.
-/
import Derived.Test.Qxb6608740aFmtStart
import Derived.Test.Qxb6608740aFmtDec
import Derived.Lib.AppendStr
import Derived.OwnWalk
import Derived.Laws.CopyOwn
namespace Go.Proofs.Qxb6608740aFmt
open Go.RowKit Go.PlainAid Go.Extern.Stop Go.Stop Go.Extern

def LawPost (w : World) (e : Ending) (w' : World) : Prop := e = .returned (.bool true) ∧ Below w.heap.size w w'
theorem strCells_eq (s : ByteArray) : Lib.strCells s = cellsB s.data.toList := rfl
theorem owns_row {w : World} {base : Nat} {v : Value} {l : List UInt8} (h : Owns w base v l) (h0 : 0 < l.length) : ∃ g c, v = .slice (some ⟨g, 0, none⟩) l.length c ∧ RowAt w g 0 l ∧ l.length ≤ c ∧ c ≤ 9223372036854775807 ∧ base ≤ g ∧ g < w.heap.size := by
  rcases h.2 with ⟨_, h1⟩ | ⟨g, cap, cur, hv, hb, hg, hn, hc, _⟩
  · omega
  · subst hv
    refine ⟨g, cap, rfl, ?_, hn, hc, hb, (Array.getElem?_eq_some_iff.1 hg).1⟩
    intro i hi
    have := World.ownsRow.cellAt h i (by omega)
    rw [Nat.zero_add, this]
    unfold cellsB
    rw [List.getElem?_map, List.getElem?_eq_getElem hi, Pl.B_get l i hi]; rfl
theorem cellsB_one (l : List UInt8) : ∀ u ∈ cellsB l, u.oneCell' = true := by
  intro u hu
  unfold cellsB at hu
  obtain ⟨c, _, rfl⟩ := List.mem_map.1 hu
  rfl
theorem one_new (w : World) (v : Value) (t : TypeId) : ∀ j u, [v][j]? = some u → (w.alloc (.cells #[v] t)).cell? ((⟨w.heap.size, 0, none⟩ : Addr).add j) = some u := by
  intro j u hj
  match j, hj with
  | 0, hj => simp at hj; subst hj; simp [Addr.add]
theorem row_of_block {w : World} {g : Nat} {d : List UInt8} (h : w.heap[g]? = some (.cells (cellsB d).toArray 5 (0, 0))) : RowAt w g 0 d := by
  intro i hi
  rw [Nat.zero_add, cell_of_row w g i _ _ _ h]
  unfold cellsB
  simp only [List.getElem?_toArray, List.getElem?_map, List.getElem?_eq_getElem hi, Option.map_some]
  rw [Pl.B_get d i hi]
theorem add_at (b o j : Nat) : (⟨b, o, none⟩ : Addr).add j = ⟨b, o + j, none⟩ := by unfold Addr.add; split <;> simp_all
theorem row_news {w : World} {b o : Nat} {l : List UInt8} (h : RowAt w b o l) : ∀ j u, (cellsB l)[j]? = some u → w.cell? ((⟨b, o, none⟩ : Addr).add j) = some u := by
  intro j u hu
  obtain ⟨hj, rfl⟩ := cellsB_get hu
  rw [add_at]; exact h j hj

set_option maxRecDepth 1000000 in
set_option maxHeartbeats 4000000 in
theorem law5_long (p : Option Addr) (n c : Nat) (x y z : Int) (s t : ByteArray) (w : World) (h : 65536 < (n : Int) ∨ 65536 < (s.size : Int) ∨ 65536 < (t.size : Int)) :
    Calls Tryf.prog 4 #[.slice p n c, .int .i64 x, .string s, .int .i64 y, .int .i64 z, .string t] w (LawPost w) := by
  have hg := hide (guard5_any p n c x y z s t w)
  by_cases h1 : 65536 < (n : Int)
  · clear h
    go_enter Tryf.func4, Tryf.ntmps4
    go_wp2_with fail
    refine (hg.out).mono ?_
    rintro ev w' ⟨⟨g, rfl⟩, rfl⟩
    cases g
    all_goals go_wp2_with fail
    all_goals go_ret
    all_goals exact ⟨rfl, Below.refl _ _⟩
  · by_cases h2 : 65536 < (s.size : Int)
    · clear h
      go_enter Tryf.func4, Tryf.ntmps4
      go_wp2_with fail
      refine (hg.out).mono ?_
      rintro ev w' ⟨⟨g, rfl⟩, rfl⟩
      cases g
      all_goals go_wp2_with fail
      all_goals go_ret
      all_goals exact ⟨rfl, Below.refl _ _⟩
    · have h3 : 65536 < (t.size : Int) := by omega
      clear h
      go_enter Tryf.func4, Tryf.ntmps4
      go_wp2_with fail
      refine (hg.out).mono ?_
      rintro ev w' ⟨⟨g, rfl⟩, rfl⟩
      cases g
      all_goals go_wp2_with fail
      all_goals go_ret
      all_goals exact ⟨rfl, Below.refl _ _⟩

set_option maxRecDepth 1000000 in
set_option maxHeartbeats 4000000 in
/-- The law answers at once where the name is no name, or a number cannot be written, or the names are one. -/
theorem law5_early (p : Option Addr) (n c : Nat) (x y z : Int) (s t : ByteArray) (w : World) (h1 : (n : Int) ≤ 65536) (h2 : (s.size : Int) ≤ 65536) (h3 : (t.size : Int) ≤ 65536)
    (h : ¬ (Pl.validName s.data.toList = true ∧ y ≠ -9223372036854775808 ∧ 0 ≤ z ∧ t ≠ s)) :
    Calls Tryf.prog 4 #[.slice p n c, .int .i64 x, .string s, .int .i64 y, .int .i64 z, .string t] w (LawPost w) := by
  have hg := hide (guard5_any p n c x y z s t w)
  have hv := hide (validName_any s w (by unfold maxLen; omega))
  obtain ⟨vn, hvn⟩ : ∃ vn, Pl.validName s.data.toList = vn := ⟨_, rfl⟩
  rw [hvn] at hv h
  clear hvn
  have step : ∀ g : Bool, g = true ∨ g = false := fun g => by cases g <;> simp
  cases vn with
  | false =>
    clear h
    go_enter Tryf.func4, Tryf.ntmps4
    go_wp2_with fail
    refine (hg.out).mono ?_
    rintro ev w' ⟨⟨g, rfl⟩, rfl⟩
    cases g
    all_goals go_wp2_with (go_at_call 11; refine (hv.out).mono ?_; rintro ev w2 ⟨rfl, rfl⟩)
    all_goals go_ret
    all_goals exact ⟨rfl, Below.refl _ _⟩
  | true =>
    by_cases hy : y = -9223372036854775808
    · subst hy
      clear h
      go_enter Tryf.func4, Tryf.ntmps4
      go_wp2_with fail
      refine (hg.out).mono ?_
      rintro ev w' ⟨⟨g, rfl⟩, rfl⟩
      cases g
      all_goals go_wp2_with (go_at_call 11; refine (hv.out).mono ?_; rintro ev w2 ⟨rfl, rfl⟩)
      all_goals go_ret
      all_goals exact ⟨rfl, Below.refl _ _⟩
    · have hq : (y == -9223372036854775808) = false := beq_eq_false_iff_ne.2 hy
      by_cases hz : z < 0
      · clear h
        go_enter Tryf.func4, Tryf.ntmps4
        go_wp2_with fail
        refine (hg.out).mono ?_
        rintro ev w' ⟨⟨g, rfl⟩, rfl⟩
        cases g
        all_goals go_wp2_with (go_at_call 11; refine (hv.out).mono ?_; rintro ev w2 ⟨rfl, rfl⟩)
        all_goals go_ret
        all_goals exact ⟨rfl, Below.refl _ _⟩
      · obtain rfl : t = s := by
          by_cases e : t = s
          · exact e
          · exact absurd ⟨rfl, hy, by omega, e⟩ h
        clear h
        go_enter Tryf.func4, Tryf.ntmps4
        go_wp2_with fail
        refine (hg.out).mono ?_
        rintro ev w' ⟨⟨g, rfl⟩, rfl⟩
        cases g
        all_goals go_wp2_with (go_at_call 11; refine (hv.out).mono ?_; rintro ev w2 ⟨rfl, rfl⟩)
        all_goals go_ret
        all_goals exact ⟨rfl, Below.refl _ _⟩
end Go.Proofs.Qxb6608740aFmt
