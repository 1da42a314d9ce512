/-
  WALK: the law FnCompactOpReadsWrittenOp: it returns true.
-/
import Derived.Test.Qxb6608938aDoorZz
import Derived.Room.AppendFits
import Derived.OwnWalk
import Derived.Deep.DeepCutAuto
import Derived.Deep.CutBlock
namespace Go.Proofs.Qxb6608938aDoor
open Go.RowKit Go.PlainAid

def LawPost (w : World) (e : Ending) (w' : World) : Prop := e = .returned (.bool true) ∧ Below w.heap.size w w'

/-- The plain facts behind the walk. -/
theorem wr_len (nm a : List UInt8) : (Pl.wr nm a).length = 8 + nm.length + (if a = [] then 0 else 7 + a.length) := by
  unfold Pl.wr Pl.mid
  have h7 : Pl.head.length = 7 := rfl
  have h7' : Pl.karg.length = 7 := rfl
  by_cases h : a = []
  · rw [if_pos h, if_pos h]; simp; omega
  · rw [if_neg h, if_neg h]; simp; omega
theorem wr_drop7 (nm a x : List UInt8) : (Pl.wr nm a ++ x).drop 7 = nm ++ 34 :: (Pl.mid a ++ x) := by
  unfold Pl.wr
  rw [List.append_assoc]
  exact (List.drop_left' (by rfl)).trans (by simp)
theorem wr_name (nm a x : List UInt8) : ((Pl.wr nm a ++ x).drop 7).take nm.length = nm := by
  rw [wr_drop7]; exact List.take_left' rfl
theorem wr_arg (nm a x : List UInt8) (h : a ≠ []) : (Pl.wr nm a ++ 125 :: x).drop (7 + (nm.length + 8)) = a ++ 125 :: x := by
  rw [← List.drop_drop, wr_drop7]
  unfold Pl.mid
  rw [if_neg h]
  have e : nm ++ 34 :: (Pl.karg ++ a ++ 125 :: x) = (nm ++ 34 :: Pl.karg) ++ (a ++ 125 :: x) := by simp
  rw [e, List.drop_left' (by simp; rfl)]
theorem wr_rest (nm a x : List UInt8) : (Pl.wr nm a ++ 125 :: x).drop ((Pl.wr nm a).length + 1) = x := by
  have e : Pl.wr nm a ++ 125 :: x = (Pl.wr nm a ++ [125]) ++ x := by simp
  rw [e, List.drop_left' (by simp)]
theorem wr_run (nm a x : List UInt8) (h : nm.all Pl.nameByte = true) : Pl.run Pl.nameByte ((Pl.wr nm a ++ x).drop 7) = nm.length := by
  rw [wr_drop7, Pl.run_stop Pl.nameByte nm 34 _ h Pl.name34]
theorem wr_run_cut (nm a : List UInt8) (k : Nat) (h : nm.all Pl.nameByte = true) : Pl.run Pl.nameByte (((Pl.wr nm a).take k).drop 7) ≤ nm.length := by
  have e : ((Pl.wr nm a).take k).drop 7 = ((Pl.wr nm a).drop 7).take (k - 7) := by rw [List.drop_take]
  rw [e]
  refine Nat.le_trans (run_take_le _ _ _) ?_
  have := wr_run nm a [] h
  rw [List.append_nil] at this
  rw [this]; exact Nat.le_refl _

theorem eql_nil (w : World) (a : Addr) (l c : Nat) : (binOp .eql 22 (.slice (some a) l c) (.slice none 0 0)).run Tryd.prog w = .ok (.bool false) w := by
  unfold binOp
  simp [run_equal_slice_nil w 22 5 (some a) l c Tryd.underlying22]
theorem one_new (w : World) (v : Value) (t : TypeId) : ∀ j u, [v][j]? = some u → (w.alloc (.cells #[v] t)).cell? ((⟨w.heap.size, 0, none⟩ : Addr).add j) = some u := by
  intro j u hj
  match j, hj with
  | 0, hj => simp at hj; subst hj; simp [Addr.add]

set_option maxRecDepth 1000000 in
set_option maxHeartbeats 4000000 in
theorem law_long (s : ByteArray) (p1 p2 : Option Addr) (n1 c1 n2 c2 : Nat) (x : Int) (w : World) (h : 65536 < (s.size : Int) ∨ 65536 < (n1 : Int) ∨ 65536 < (n2 : Int)) :
    Calls Tryd.prog 4 #[.string s, .slice p1 n1 c1, .slice p2 n2 c2, .int .i64 x] w (LawPost w) := by
  have hg := hide (guard_any s p1 p2 n1 c1 n2 c2 x w)
  by_cases h1 : 65536 < (s.size : Int)
  · clear h
    go_enter Tryd.func4, Tryd.ntmps4
    go_wp2_with fail
    refine (hg.out).mono ?_
    rintro ev w' ⟨⟨g, rfl⟩, rfl⟩
    cases g
    all_goals go_wp2_with fail
    all_goals go_ret
    all_goals exact ⟨rfl, Below.refl _ _⟩
  · by_cases h2 : 65536 < (n1 : Int)
    · clear h
      go_enter Tryd.func4, Tryd.ntmps4
      go_wp2_with fail
      refine (hg.out).mono ?_
      rintro ev w' ⟨⟨g, rfl⟩, rfl⟩
      cases g
      all_goals go_wp2_with fail
      all_goals go_ret
      all_goals exact ⟨rfl, Below.refl _ _⟩
    · have h3 : 65536 < (n2 : Int) := by omega
      clear h
      go_enter Tryd.func4, Tryd.ntmps4
      go_wp2_with fail
      refine (hg.out).mono ?_
      rintro ev w' ⟨⟨g, rfl⟩, rfl⟩
      cases g
      all_goals go_wp2_with fail
      all_goals go_ret
      all_goals exact ⟨rfl, Below.refl _ _⟩
end Go.Proofs.Qxb6608938aDoor
