/-
  SEAT b6606095aD: the walk of the law: it returns true.
-/
import Derived.Test.Qxb6606095aDoorParse
import Derived.Test.Qxb6606095aDoorModel
namespace Go.Proofs.Qxb6606095aDoor
open Go.RowKit Go.PlainAid

theorem goParse_ends (l : List UInt8) : Pl.goParse l = Pl.bad ∨ (Pl.goParse l).2.2.2 = true := by
  unfold Pl.goParse
  simp only
  generalize Pl.goCut _ = c
  unfold Pl.goMant
  simp only
  split
  · exact .inl rfl
  · unfold Pl.goTail
    split
    · simp only
      generalize (if Pl.signed c.2.1 = true then List.drop 1 c.2.1 else c.2.1) = d
      split
      · exact .inl rfl
      · exact .inr (normal_last _ _ _)
    · exact .inr (normal_last _ _ _)

theorem below_cells {W w1 : World} (hb : Below W.heap.size W w1) : (∀ b o, b < W.heap.size → w1.cell? ⟨b, o, none⟩ = W.cell? ⟨b, o, none⟩) ∧ (∀ b o, b < W.heap.size → w1.frozen? ⟨b, o, none⟩ = W.frozen? ⟨b, o, none⟩) :=
  ⟨fun b o h => hb.cell (p := ⟨b, o, none⟩) h, fun b o h => hb.frozen (p := ⟨b, o, none⟩) h⟩

set_option maxRecDepth 100000 in
set_option maxHeartbeats 1000000 in
theorem zzparse_any (s : ByteArray) (m : Int) (w : World) (g1 g4 : Bool) (g2 : ByteArray) (g3 : Int) (hg : Hid (Pl.goParse s.data.toList = (g1, g2.data.toList, g3, g4))) (hs : (s.size : Int) ≤ 1048576) (hm : w.cell? ⟨0, 0, none⟩ = some (.int .i64 m)) :
    Calls Tryd.prog 8 #[.string s] w fun ev w' => ev = .returned (.tuple #[.bool g1, .string g2, .int .i64 g3, .bool g4]) ∧ Below w.heap.size w w' := by
  go_enter Tryd.func8, Tryd.ntmps8
  go_wp2_with (go_at_call 16; refine (parse_any s m _ hs hm).mono ?_; rintro ev w1 ⟨rfl, hb1⟩; rw [hg.out])
  go_quiet (fail)
  go_wp2
  refine bodyPost_ret (v := .tuple #[.bool g1, .string g2, .int .i64 g3, .bool g4]) (by simp [results, Tryd.results8, go_sem]) rfl ⟨rfl, ?_⟩
  exact below_drewN (hb1.alloc hb1.size _) _

set_option maxRecDepth 100000 in
set_option maxHeartbeats 1000000 in
theorem law_walk (s : ByteArray) (m : Int) (w : World) (hm : w.cell? ⟨0, 0, none⟩ = some (.int .i64 m)) :
    Calls Tryd.prog 3 #[.string s] w fun ev w' => ev = .returned (.bool true) ∧ Below w.heap.size w w' := by
  by_cases hs : (s.size : Int) ≤ 1048576
  · obtain ⟨g1, g2, g3, g4, hg⟩ : ∃ (g1 : Bool) (g2 : ByteArray) (g3 : Int) (g4 : Bool), Pl.goParse s.data.toList = (g1, g2.data.toList, g3, g4) := ⟨_, ⟨(Pl.goParse s.data.toList).2.1.toArray⟩, _, _, rfl⟩
    have hgm : Hid (mp s = (g1, g2.data.toList, g3, g4)) := (Pl.readers s.data.toList).trans hg
    have hends := goParse_ends s.data.toList
    have hgH := hide hg
    rw [hg] at hends
    clear hg
    cases g4
    · have hb : Pl.bad = (g1, g2.data.toList, g3, false) := by
        rcases hends with h | h
        · exact h.symm
        · cases h
      unfold Pl.bad at hb
      injection hb with hb1 hb
      injection hb with hb2 hb
      injection hb with hb3 _
      have hb4 : g2 = ⟨#[]⟩ := by
        obtain ⟨⟨l⟩⟩ := g2
        have : ([] : List UInt8) = l := hb2
        subst this; rfl
      subst hb1 hb3 hb4
      clear hends hb2
      go_enter Tryd.func3, Tryd.ntmps3
      go_wp2_with (first
        | (go_at_call 7; refine (guard_short s _ hs).mono ?_; rintro ev w' ⟨rfl, rfl⟩)
        | (go_at_call 8; refine (zzparse_any s m _ false false ⟨#[]⟩ 0 hgH hs hm).mono ?_; rintro ev w1 ⟨rfl, hb1⟩)
        | (go_at_call 9; refine (model_any s _ hs).mono ?_; rintro ev w2 ⟨rfl, hb2⟩; rw [hgm.out]))
      go_ret
      exact ⟨rfl, hb1.trans (hb2.mono hb1.size)⟩
    · clear hends
      go_enter Tryd.func3, Tryd.ntmps3
      go_wp2_with (first
        | (go_at_call 7; refine (guard_short s _ hs).mono ?_; rintro ev w' ⟨rfl, rfl⟩)
        | (go_at_call 8; refine (zzparse_any s m _ g1 true g2 g3 hgH hs hm).mono ?_; rintro ev w1 ⟨rfl, hb1⟩)
        | (go_at_call 9; refine (model_any s _ hs).mono ?_; rintro ev w2 ⟨rfl, hb2⟩; rw [hgm.out]))
      go_ret
      exact ⟨rfl, hb1.trans (hb2.mono hb1.size)⟩
  · go_enter Tryd.func3, Tryd.ntmps3
    go_wp2_with (go_at_call 7; refine (guard_long s _ (by omega)).mono ?_; rintro ev w' ⟨rfl, rfl⟩)
    go_ret
    exact ⟨rfl, Below.refl _ _⟩
end Go.Proofs.Qxb6606095aDoor
