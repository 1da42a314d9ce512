/-
  WALK: numtext.scan at a string that begins with a number.
-/
import Derived.Test.Qxb6606304aDoorCnt
namespace Go.Proofs.Qxb6606304aDoor
open Go.RowKit Go.PlainAid
set_option linter.unusedSimpArgs false

/-- A sign at place a of T, or none: p is the place behind it. -/
def Sgn (T : ByteArray) (a p : Nat) (neg : Bool) : Prop := (p = a ∧ neg = false ∧ (a < T.size → bt T a ≠ 43 ∧ bt T a ≠ 45)) ∨ (p = a + 1 ∧ neg = false ∧ a < T.size ∧ bt T a = 43) ∨ (p = a + 1 ∧ neg = true ∧ a < T.size ∧ bt T a = 45)
/-- The parts of the number that T begins with. -/
structure PF (T : ByteArray) (ps na nf q pe ne en : Nat) (neg dot ee xe eneg : Bool) : Prop where
  sz : T.size ≤ 1048576
  sg : Sgn T 0 ps neg
  i : Run T ps na
  pt : (dot = true ∧ ps + na < T.size ∧ bt T (ps + na) = 46 ∧ Run T (ps + na + 1) nf) ∨ (dot = false ∧ nf = 0 ∧ (ps + na < T.size → bt T (ps + na) ≠ 46))
  found : 0 < na + nf
  hq : q = ps + na + (if dot then 1 + nf else 0)
  ex : (ee = false ∧ xe = false ∧ en = q ∧ (q < T.size → bt T q ≠ 101 ∧ bt T q ≠ 69)) ∨ (ee = true ∧ q < T.size ∧ (bt T q = 101 ∨ bt T q = 69) ∧ Sgn T (q + 1) pe eneg ∧ Run T pe ne ∧ ((0 < ne ∧ xe = true ∧ en = pe + ne) ∨ (ne = 0 ∧ xe = false ∧ en = q)))
/-- The six fields of a number lie in block g. -/
structure NumAt (W : World) (g : Nat) (a b c d e f : ByteArray) : Prop where
  c0 : W.cell? ⟨g, 0, none⟩ = some (.string a)
  c1 : W.cell? ⟨g, 1, none⟩ = some (.string b)
  c2 : W.cell? ⟨g, 2, none⟩ = some (.string c)
  c3 : W.cell? ⟨g, 3, none⟩ = some (.string d)
  c4 : W.cell? ⟨g, 4, none⟩ = some (.string e)
  c5 : W.cell? ⟨g, 5, none⟩ = some (.string f)
  z : ∀ k, k < 6 → W.frozen? ⟨g, k, none⟩ = false

theorem isE_no {s : ByteArray} (h : 0 < s.size) : s.toList.isEmpty = false ∧ ¬ s.toList = [] := by
  rw [Lib.toList_data]
  have : s.data.toList.length = s.size := rfl
  have h2 : ¬ s.data.toList = [] := fun e => by rw [e] at this; simp at this; omega
  exact ⟨by rw [List.isEmpty_eq_false_iff]; exact h2, h2⟩
theorem isE_yes {s : ByteArray} (h : s.size = 0) : s.toList.isEmpty = true ∧ s.toList = [] := by
  rw [Lib.toList_data]
  have h2 : s.data.toList = [] := List.eq_nil_of_length_eq_zero h
  exact ⟨by rw [h2]; rfl, h2⟩
theorem below_drew {B : Nat} {a w : World} (h : Below B a w) : Below B a w.drew := h.trans ⟨rfl, rfl, rfl, Nat.le_refl _, fun _ _ => rfl⟩
theorem num_new (w : World) : NumAt (w.alloc (.cells #[.string ⟨#[]⟩, .string ⟨#[]⟩, .string ⟨#[]⟩, .string ⟨#[]⟩, .string ⟨#[]⟩, .string ⟨#[]⟩] 34)) w.heap.size ⟨#[]⟩ ⟨#[]⟩ ⟨#[]⟩ ⟨#[]⟩ ⟨#[]⟩ ⟨#[]⟩ :=
  ⟨by go_simp, by go_simp, by go_simp, by go_simp, by go_simp, by go_simp, fun k _ => World.frozen?_alloc_new _ _ _ _⟩
theorem NumAt.below {W W' : World} {g : Nat} {a b c d e f : ByteArray} (h : NumAt W g a b c d e f) (hb : Below W.heap.size W W') : NumAt W' g a b c d e f := by
  have hg : g < W.heap.size := cell_lt h.c0
  exact ⟨(hb.cell (p := ⟨g, 0, none⟩) hg).trans h.c0, (hb.cell (p := ⟨g, 1, none⟩) hg).trans h.c1, (hb.cell (p := ⟨g, 2, none⟩) hg).trans h.c2, (hb.cell (p := ⟨g, 3, none⟩) hg).trans h.c3, (hb.cell (p := ⟨g, 4, none⟩) hg).trans h.c4, (hb.cell (p := ⟨g, 5, none⟩) hg).trans h.c5, fun k hk => (hb.frozen (p := ⟨g, k, none⟩) hg).trans (h.z k hk)⟩

theorem NumAt.set0 {W : World} {g : Nat} {a b c d e f : ByteArray} (h : NumAt W g a b c d e f) (x : ByteArray) : NumAt (W.setCell ⟨g, 0, none⟩ (.string x)) g x b c d e f :=
  ⟨World.cell?_setCell_same _ _ _ h.c0, (World.cell?_setCell_other _ _ _ _ (fun e => by injection e with _ e; omega)).trans h.c1, (World.cell?_setCell_other _ _ _ _ (fun e => by injection e with _ e; omega)).trans h.c2, (World.cell?_setCell_other _ _ _ _ (fun e => by injection e with _ e; omega)).trans h.c3, (World.cell?_setCell_other _ _ _ _ (fun e => by injection e with _ e; omega)).trans h.c4, (World.cell?_setCell_other _ _ _ _ (fun e => by injection e with _ e; omega)).trans h.c5, fun j hj => by rw [World.frozen?_setCell]; exact h.z j hj⟩
theorem NumAt.set1 {W : World} {g : Nat} {a b c d e f : ByteArray} (h : NumAt W g a b c d e f) (x : ByteArray) : NumAt (W.setCell ⟨g, 1, none⟩ (.string x)) g a x c d e f :=
  ⟨(World.cell?_setCell_other _ _ _ _ (fun e => by injection e with _ e; omega)).trans h.c0, World.cell?_setCell_same _ _ _ h.c1, (World.cell?_setCell_other _ _ _ _ (fun e => by injection e with _ e; omega)).trans h.c2, (World.cell?_setCell_other _ _ _ _ (fun e => by injection e with _ e; omega)).trans h.c3, (World.cell?_setCell_other _ _ _ _ (fun e => by injection e with _ e; omega)).trans h.c4, (World.cell?_setCell_other _ _ _ _ (fun e => by injection e with _ e; omega)).trans h.c5, fun j hj => by rw [World.frozen?_setCell]; exact h.z j hj⟩
theorem NumAt.set2 {W : World} {g : Nat} {a b c d e f : ByteArray} (h : NumAt W g a b c d e f) (x : ByteArray) : NumAt (W.setCell ⟨g, 2, none⟩ (.string x)) g a b x d e f :=
  ⟨(World.cell?_setCell_other _ _ _ _ (fun e => by injection e with _ e; omega)).trans h.c0, (World.cell?_setCell_other _ _ _ _ (fun e => by injection e with _ e; omega)).trans h.c1, World.cell?_setCell_same _ _ _ h.c2, (World.cell?_setCell_other _ _ _ _ (fun e => by injection e with _ e; omega)).trans h.c3, (World.cell?_setCell_other _ _ _ _ (fun e => by injection e with _ e; omega)).trans h.c4, (World.cell?_setCell_other _ _ _ _ (fun e => by injection e with _ e; omega)).trans h.c5, fun j hj => by rw [World.frozen?_setCell]; exact h.z j hj⟩
theorem NumAt.set3 {W : World} {g : Nat} {a b c d e f : ByteArray} (h : NumAt W g a b c d e f) (x : ByteArray) : NumAt (W.setCell ⟨g, 3, none⟩ (.string x)) g a b c x e f :=
  ⟨(World.cell?_setCell_other _ _ _ _ (fun e => by injection e with _ e; omega)).trans h.c0, (World.cell?_setCell_other _ _ _ _ (fun e => by injection e with _ e; omega)).trans h.c1, (World.cell?_setCell_other _ _ _ _ (fun e => by injection e with _ e; omega)).trans h.c2, World.cell?_setCell_same _ _ _ h.c3, (World.cell?_setCell_other _ _ _ _ (fun e => by injection e with _ e; omega)).trans h.c4, (World.cell?_setCell_other _ _ _ _ (fun e => by injection e with _ e; omega)).trans h.c5, fun j hj => by rw [World.frozen?_setCell]; exact h.z j hj⟩
theorem NumAt.set4 {W : World} {g : Nat} {a b c d e f : ByteArray} (h : NumAt W g a b c d e f) (x : ByteArray) : NumAt (W.setCell ⟨g, 4, none⟩ (.string x)) g a b c d x f :=
  ⟨(World.cell?_setCell_other _ _ _ _ (fun e => by injection e with _ e; omega)).trans h.c0, (World.cell?_setCell_other _ _ _ _ (fun e => by injection e with _ e; omega)).trans h.c1, (World.cell?_setCell_other _ _ _ _ (fun e => by injection e with _ e; omega)).trans h.c2, (World.cell?_setCell_other _ _ _ _ (fun e => by injection e with _ e; omega)).trans h.c3, World.cell?_setCell_same _ _ _ h.c4, (World.cell?_setCell_other _ _ _ _ (fun e => by injection e with _ e; omega)).trans h.c5, fun j hj => by rw [World.frozen?_setCell]; exact h.z j hj⟩
theorem NumAt.set5 {W : World} {g : Nat} {a b c d e f : ByteArray} (h : NumAt W g a b c d e f) (x : ByteArray) : NumAt (W.setCell ⟨g, 5, none⟩ (.string x)) g a b c d e x :=
  ⟨(World.cell?_setCell_other _ _ _ _ (fun e => by injection e with _ e; omega)).trans h.c0, (World.cell?_setCell_other _ _ _ _ (fun e => by injection e with _ e; omega)).trans h.c1, (World.cell?_setCell_other _ _ _ _ (fun e => by injection e with _ e; omega)).trans h.c2, (World.cell?_setCell_other _ _ _ _ (fun e => by injection e with _ e; omega)).trans h.c3, (World.cell?_setCell_other _ _ _ _ (fun e => by injection e with _ e; omega)).trans h.c4, World.cell?_setCell_same _ _ _ h.c5, fun j hj => by rw [World.frozen?_setCell]; exact h.z j hj⟩

set_option maxRecDepth 100000 in
set_option maxHeartbeats 4000000 in
theorem scan_found (s T : ByteArray) (w : World) (ps na nf q pe ne en : Nat) (neg dot ee xe eneg : Bool) (frS exS : ByteArray) (hfrS : (if dot = true then T.extract (ps + na + 1) (ps + na + 1 + nf) else (⟨#[]⟩ : ByteArray)) = frS) (hexS : (if xe = true then T.extract (q + 1) (pe + ne) else (⟨#[]⟩ : ByteArray)) = exS) (hT : T = ⟨(Lib.trimLeftS s.data.toList [32, 9, 10, 13]).toArray⟩) (hP : PF T ps na nf q pe ne en neg dot ee xe eneg) :
    Calls Tryd.prog 11 #[.string s] w fun e w' => e = .returned (.tuple #[.agg #[.string (T.extract 0 ps), .string (T.extract ps (ps + na)), .string frS, .string exS, .string (T.extract 0 en), .string (T.extract en T.size)], .bool true]) ∧ Below w.heap.size w w' := by
  have hfrH := hide hfrS
  have hexH := hide hexS
  clear hfrS hexS
  obtain ⟨W0, hW0⟩ : ∃ W0, w.alloc (.cells #[.string ⟨#[]⟩, .string ⟨#[]⟩, .string ⟨#[]⟩, .string ⟨#[]⟩, .string ⟨#[]⟩, .string ⟨#[]⟩] 34) = W0 := ⟨_, rfl⟩
  have hb0 : Below w.heap.size w W0 := by rw [← hW0]; exact (Below.refl w.heap.size w).alloc (Nat.le_refl _) _
  have hn0 : NumAt W0 w.heap.size ⟨#[]⟩ ⟨#[]⟩ ⟨#[]⟩ ⟨#[]⟩ ⟨#[]⟩ ⟨#[]⟩ := by
    rw [← hW0]
    exact num_new w
  have hg0 : w.heap.size < W0.heap.size := by rw [← hW0]; simp
  have htr := hide (Tryd.trimLeft_blanks s W0)
  rw [← hT] at htr
  clear hT
  go_enter Tryd.func11, Tryd.ntmps11
  go_upto_region 3 with (go_at_call 15; (with_reducible refine (htr.out).mono ?_); rintro e W1 ⟨rfl, hb1⟩)
  have hn1 := hn0.below hb1
  have bel1 := hb0.trans (hb1.mono hb0.size)
  clear htr hn0 hb0 hb1 hW0
  have hb := get_bt T
  have hsz := hP.sz
  have hPH := hide hP
  have hbelH := hide bel1
  clear hP bel1
  obtain ⟨n, hn⟩ : ∃ n, T.size = n := ⟨_, rfl⟩
  rw [hn] at hsz
  have hps : ps ≤ 1 := by rcases hPH.out.sg with ⟨h, _⟩ | ⟨h, _⟩ | ⟨h, _⟩ <;> omega
  have hpsn : ps + na ≤ n := by rw [← hn]; exact hPH.out.i.le
  obtain ⟨sgb, hsgb⟩ : ∃ x : Bool, x = decide (ps = 1) := ⟨_, rfl⟩
  have hsgH := hide hsgb
  clear hsgb
  obtain ⟨g, hg⟩ : ∃ g, w.heap.size = g := ⟨_, rfl⟩
  rw [hg] at hn1 hg0 ⊢
  go_cut [24] from 9 to 23 (fun v w' => v = .bool sgb ∧ w' = W1)
  case first =>
    rcases hPH.out.sg with ⟨h1, _, h2⟩ | ⟨h1, _, h2, h3⟩ | ⟨h1, _, h2, h3⟩
    · have h4 : sgb = false := by rw [hsgH.out]; simp; omega
      subst h4
      by_cases h5 : 0 < n
      · obtain ⟨h6, h7⟩ := h2 (by omega)
        have e1 : (bt T 0 == 43) = false := beq_eq_false_iff_ne.2 h6
        have e2 : (bt T 0 == 45) = false := beq_eq_false_iff_ne.2 h7
        clear h6 h7 h2
        go_wp2_with fail
        go_meet
        case rel => exact ⟨rfl, rfl⟩
      · clear h2
        go_wp2_with fail
        go_meet
        case rel => exact ⟨rfl, rfl⟩
    · have h4 : sgb = true := by rw [hsgH.out]; simp; omega
      subst h4
      have h5 : 0 < n := by omega
      have e1 : (bt T 0 == 43) = true := beq_iff_eq.2 h3
      clear h3 h2
      go_wp2_with fail
      go_meet
      case rel => exact ⟨rfl, rfl⟩
    · have h4 : sgb = true := by rw [hsgH.out]; simp; omega
      subst h4
      have h5 : 0 < n := by omega
      have e1 : (bt T 0 == 43) = false := beq_eq_false_iff_ne.2 (by omega)
      have e2 : (bt T 0 == 45) = true := beq_iff_eq.2 h3
      clear h3 h2
      go_wp2_with fail
      go_meet
      case rel => exact ⟨rfl, rfl⟩
  obtain ⟨rfl, rfl⟩ := hcut
  go_upto_if 24 with fail
  go_cut [4] from 25 to 26 (fun v w' => v = .int .i64 ps ∧ w' = wc)
  case first =>
    cases sgb with
    | false =>
      have h1 : ps = 0 := by have := hsgH.out; simp at this; omega
      subst h1
      go_wp2_with fail
      go_meet
      case rel => exact ⟨rfl, rfl⟩
    | true =>
      have h1 : ps = 1 := by have := hsgH.out; simpa using this
      subst h1
      go_wp2_with fail
      go_meet
      case rel => exact ⟨rfl, rfl⟩
  obtain ⟨rfl, rfl⟩ := hcut
  clear hsgH
  obtain ⟨c0, c1, c2, c3, c4, c5, z⟩ := hn1
  have hn1 : NumAt wc g ⟨#[]⟩ ⟨#[]⟩ ⟨#[]⟩ ⟨#[]⟩ ⟨#[]⟩ ⟨#[]⟩ := ⟨c0, c1, c2, c3, c4, c5, z⟩
  have z0 := z 0 (by omega)
  have z1 := z 1 (by omega)
  have hcnt := hide (fun w' => count_any T ps na w' (by omega) hPH.out.i)
  rw [hn] at hcnt
  have hse : (T.extract ps (ps + na)).size = na := by rw [size_ext _ _ _ (by omega)]; omega
  go_upto_region 8 with (go_at_call 16; (with_reducible refine (hcnt.out _).mono ?_); rintro e w1 ⟨rfl, hw1⟩; rw [hw1]; clear hw1 w1)
  obtain ⟨W2, hW2⟩ : ∃ W2, (wc.setCell ⟨g, 0, none⟩ (.string (T.extract 0 ps))).setCell ⟨g, 1, none⟩ (.string (T.extract ps (ps + na))) = W2 := ⟨_, rfl⟩
  have hn2 : NumAt W2 g (T.extract 0 ps) (T.extract ps (ps + na)) ⟨#[]⟩ ⟨#[]⟩ ⟨#[]⟩ ⟨#[]⟩ := by rw [← hW2]; exact (hn1.set0 _).set1 _
  have hb2 : Hid (Below w.heap.size w W2) := by
    rw [← hW2]
    exact hide ((hbelH.out.setCell (p := ⟨g, 0, none⟩) (by rw [hg]; exact Nat.le_refl _) _).setCell (p := ⟨g, 1, none⟩) (by rw [hg]; exact Nat.le_refl _) _)
  rw [hW2]
  clear hW2 hn1 hbelH c0 c1 c2 c3 c4 c5 z z0 z1 hcnt
  obtain ⟨sgS, hsgS⟩ : ∃ x, T.extract 0 ps = x := ⟨_, rfl⟩
  obtain ⟨inS, hinS⟩ : ∃ x, T.extract ps (ps + na) = x := ⟨_, rfl⟩
  rw [hsgS, hinS] at hn2
  rw [hsgS, hinS]
  rw [hinS] at hse
  have hqn : q ≤ n := by
    rw [hPH.out.hq]
    rcases hPH.out.pt with ⟨h1, _, _, h2⟩ | ⟨h1, h2, _⟩
    · have := h2.le; rw [h1]; simp; omega
    · rw [h1]; simp; omega
  go_cut [55] from 46 to 54 (fun v w' => v = .bool dot ∧ w' = W2)
  case first =>
    rcases hPH.out.pt with ⟨h1, h2, h3, _⟩ | ⟨h1, h2, h3⟩
    · subst h1
      have h2' : ps + na < n := by omega
      have e1 : (bt T (ps + na) == 46) = true := beq_iff_eq.2 h3
      clear h3 h2
      go_wp2_with fail
      go_meet
      case rel => exact ⟨rfl, rfl⟩
    · subst h1
      by_cases h4 : ps + na < n
      · have e1 : (bt T (ps + na) == 46) = false := beq_eq_false_iff_ne.2 (h3 (by omega))
        clear h3
        go_wp2_with fail
        go_meet
        case rel => exact ⟨rfl, rfl⟩
      · clear h3
        go_wp2_with fail
        go_meet
        case rel => exact ⟨rfl, rfl⟩
  obtain ⟨rfl, rfl⟩ := hcut
  go_upto_if 55 with fail
  go_cut [4] from 56 to 82 (fun v w' => v = .int .i64 q ∧ Hid (NumAt w' g sgS inS frS ⟨#[]⟩ ⟨#[]⟩ ⟨#[]⟩) ∧ Hid (Below w.heap.size w w'))
  case first =>
    rcases hPH.out.pt with ⟨h1, h2, h3, h4⟩ | ⟨h1, h2, h3⟩
    · subst h1
      have hq : Hid (q = ps + na + (1 + nf)) := hide (by rw [hPH.out.hq]; simp)
      have hfr : T.extract (ps + na + 1) (ps + na + 1 + nf) = frS := by rw [← hfrH.out]; simp
      have h2' : ps + na < n := by omega
      have hfl : ps + na + 1 + nf ≤ n := by rw [← hn]; exact h4.le
      have hfse : frS.size = nf := by rw [← hfr, size_ext _ _ _ (by omega)]; omega
      have hcnt := hide (fun w' => count_any T (ps + na + 1) nf w' (by omega) h4)
      rw [hn] at hcnt
      obtain ⟨c0, c1, c2, c3, c4, c5, z⟩ := hn2
      have hn2 : NumAt wc g sgS inS ⟨#[]⟩ ⟨#[]⟩ ⟨#[]⟩ ⟨#[]⟩ := ⟨c0, c1, c2, c3, c4, c5, z⟩
      have z2 := z 2 (by omega)
      have hfnd := hPH.out.found
      clear h3 h2 h4
      have hfin : Hid (NumAt (wc.setCell ⟨g, 2, none⟩ (.string frS)) g sgS inS frS ⟨#[]⟩ ⟨#[]⟩ ⟨#[]⟩) := hide (hn2.set2 _)
      have hbf : Hid (Below w.heap.size w (wc.setCell ⟨g, 2, none⟩ (.string frS))) := hide (hb2.out.setCell (p := ⟨g, 2, none⟩) (by rw [hg]; exact Nat.le_refl _) _)
      by_cases hna : na = 0
      · obtain ⟨e1, e2⟩ := isE_yes (hse.trans hna)
        obtain ⟨e3, e4⟩ := isE_no (s := frS) (by omega)
        have hnaH := hide hna
        clear hna
        go_wp2_with (go_at_call 16; (with_reducible refine (hcnt.out _).mono ?_); rintro e w1 ⟨rfl, hw1⟩; rw [hw1]; clear hw1 w1)
        go_meet
        case rel => exact ⟨congrArg (Value.int .i64) (by have := hq.out; omega), hfin, hbf⟩
      · obtain ⟨e3, e4⟩ := isE_no (s := inS) (by omega)
        go_wp2_with (go_at_call 16; (with_reducible refine (hcnt.out _).mono ?_); rintro e w1 ⟨rfl, hw1⟩; rw [hw1]; clear hw1 w1)
        go_meet
        case rel => exact ⟨congrArg (Value.int .i64) (by have := hq.out; omega), hfin, hbf⟩
    · subst h1 h2
      have hq : Hid (q = ps + na) := hide (by rw [hPH.out.hq]; simp)
      have hfr : Hid ((⟨#[]⟩ : ByteArray) = frS) := hide (by rw [← hfrH.out]; simp)
      clear h3
      go_wp2_with fail
      go_meet
      case rel => exact ⟨congrArg (Value.int .i64) (by have := hq.out; omega), hide (by rw [← hfr.out]; exact hn2), hb2⟩
  obtain ⟨rfl, hn3, hb3⟩ := hcut
  clear hn2 hb2
  have hfrz : frS.size = nf := by
    rw [← hfrH.out]
    rcases hPH.out.pt with ⟨h1, _, _, h2⟩ | ⟨h1, h2, _⟩
    · have := h2.le; rw [h1, if_pos rfl, size_ext _ _ _ (by omega)]; omega
    · rw [h1, h2]; rfl
  have hfnd := hPH.out.found
  obtain ⟨c0, c1, c2, c3, c4, c5, z⟩ := hn3.out
  have z3 := z 3 (by omega)
  have z4 := z 4 (by omega)
  have z5 := z 5 (by omega)
  go_upto_region 12 with fail
  go_cut [90] from 83 to 89 (fun v w' => v = .bool false ∧ w' = wc)
  case first =>
    by_cases hna : na = 0
    · obtain ⟨e1, e2⟩ := isE_yes (hse.trans hna)
      obtain ⟨e3, e4⟩ := isE_no (s := frS) (by omega)
      have hnaH := hide hna
      clear hna
      go_wp2_with fail
      go_meet
      case rel => exact ⟨rfl, rfl⟩
    · obtain ⟨e3, e4⟩ := isE_no (s := inS) (by omega)
      go_wp2_with fail
      go_meet
      case rel => exact ⟨rfl, rfl⟩
  obtain ⟨rfl, rfl⟩ := hcut
  go_upto_region 14 with fail
  go_cut [107] from 92 to 106 (fun v w' => v = .bool ee ∧ w' = wc)
  case first =>
    rcases hPH.out.ex with ⟨h1, _, _, h2⟩ | ⟨h1, h2, h3, _⟩
    · subst h1
      by_cases h4 : q < n
      · obtain ⟨h5, h6⟩ := h2 (by omega)
        have e1 : (bt T q == 101) = false := beq_eq_false_iff_ne.2 h5
        have e2 : (bt T q == 69) = false := beq_eq_false_iff_ne.2 h6
        clear h2 h5 h6
        go_wp2_with fail
        go_meet
        case rel => exact ⟨rfl, rfl⟩
      · clear h2
        go_wp2_with fail
        go_meet
        case rel => exact ⟨rfl, rfl⟩
    · subst h1
      have h4 : q < n := by omega
      rcases h3 with h3 | h3
      · have e1 : (bt T q == 101) = true := beq_iff_eq.2 h3
        clear h3 h2
        go_wp2_with fail
        go_meet
        case rel => exact ⟨rfl, rfl⟩
      · have e1 : (bt T q == 101) = false := beq_eq_false_iff_ne.2 (by omega)
        have e2 : (bt T q == 69) = true := beq_iff_eq.2 h3
        clear h3 h2
        go_wp2_with fail
        go_meet
        case rel => exact ⟨rfl, rfl⟩
  obtain ⟨rfl, rfl⟩ := hcut
  go_upto_if 107 with fail
  go_cut [4] from 108 to 144 (fun v w' => v = .int .i64 en ∧ Hid (NumAt w' g sgS inS frS exS ⟨#[]⟩ ⟨#[]⟩) ∧ Hid (Below w.heap.size w w'))
  case first =>
    rcases hPH.out.ex with ⟨h1, h2, h3, _⟩ | ⟨h1, h2, h3, h4, h5, h6⟩
    · subst h1 h2 h3
      have hex : Hid ((⟨#[]⟩ : ByteArray) = exS) := hide (by rw [← hexH.out]; simp)
      go_wp2_with fail
      go_meet
      case rel => exact ⟨rfl, hide (by rw [← hex.out]; exact hn3.out), hb3⟩
    · subst h1
      have h2' : q < n := by omega
      have hple : pe + ne ≤ n := by rw [← hn]; exact h5.le
      obtain ⟨sgb2, hsgb2⟩ : ∃ x : Bool, x = decide (pe = q + 2) := ⟨_, rfl⟩
      have hsg2H := hide hsgb2
      have h4H := hide h4
      have h6H := hide h6
      have hcnt := hide (fun w' => count_any T pe ne w' (by omega) h5)
      rw [hn] at hcnt
      have hpeq : pe ≤ q + 2 ∧ q + 1 ≤ pe := by rcases h4 with ⟨h, _⟩ | ⟨h, _⟩ | ⟨h, _⟩ <;> omega
      obtain ⟨hpe1, hpe2⟩ := hpeq
      clear hsgb2 h4 h5 h6 h3 h2
      go_upto_region 16 with fail
      go_cut [125] from 110 to 124 (fun v w' => v = .bool sgb2 ∧ w' = wc)
      case first =>
        rcases h4H.out with ⟨g1, _, g2⟩ | ⟨g1, _, g2, g3⟩ | ⟨g1, _, g2, g3⟩
        · have g4 : sgb2 = false := by rw [hsg2H.out]; simp; omega
          subst g4
          have g1H := hide g1
          clear g1
          by_cases g5 : q + 1 < n
          · obtain ⟨g6, g7⟩ := g2 (by omega)
            have e1 : (bt T (q + 1) == 43) = false := beq_eq_false_iff_ne.2 g6
            have e2 : (bt T (q + 1) == 45) = false := beq_eq_false_iff_ne.2 g7
            clear g6 g7 g2
            go_wp2_with fail
            go_meet
            case rel => exact ⟨rfl, rfl⟩
          · clear g2
            go_wp2_with fail
            go_meet
            case rel => exact ⟨rfl, rfl⟩
        · have g4 : sgb2 = true := by rw [hsg2H.out]; simp; omega
          subst g4
          have g1H := hide g1
          clear g1
          have g5 : q + 1 < n := by omega
          have e1 : (bt T (q + 1) == 43) = true := beq_iff_eq.2 g3
          clear g3 g2
          go_wp2_with fail
          go_meet
          case rel => exact ⟨rfl, rfl⟩
        · have g4 : sgb2 = true := by rw [hsg2H.out]; simp; omega
          subst g4
          have g1H := hide g1
          clear g1
          have g5 : q + 1 < n := by omega
          have e1 : (bt T (q + 1) == 43) = false := beq_eq_false_iff_ne.2 (by omega)
          have e2 : (bt T (q + 1) == 45) = true := beq_iff_eq.2 g3
          clear g3 g2
          go_wp2_with fail
          go_meet
          case rel => exact ⟨rfl, rfl⟩
      obtain ⟨rfl, rfl⟩ := hcut
      go_upto_if 125 with fail
      go_cut [5] from 126 to 127 (fun v w' => v = .int .i64 pe ∧ w' = wc)
      case first =>
        cases sgb2 with
        | false =>
          have g1 : Hid (pe = q + 1) := hide (by have := hsg2H.out; simp at this; omega)
          go_wp2_with fail
          go_meet
          case rel => exact ⟨congrArg (Value.int .i64) (by have := g1.out; omega), rfl⟩
        | true =>
          have g1 : Hid (pe = q + 2) := hide (by have := hsg2H.out; simpa using this)
          go_wp2_with fail
          go_meet
          case rel => exact ⟨congrArg (Value.int .i64) (by have := g1.out; omega), rfl⟩
      obtain ⟨rfl, rfl⟩ := hcut
      rcases h6H.out with ⟨k1, k2, k3⟩ | ⟨k1, k2, k3⟩
      · subst k2 k3
        have hex : T.extract (q + 1) (pe + ne) = exS := by rw [← hexH.out]; simp
        have hqp : q + 1 ≤ pe + ne := by omega
        go_wp2_with (go_at_call 16; (with_reducible refine (hcnt.out _).mono ?_); rintro e w1 ⟨rfl, hw1⟩; rw [hw1]; clear hw1 w1)
        go_meet
        case rel => exact ⟨by go_num, hide (hn3.out.set3 _), hide (hb3.out.setCell (p := ⟨g, 3, none⟩) (by rw [hg]; exact Nat.le_refl _) _)⟩
      · subst k1 k2 k3
        have hex : Hid ((⟨#[]⟩ : ByteArray) = exS) := hide (by rw [← hexH.out]; simp)
        go_wp2_with (go_at_call 16; (with_reducible refine (hcnt.out _).mono ?_); rintro e w1 ⟨rfl, hw1⟩; rw [hw1]; clear hw1 w1)
        go_meet
        case rel => exact ⟨rfl, hide (by rw [← hex.out]; exact hn3.out), hb3⟩
  obtain ⟨rfl, hn4, hb4⟩ := hcut
  clear hn3 hb3 c0 c1 c2 c3 c4 c5 z z3 z4 z5
  have henn : en ≤ n := by
    rcases hPH.out.ex with ⟨_, _, h3, _⟩ | ⟨_, _, _, _, h5, ⟨_, _, h6⟩ | ⟨_, _, h6⟩⟩
    · omega
    · have := h5.le; omega
    · omega
  obtain ⟨c0, c1, c2, c3, c4, c5, z⟩ := hn4.out
  have z0 := z 0 (by omega)
  have z1 := z 1 (by omega)
  have z2 := z 2 (by omega)
  have z3 := z 3 (by omega)
  have z4 := z 4 (by omega)
  have z5 := z 5 (by omega)
  go_upto_region 22 with fail
  go_region
  go_wp2
  have hn5 := (((((((hn4.out.set4 (T.extract 0 en)).set5 (T.extract en n)).set0 sgS).set1 inS).set2 frS).set3 exS).set4 (T.extract 0 en)).set5 (T.extract en n)
  have y0 := hn5.c0
  have y1 := hn5.c1
  have y2 := hn5.c2
  have y3 := hn5.c3
  have y4 := hn5.c4
  have y5 := hn5.c5
  refine bodyPost_ret (v := .tuple #[.agg #[.string sgS, .string inS, .string frS, .string exS, .string (T.extract 0 en), .string (T.extract en n)], .bool true]) (by simp [results, Tryd.results11, go_sem, y0, y1, y2, y3, y4, y5]) rfl ⟨by rw [hsgS, hinS, hn], ?_⟩
  have sc : ∀ {W : World} (j : Nat) (v : Value), Below w.heap.size w W → Below w.heap.size w (W.setCell ⟨g, j, none⟩ v) := fun j v h => h.setCell (p := ⟨g, j, none⟩) (by rw [hg]; exact Nat.le_refl _) v
  exact below_drew (sc 5 _ (sc 4 _ (sc 3 _ (sc 2 _ (sc 1 _ (sc 0 _ (sc 5 _ (sc 4 _ hb4.out))))))))
end Go.Proofs.Qxb6606304aDoor
