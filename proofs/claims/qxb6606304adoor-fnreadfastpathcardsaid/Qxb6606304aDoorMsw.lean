/-
  WALK: zzModelScan.
-/
import Derived.Test.Qxb6606304aDoorMsp
namespace Go.Proofs.Qxb6606304aDoor
open Go.RowKit Go.PlainAid
set_option linter.unusedSimpArgs false

/-- k blanks stand at the beginning of s, and no more. -/
structure Blanks (s : ByteArray) (k : Nat) : Prop where
  le : k ≤ s.size
  b : ∀ j, j < k → blank (bt s j) = true
  stop : k < s.size → blank (bt s k) = false


/-- The seven fields of the law's parts lie in block g. -/
structure P7 (W : World) (g : Nat) (a b c d e f : ByteArray) (x : Bool) : Prop where
  c0 : W.cell? ⟨g, 0, none⟩ = some (.string a)
  c1 : W.cell? ⟨g, 1, none⟩ = some (.string b)
  c2 : W.cell? ⟨g, 2, none⟩ = some (.string c)
  c3 : W.cell? ⟨g, 3, none⟩ = some (.string d)
  c4 : W.cell? ⟨g, 4, none⟩ = some (.string e)
  c5 : W.cell? ⟨g, 5, none⟩ = some (.string f)
  c6 : W.cell? ⟨g, 6, none⟩ = some (.bool x)
  z : ∀ k, k < 7 → W.frozen? ⟨g, k, none⟩ = false
theorem p7_new (w : World) : P7 (w.alloc (.cells #[.string ⟨#[]⟩, .string ⟨#[]⟩, .string ⟨#[]⟩, .string ⟨#[]⟩, .string ⟨#[]⟩, .string ⟨#[]⟩, .bool false] 31)) w.heap.size ⟨#[]⟩ ⟨#[]⟩ ⟨#[]⟩ ⟨#[]⟩ ⟨#[]⟩ ⟨#[]⟩ false :=
  ⟨by go_simp, by go_simp, by go_simp, by go_simp, by go_simp, by go_simp, by go_simp, fun k _ => World.frozen?_alloc_new _ _ _ _⟩
theorem p7_mk (w : World) (a b c d e f : ByteArray) (x : Bool) : P7 (w.alloc (.cells #[.string a, .string b, .string c, .string d, .string e, .string f, .bool x] 31)) w.heap.size a b c d e f x :=
  ⟨by go_simp, by go_simp, by go_simp, by go_simp, by go_simp, by go_simp, by go_simp, fun k _ => World.frozen?_alloc_new _ _ _ _⟩
theorem P7.alloc {W : World} {g : Nat} {a b c d e f : ByteArray} {x : Bool} (h : P7 W g a b c d e f x) (o : Obj) : P7 (W.alloc o) g a b c d e f x := by
  have hg : g < W.heap.size := cell_lt h.c0
  exact ⟨(World.cell?_alloc_lt _ _ _ hg).trans h.c0, (World.cell?_alloc_lt _ _ _ hg).trans h.c1, (World.cell?_alloc_lt _ _ _ hg).trans h.c2, (World.cell?_alloc_lt _ _ _ hg).trans h.c3, (World.cell?_alloc_lt _ _ _ hg).trans h.c4, (World.cell?_alloc_lt _ _ _ hg).trans h.c5, (World.cell?_alloc_lt _ _ _ hg).trans h.c6, fun k hk => (World.frozen?_alloc_old _ _ _ (Nat.ne_of_lt hg)).trans (h.z k hk)⟩
theorem P7.other {W : World} {g g' : Nat} {a b c d e f : ByteArray} {x : Bool} (h : P7 W g a b c d e f x) (hne : g' ≠ g) (j : Nat) (v : Value) : P7 (W.setCell ⟨g', j, none⟩ v) g a b c d e f x := by
  have hn : ∀ k, (⟨g', j, none⟩ : Addr) ≠ ⟨g, k, none⟩ := fun k e => by injection e with e _; exact hne e
  exact ⟨(World.cell?_setCell_other _ _ _ _ (hn 0)).trans h.c0, (World.cell?_setCell_other _ _ _ _ (hn 1)).trans h.c1, (World.cell?_setCell_other _ _ _ _ (hn 2)).trans h.c2, (World.cell?_setCell_other _ _ _ _ (hn 3)).trans h.c3, (World.cell?_setCell_other _ _ _ _ (hn 4)).trans h.c4, (World.cell?_setCell_other _ _ _ _ (hn 5)).trans h.c5, (World.cell?_setCell_other _ _ _ _ (hn 6)).trans h.c6, fun k hk => by rw [World.frozen?_setCell]; exact h.z k hk⟩
theorem P7.set0 {W : World} {g : Nat} {a b c d e f : ByteArray} {x : Bool} (h : P7 W g a b c d e f x) (y : ByteArray) : P7 (W.setCell ⟨g, 0, none⟩ (.string y)) g y b c d e f x :=
  ⟨World.cell?_setCell_same _ _ _ h.c0, (World.cell?_setCell_other _ _ _ _ (fun e => by injection e with _ e; omega)).trans h.c1, (World.cell?_setCell_other _ _ _ _ (fun e => by injection e with _ e; omega)).trans h.c2, (World.cell?_setCell_other _ _ _ _ (fun e => by injection e with _ e; omega)).trans h.c3, (World.cell?_setCell_other _ _ _ _ (fun e => by injection e with _ e; omega)).trans h.c4, (World.cell?_setCell_other _ _ _ _ (fun e => by injection e with _ e; omega)).trans h.c5, (World.cell?_setCell_other _ _ _ _ (fun e => by injection e with _ e; omega)).trans h.c6, fun j hj => by rw [World.frozen?_setCell]; exact h.z j hj⟩
theorem P7.set1 {W : World} {g : Nat} {a b c d e f : ByteArray} {x : Bool} (h : P7 W g a b c d e f x) (y : ByteArray) : P7 (W.setCell ⟨g, 1, none⟩ (.string y)) g a y c d e f x :=
  ⟨(World.cell?_setCell_other _ _ _ _ (fun e => by injection e with _ e; omega)).trans h.c0, World.cell?_setCell_same _ _ _ h.c1, (World.cell?_setCell_other _ _ _ _ (fun e => by injection e with _ e; omega)).trans h.c2, (World.cell?_setCell_other _ _ _ _ (fun e => by injection e with _ e; omega)).trans h.c3, (World.cell?_setCell_other _ _ _ _ (fun e => by injection e with _ e; omega)).trans h.c4, (World.cell?_setCell_other _ _ _ _ (fun e => by injection e with _ e; omega)).trans h.c5, (World.cell?_setCell_other _ _ _ _ (fun e => by injection e with _ e; omega)).trans h.c6, fun j hj => by rw [World.frozen?_setCell]; exact h.z j hj⟩
theorem P7.set2 {W : World} {g : Nat} {a b c d e f : ByteArray} {x : Bool} (h : P7 W g a b c d e f x) (y : ByteArray) : P7 (W.setCell ⟨g, 2, none⟩ (.string y)) g a b y d e f x :=
  ⟨(World.cell?_setCell_other _ _ _ _ (fun e => by injection e with _ e; omega)).trans h.c0, (World.cell?_setCell_other _ _ _ _ (fun e => by injection e with _ e; omega)).trans h.c1, World.cell?_setCell_same _ _ _ h.c2, (World.cell?_setCell_other _ _ _ _ (fun e => by injection e with _ e; omega)).trans h.c3, (World.cell?_setCell_other _ _ _ _ (fun e => by injection e with _ e; omega)).trans h.c4, (World.cell?_setCell_other _ _ _ _ (fun e => by injection e with _ e; omega)).trans h.c5, (World.cell?_setCell_other _ _ _ _ (fun e => by injection e with _ e; omega)).trans h.c6, fun j hj => by rw [World.frozen?_setCell]; exact h.z j hj⟩
theorem P7.set3 {W : World} {g : Nat} {a b c d e f : ByteArray} {x : Bool} (h : P7 W g a b c d e f x) (y : ByteArray) : P7 (W.setCell ⟨g, 3, none⟩ (.string y)) g a b c y e f x :=
  ⟨(World.cell?_setCell_other _ _ _ _ (fun e => by injection e with _ e; omega)).trans h.c0, (World.cell?_setCell_other _ _ _ _ (fun e => by injection e with _ e; omega)).trans h.c1, (World.cell?_setCell_other _ _ _ _ (fun e => by injection e with _ e; omega)).trans h.c2, World.cell?_setCell_same _ _ _ h.c3, (World.cell?_setCell_other _ _ _ _ (fun e => by injection e with _ e; omega)).trans h.c4, (World.cell?_setCell_other _ _ _ _ (fun e => by injection e with _ e; omega)).trans h.c5, (World.cell?_setCell_other _ _ _ _ (fun e => by injection e with _ e; omega)).trans h.c6, fun j hj => by rw [World.frozen?_setCell]; exact h.z j hj⟩
theorem P7.set4 {W : World} {g : Nat} {a b c d e f : ByteArray} {x : Bool} (h : P7 W g a b c d e f x) (y : ByteArray) : P7 (W.setCell ⟨g, 4, none⟩ (.string y)) g a b c d y f x :=
  ⟨(World.cell?_setCell_other _ _ _ _ (fun e => by injection e with _ e; omega)).trans h.c0, (World.cell?_setCell_other _ _ _ _ (fun e => by injection e with _ e; omega)).trans h.c1, (World.cell?_setCell_other _ _ _ _ (fun e => by injection e with _ e; omega)).trans h.c2, (World.cell?_setCell_other _ _ _ _ (fun e => by injection e with _ e; omega)).trans h.c3, World.cell?_setCell_same _ _ _ h.c4, (World.cell?_setCell_other _ _ _ _ (fun e => by injection e with _ e; omega)).trans h.c5, (World.cell?_setCell_other _ _ _ _ (fun e => by injection e with _ e; omega)).trans h.c6, fun j hj => by rw [World.frozen?_setCell]; exact h.z j hj⟩
theorem P7.set5 {W : World} {g : Nat} {a b c d e f : ByteArray} {x : Bool} (h : P7 W g a b c d e f x) (y : ByteArray) : P7 (W.setCell ⟨g, 5, none⟩ (.string y)) g a b c d e y x :=
  ⟨(World.cell?_setCell_other _ _ _ _ (fun e => by injection e with _ e; omega)).trans h.c0, (World.cell?_setCell_other _ _ _ _ (fun e => by injection e with _ e; omega)).trans h.c1, (World.cell?_setCell_other _ _ _ _ (fun e => by injection e with _ e; omega)).trans h.c2, (World.cell?_setCell_other _ _ _ _ (fun e => by injection e with _ e; omega)).trans h.c3, (World.cell?_setCell_other _ _ _ _ (fun e => by injection e with _ e; omega)).trans h.c4, World.cell?_setCell_same _ _ _ h.c5, (World.cell?_setCell_other _ _ _ _ (fun e => by injection e with _ e; omega)).trans h.c6, fun j hj => by rw [World.frozen?_setCell]; exact h.z j hj⟩
theorem P7.set6 {W : World} {g : Nat} {a b c d e f : ByteArray} {x : Bool} (h : P7 W g a b c d e f x) (y : Bool) : P7 (W.setCell ⟨g, 6, none⟩ (.bool y)) g a b c d e f y :=
  ⟨(World.cell?_setCell_other _ _ _ _ (fun e => by injection e with _ e; omega)).trans h.c0, (World.cell?_setCell_other _ _ _ _ (fun e => by injection e with _ e; omega)).trans h.c1, (World.cell?_setCell_other _ _ _ _ (fun e => by injection e with _ e; omega)).trans h.c2, (World.cell?_setCell_other _ _ _ _ (fun e => by injection e with _ e; omega)).trans h.c3, (World.cell?_setCell_other _ _ _ _ (fun e => by injection e with _ e; omega)).trans h.c4, (World.cell?_setCell_other _ _ _ _ (fun e => by injection e with _ e; omega)).trans h.c5, World.cell?_setCell_same _ _ _ h.c6, fun j hj => by rw [World.frozen?_setCell]; exact h.z j hj⟩
theorem and_parts {c : Int} (h : isd c) : 48 ≤ c ∧ c ≤ 57 := h
set_option maxRecDepth 100000 in
set_option maxHeartbeats 8000000 in
theorem model_any (s T : ByteArray) (w : World) (k ps na nf q pe ne en : Nat) (neg dot ee xe eneg : Bool) (frS exS : ByteArray) (hfrS : (if dot = true then T.extract (ps + na + 1) (ps + na + 1 + nf) else (⟨#[]⟩ : ByteArray)) = frS) (hexS : (if xe = true then T.extract (q + 1) (pe + ne) else (⟨#[]⟩ : ByteArray)) = exS)
    (hs : s.size ≤ 1048576) (hk : Blanks s k) (hT : s.extract k s.size = T) (hP : PF0 T ps na nf q pe ne en neg dot ee xe eneg) :
    Calls Tryd.prog 10 #[.string s] w fun e w' => ((na + nf = 0 ∧ e = .returned (.agg #[.string ⟨#[]⟩, .string ⟨#[]⟩, .string ⟨#[]⟩, .string ⟨#[]⟩, .string ⟨#[]⟩, .string ⟨#[]⟩, .bool false])) ∨ (0 < na + nf ∧ e = .returned (.agg #[.string (T.extract 0 ps), .string (T.extract ps (ps + na)), .string frS, .string exS, .string (T.extract 0 en), .string (T.extract en T.size), .bool true]))) ∧ Below w.heap.size w w' := by
  have hfrH := hide hfrS
  have hexH := hide hexS
  have hkH := hide hk
  have hPH := hide hP
  have hbs := get_bt s
  have hkl := hk.le
  have hTz := hP.sz
  clear hfrS hexS hk hP
  obtain ⟨W0, hW0⟩ : ∃ W0, w.alloc (.cells #[.string ⟨#[]⟩, .string ⟨#[]⟩, .string ⟨#[]⟩, .string ⟨#[]⟩, .string ⟨#[]⟩, .string ⟨#[]⟩, .bool false] 31) = W0 := ⟨_, rfl⟩
  have hW0H := hide hW0
  go_enter Tryd.func10, Tryd.ntmps10
  go_upto_block 0 with fail
  go_cut [3] from 16 to 27 (fun v w' => v = .int .i64 k ∧ w' = W0)
  case first =>
    go_wp2_with fail
    go_loop [3] (fun v => ∃ j : Nat, j ≤ k ∧ v = .int .i64 j) (fun v => s.size - (intOf v).toNat)
    case atStart => exact ⟨0, Nat.zero_le _, rfl⟩
    case round =>
      obtain ⟨j, hj, rfl⟩ := hrel
      by_cases hlt : j < k
      · have hb := hkH.out.b j hlt
        have hjs : j < s.size := by omega
        obtain ⟨c, hc⟩ : ∃ c, bt s j = c := ⟨_, rfl⟩
        rw [hc] at hb
        have hbl := hide (isBlank_any c W0)
        rw [hb] at hbl
        go_wp2_with (go_at_call 14; (with_reducible refine (hbl.out).mono ?_); rintro e w1 ⟨rfl, hw1⟩; rw [hw1]; clear hw1 w1)
        go_round
        case rel => exact ⟨j + 1, by omega, by go_num⟩
        case measure => simp [intOf]; omega
      · have hjk : j = k := by omega
        subst hjk
        by_cases hend : j < s.size
        · have hb := hkH.out.stop hend
          obtain ⟨c, hc⟩ : ∃ c, bt s j = c := ⟨_, rfl⟩
          rw [hc] at hb
          have hbl := hide (isBlank_any c W0)
          rw [hb] at hbl
          go_wp2_with (go_at_call 14; (with_reducible refine (hbl.out).mono ?_); rintro e w1 ⟨rfl, hw1⟩; rw [hw1]; clear hw1 w1)
          go_meet
          case rel => exact ⟨rfl, rfl⟩
        · have hend' : ¬ ((j : Int) < (s.size : Int)) := by omega
          go_wp2_with fail
          go_meet
          case rel => exact ⟨rfl, rfl⟩
  obtain ⟨rfl, rfl⟩ := hcut
  go_upto_block 2 with fail
  have hb := get_bt T
  obtain ⟨n, hn⟩ : ∃ n, T.size = n := ⟨_, rfl⟩
  rw [hn] at hTz
  go_cut [6, 7, 8] from 31 to 131 (fun v6 v7 v8 w' => ∃ la po eo : Int, v6 = .int .i64 la ∧ v7 = .int .i64 po ∧ v8 = .int .i64 eo ∧ Hid (SEnd ps na nf q en dot ee la po eo) ∧ w' = wc)
  case first =>
    go_wp2_with fail
    go_loop [5, 6, 7, 8, 9] (fun v5 v6 v7 v8 v9 => ∃ (st i : Nat) (la po eo : Int), v5 = .int .i64 st ∧ v6 = .int .i64 la ∧ v7 = .int .i64 po ∧ v8 = .int .i64 eo ∧ v9 = .int .i64 i ∧ i ≤ n ∧ Hid (SInv ps na nf q pe ne dot ee st i la po eo)) (fun _ _ _ _ v9 => n - (intOf v9).toNat)
    case atStart => exact ⟨0, 0, -1, -1, -1, rfl, rfl, rfl, rfl, rfl, by omega, hide (.inl ⟨rfl, rfl, rfl, rfl, rfl⟩)⟩
    case round =>
      obtain ⟨st, i, la, po, eo, rfl, rfl, rfl, rfl, rfl, hin, hinv⟩ := hrel
      rcases sstep hPH.out hinv.out (by omega) with ⟨h1, hend⟩ | ⟨h1, ⟨hx, hend⟩ | ⟨st', htr, hnx⟩⟩
      · have hendH := hide hend
        have h1' : ¬ ((i : Int) < (n : Int)) := by omega
        clear hend h1 hinv
        go_wp2_with fail
        go_meet
        case rel => exact ⟨la, po, eo, rfl, rfl, rfl, hendH, rfl⟩
      · have hendH := hide hend
        have h1' : i < n := by omega
        clear hend h1 hinv
        obtain ⟨c, hc⟩ : ∃ c, bt T i = c := ⟨_, rfl⟩
        rw [hc] at hx
        obtain ⟨hnd, hx⟩ := hx
        have hdg := hide (isDig_any c false wc (by rw [eq_comm, decide_eq_false_iff_not]; exact hnd))
        clear hnd
        rcases hx with ⟨rfl, n43, n45, n46⟩ | ⟨rfl, n46⟩ | ⟨rfl, n46, n101, n69⟩ | rfl | ⟨rfl, n101, n69⟩ | ⟨rfl, n43, n45⟩ | rfl | rfl
        · as_aux_lemma =>
            have e43 : (c == 43) = false := beq_eq_false_iff_ne.2 n43
            have e45 : (c == 45) = false := beq_eq_false_iff_ne.2 n45
            have e46 : (c == 46) = false := beq_eq_false_iff_ne.2 n46
            clear n43 n45 n46
            go_wp2_with (go_at_call 9; (with_reducible refine (hdg.out).mono ?_); rintro e w1 ⟨rfl, hw1⟩; rw [hw1]; clear hw1 w1)
            go_meet
            case rel => exact ⟨la, po, eo, rfl, rfl, rfl, hendH, rfl⟩
        · as_aux_lemma =>
            have e46 : (c == 46) = false := beq_eq_false_iff_ne.2 n46
            clear n46
            go_wp2_with (go_at_call 9; (with_reducible refine (hdg.out).mono ?_); rintro e w1 ⟨rfl, hw1⟩; rw [hw1]; clear hw1 w1)
            go_meet
            case rel => exact ⟨la, po, eo, rfl, rfl, rfl, hendH, rfl⟩
        · as_aux_lemma =>
            have e46 : (c == 46) = false := beq_eq_false_iff_ne.2 n46
            have e101 : (c == 101) = false := beq_eq_false_iff_ne.2 n101
            have e69 : (c == 69) = false := beq_eq_false_iff_ne.2 n69
            clear n46 n101 n69
            go_wp2_with (go_at_call 9; (with_reducible refine (hdg.out).mono ?_); rintro e w1 ⟨rfl, hw1⟩; rw [hw1]; clear hw1 w1)
            go_meet
            case rel => exact ⟨la, po, eo, rfl, rfl, rfl, hendH, rfl⟩
        · as_aux_lemma =>
            go_wp2_with (go_at_call 9; (with_reducible refine (hdg.out).mono ?_); rintro e w1 ⟨rfl, hw1⟩; rw [hw1]; clear hw1 w1)
            go_meet
            case rel => exact ⟨la, po, eo, rfl, rfl, rfl, hendH, rfl⟩
        · as_aux_lemma =>
            have e101 : (c == 101) = false := beq_eq_false_iff_ne.2 n101
            have e69 : (c == 69) = false := beq_eq_false_iff_ne.2 n69
            clear n101 n69
            go_wp2_with (go_at_call 9; (with_reducible refine (hdg.out).mono ?_); rintro e w1 ⟨rfl, hw1⟩; rw [hw1]; clear hw1 w1)
            go_meet
            case rel => exact ⟨la, po, eo, rfl, rfl, rfl, hendH, rfl⟩
        · as_aux_lemma =>
            have e43 : (c == 43) = false := beq_eq_false_iff_ne.2 n43
            have e45 : (c == 45) = false := beq_eq_false_iff_ne.2 n45
            clear n43 n45
            go_wp2_with (go_at_call 9; (with_reducible refine (hdg.out).mono ?_); rintro e w1 ⟨rfl, hw1⟩; rw [hw1]; clear hw1 w1)
            go_meet
            case rel => exact ⟨la, po, eo, rfl, rfl, rfl, hendH, rfl⟩
        · as_aux_lemma =>
            go_wp2_with (go_at_call 9; (with_reducible refine (hdg.out).mono ?_); rintro e w1 ⟨rfl, hw1⟩; rw [hw1]; clear hw1 w1)
            go_meet
            case rel => exact ⟨la, po, eo, rfl, rfl, rfl, hendH, rfl⟩
        · as_aux_lemma =>
            go_wp2_with (go_at_call 9; (with_reducible refine (hdg.out).mono ?_); rintro e w1 ⟨rfl, hw1⟩; rw [hw1]; clear hw1 w1)
            go_meet
            case rel => exact ⟨la, po, eo, rfl, rfl, rfl, hendH, rfl⟩
      · have h1' : i < n := by omega
        clear h1 hinv
        obtain ⟨c, hc⟩ : ∃ c, bt T i = c := ⟨_, rfl⟩
        rw [hc] at htr
        rcases htr with ⟨rfl, hcc, rfl⟩ | ⟨rfl, hcc, rfl⟩ | ⟨rfl, hcc, rfl⟩ | ⟨rfl, hcc, rfl⟩ | ⟨rfl, hcc, rfl⟩ | ⟨rfl, hcc, rfl⟩ | ⟨rfl, hcc, rfl⟩ | ⟨rfl, hcc, rfl⟩ | ⟨rfl, hcc, rfl⟩ | ⟨rfl, hcc, rfl⟩ | ⟨rfl, hcc, rfl⟩ | ⟨rfl, hcc, rfl⟩ | ⟨rfl, hcc, rfl⟩ | ⟨rfl, hcc, rfl⟩ | ⟨rfl, hcc, rfl⟩ | ⟨rfl, hcc, rfl⟩ | ⟨rfl, hcc, rfl⟩ | ⟨rfl, hcc, rfl⟩ | ⟨rfl, hcc, rfl⟩
        · as_aux_lemma =>
            have hn2 : Hid (SInv ps na nf q pe ne dot ee 1 (i + 1) (la) (po) (eo)) := hide (by simpa [nla, npo, neo] using hnx)
            clear hnx
            subst hcc
            have hdg := hide (isDig_any 43 false wc (by decide))
            go_wp2_with (go_at_call 9; (with_reducible refine (hdg.out).mono ?_); rintro e w1 ⟨rfl, hw1⟩; rw [hw1]; clear hw1 w1)
            go_round
            case rel => exact ⟨1, i + 1, la, po, eo, rfl, rfl, rfl, rfl, by go_num, by omega, hn2⟩
            case measure => simp [intOf]; omega
        · as_aux_lemma =>
            have hn2 : Hid (SInv ps na nf q pe ne dot ee 1 (i + 1) (la) (po) (eo)) := hide (by simpa [nla, npo, neo] using hnx)
            clear hnx
            subst hcc
            have hdg := hide (isDig_any 45 false wc (by decide))
            go_wp2_with (go_at_call 9; (with_reducible refine (hdg.out).mono ?_); rintro e w1 ⟨rfl, hw1⟩; rw [hw1]; clear hw1 w1)
            go_round
            case rel => exact ⟨1, i + 1, la, po, eo, rfl, rfl, rfl, rfl, by go_num, by omega, hn2⟩
            case measure => simp [intOf]; omega
        · as_aux_lemma =>
            have hn2 : Hid (SInv ps na nf q pe ne dot ee 2 (i + 1) ((i : Int) + 1) (po) (eo)) := hide (by simpa [nla, npo, neo] using hnx)
            clear hnx
            obtain ⟨d1, d2⟩ := and_parts hcc
            have hdg := hide (isDig_any c true wc (by simp; omega))
            clear hcc
            have e43 : (c == 43) = false := beq_eq_false_iff_ne.2 (by omega)
            have e45 : (c == 45) = false := beq_eq_false_iff_ne.2 (by omega)
            have e46 : (c == 46) = false := beq_eq_false_iff_ne.2 (by omega)
            have e101 : (c == 101) = false := beq_eq_false_iff_ne.2 (by omega)
            have e69 : (c == 69) = false := beq_eq_false_iff_ne.2 (by omega)
            go_wp2_with (go_at_call 9; (with_reducible refine (hdg.out).mono ?_); rintro e w1 ⟨rfl, hw1⟩; rw [hw1]; clear hw1 w1)
            go_round
            case rel => exact ⟨2, i + 1, (i : Int) + 1, po, eo, rfl, rfl, rfl, rfl, by go_num, by omega, hn2⟩
            case measure => simp [intOf]; omega
        · as_aux_lemma =>
            have hn2 : Hid (SInv ps na nf q pe ne dot ee 3 (i + 1) (la) ((i : Int)) (eo)) := hide (by simpa [nla, npo, neo] using hnx)
            clear hnx
            subst hcc
            have hdg := hide (isDig_any 46 false wc (by decide))
            go_wp2_with (go_at_call 9; (with_reducible refine (hdg.out).mono ?_); rintro e w1 ⟨rfl, hw1⟩; rw [hw1]; clear hw1 w1)
            go_round
            case rel => exact ⟨3, i + 1, la, (i : Int), eo, rfl, rfl, rfl, rfl, by go_num, by omega, hn2⟩
            case measure => simp [intOf]; omega
        · as_aux_lemma =>
            have hn2 : Hid (SInv ps na nf q pe ne dot ee 2 (i + 1) ((i : Int) + 1) (po) (eo)) := hide (by simpa [nla, npo, neo] using hnx)
            clear hnx
            obtain ⟨d1, d2⟩ := and_parts hcc
            have hdg := hide (isDig_any c true wc (by simp; omega))
            clear hcc
            have e43 : (c == 43) = false := beq_eq_false_iff_ne.2 (by omega)
            have e45 : (c == 45) = false := beq_eq_false_iff_ne.2 (by omega)
            have e46 : (c == 46) = false := beq_eq_false_iff_ne.2 (by omega)
            have e101 : (c == 101) = false := beq_eq_false_iff_ne.2 (by omega)
            have e69 : (c == 69) = false := beq_eq_false_iff_ne.2 (by omega)
            go_wp2_with (go_at_call 9; (with_reducible refine (hdg.out).mono ?_); rintro e w1 ⟨rfl, hw1⟩; rw [hw1]; clear hw1 w1)
            go_round
            case rel => exact ⟨2, i + 1, (i : Int) + 1, po, eo, rfl, rfl, rfl, rfl, by go_num, by omega, hn2⟩
            case measure => simp [intOf]; omega
        · as_aux_lemma =>
            have hn2 : Hid (SInv ps na nf q pe ne dot ee 3 (i + 1) (la) ((i : Int)) (eo)) := hide (by simpa [nla, npo, neo] using hnx)
            clear hnx
            subst hcc
            have hdg := hide (isDig_any 46 false wc (by decide))
            go_wp2_with (go_at_call 9; (with_reducible refine (hdg.out).mono ?_); rintro e w1 ⟨rfl, hw1⟩; rw [hw1]; clear hw1 w1)
            go_round
            case rel => exact ⟨3, i + 1, la, (i : Int), eo, rfl, rfl, rfl, rfl, by go_num, by omega, hn2⟩
            case measure => simp [intOf]; omega
        · as_aux_lemma =>
            have hn2 : Hid (SInv ps na nf q pe ne dot ee 2 (i + 1) ((i : Int) + 1) (po) (eo)) := hide (by simpa [nla, npo, neo] using hnx)
            clear hnx
            obtain ⟨d1, d2⟩ := and_parts hcc
            have hdg := hide (isDig_any c true wc (by simp; omega))
            clear hcc
            have e43 : (c == 43) = false := beq_eq_false_iff_ne.2 (by omega)
            have e45 : (c == 45) = false := beq_eq_false_iff_ne.2 (by omega)
            have e46 : (c == 46) = false := beq_eq_false_iff_ne.2 (by omega)
            have e101 : (c == 101) = false := beq_eq_false_iff_ne.2 (by omega)
            have e69 : (c == 69) = false := beq_eq_false_iff_ne.2 (by omega)
            go_wp2_with (go_at_call 9; (with_reducible refine (hdg.out).mono ?_); rintro e w1 ⟨rfl, hw1⟩; rw [hw1]; clear hw1 w1)
            go_round
            case rel => exact ⟨2, i + 1, (i : Int) + 1, po, eo, rfl, rfl, rfl, rfl, by go_num, by omega, hn2⟩
            case measure => simp [intOf]; omega
        · as_aux_lemma =>
            have hn2 : Hid (SInv ps na nf q pe ne dot ee 4 (i + 1) ((i : Int) + 1) ((i : Int)) (eo)) := hide (by simpa [nla, npo, neo] using hnx)
            clear hnx
            subst hcc
            have hdg := hide (isDig_any 46 false wc (by decide))
            go_wp2_with (go_at_call 9; (with_reducible refine (hdg.out).mono ?_); rintro e w1 ⟨rfl, hw1⟩; rw [hw1]; clear hw1 w1)
            go_round
            case rel => exact ⟨4, i + 1, (i : Int) + 1, (i : Int), eo, rfl, rfl, rfl, rfl, by go_num, by omega, hn2⟩
            case measure => simp [intOf]; omega
        · as_aux_lemma =>
            have hn2 : Hid (SInv ps na nf q pe ne dot ee 5 (i + 1) (la) (po) ((i : Int))) := hide (by simpa [nla, npo, neo] using hnx)
            clear hnx
            subst hcc
            have hdg := hide (isDig_any 101 false wc (by decide))
            go_wp2_with (go_at_call 9; (with_reducible refine (hdg.out).mono ?_); rintro e w1 ⟨rfl, hw1⟩; rw [hw1]; clear hw1 w1)
            go_round
            case rel => exact ⟨5, i + 1, la, po, (i : Int), rfl, rfl, rfl, rfl, by go_num, by omega, hn2⟩
            case measure => simp [intOf]; omega
        · as_aux_lemma =>
            have hn2 : Hid (SInv ps na nf q pe ne dot ee 5 (i + 1) (la) (po) ((i : Int))) := hide (by simpa [nla, npo, neo] using hnx)
            clear hnx
            subst hcc
            have hdg := hide (isDig_any 69 false wc (by decide))
            go_wp2_with (go_at_call 9; (with_reducible refine (hdg.out).mono ?_); rintro e w1 ⟨rfl, hw1⟩; rw [hw1]; clear hw1 w1)
            go_round
            case rel => exact ⟨5, i + 1, la, po, (i : Int), rfl, rfl, rfl, rfl, by go_num, by omega, hn2⟩
            case measure => simp [intOf]; omega
        · as_aux_lemma =>
            have hn2 : Hid (SInv ps na nf q pe ne dot ee 4 (i + 1) ((i : Int) + 1) (po) (eo)) := hide (by simpa [nla, npo, neo] using hnx)
            clear hnx
            obtain ⟨d1, d2⟩ := and_parts hcc
            have hdg := hide (isDig_any c true wc (by simp; omega))
            clear hcc
            have e43 : (c == 43) = false := beq_eq_false_iff_ne.2 (by omega)
            have e45 : (c == 45) = false := beq_eq_false_iff_ne.2 (by omega)
            have e46 : (c == 46) = false := beq_eq_false_iff_ne.2 (by omega)
            have e101 : (c == 101) = false := beq_eq_false_iff_ne.2 (by omega)
            have e69 : (c == 69) = false := beq_eq_false_iff_ne.2 (by omega)
            go_wp2_with (go_at_call 9; (with_reducible refine (hdg.out).mono ?_); rintro e w1 ⟨rfl, hw1⟩; rw [hw1]; clear hw1 w1)
            go_round
            case rel => exact ⟨4, i + 1, (i : Int) + 1, po, eo, rfl, rfl, rfl, rfl, by go_num, by omega, hn2⟩
            case measure => simp [intOf]; omega
        · as_aux_lemma =>
            have hn2 : Hid (SInv ps na nf q pe ne dot ee 4 (i + 1) ((i : Int) + 1) (po) (eo)) := hide (by simpa [nla, npo, neo] using hnx)
            clear hnx
            obtain ⟨d1, d2⟩ := and_parts hcc
            have hdg := hide (isDig_any c true wc (by simp; omega))
            clear hcc
            have e43 : (c == 43) = false := beq_eq_false_iff_ne.2 (by omega)
            have e45 : (c == 45) = false := beq_eq_false_iff_ne.2 (by omega)
            have e46 : (c == 46) = false := beq_eq_false_iff_ne.2 (by omega)
            have e101 : (c == 101) = false := beq_eq_false_iff_ne.2 (by omega)
            have e69 : (c == 69) = false := beq_eq_false_iff_ne.2 (by omega)
            go_wp2_with (go_at_call 9; (with_reducible refine (hdg.out).mono ?_); rintro e w1 ⟨rfl, hw1⟩; rw [hw1]; clear hw1 w1)
            go_round
            case rel => exact ⟨4, i + 1, (i : Int) + 1, po, eo, rfl, rfl, rfl, rfl, by go_num, by omega, hn2⟩
            case measure => simp [intOf]; omega
        · as_aux_lemma =>
            have hn2 : Hid (SInv ps na nf q pe ne dot ee 5 (i + 1) (la) (po) ((i : Int))) := hide (by simpa [nla, npo, neo] using hnx)
            clear hnx
            subst hcc
            have hdg := hide (isDig_any 101 false wc (by decide))
            go_wp2_with (go_at_call 9; (with_reducible refine (hdg.out).mono ?_); rintro e w1 ⟨rfl, hw1⟩; rw [hw1]; clear hw1 w1)
            go_round
            case rel => exact ⟨5, i + 1, la, po, (i : Int), rfl, rfl, rfl, rfl, by go_num, by omega, hn2⟩
            case measure => simp [intOf]; omega
        · as_aux_lemma =>
            have hn2 : Hid (SInv ps na nf q pe ne dot ee 5 (i + 1) (la) (po) ((i : Int))) := hide (by simpa [nla, npo, neo] using hnx)
            clear hnx
            subst hcc
            have hdg := hide (isDig_any 69 false wc (by decide))
            go_wp2_with (go_at_call 9; (with_reducible refine (hdg.out).mono ?_); rintro e w1 ⟨rfl, hw1⟩; rw [hw1]; clear hw1 w1)
            go_round
            case rel => exact ⟨5, i + 1, la, po, (i : Int), rfl, rfl, rfl, rfl, by go_num, by omega, hn2⟩
            case measure => simp [intOf]; omega
        · as_aux_lemma =>
            have hn2 : Hid (SInv ps na nf q pe ne dot ee 6 (i + 1) (la) (po) (eo)) := hide (by simpa [nla, npo, neo] using hnx)
            clear hnx
            subst hcc
            have hdg := hide (isDig_any 43 false wc (by decide))
            go_wp2_with (go_at_call 9; (with_reducible refine (hdg.out).mono ?_); rintro e w1 ⟨rfl, hw1⟩; rw [hw1]; clear hw1 w1)
            go_round
            case rel => exact ⟨6, i + 1, la, po, eo, rfl, rfl, rfl, rfl, by go_num, by omega, hn2⟩
            case measure => simp [intOf]; omega
        · as_aux_lemma =>
            have hn2 : Hid (SInv ps na nf q pe ne dot ee 6 (i + 1) (la) (po) (eo)) := hide (by simpa [nla, npo, neo] using hnx)
            clear hnx
            subst hcc
            have hdg := hide (isDig_any 45 false wc (by decide))
            go_wp2_with (go_at_call 9; (with_reducible refine (hdg.out).mono ?_); rintro e w1 ⟨rfl, hw1⟩; rw [hw1]; clear hw1 w1)
            go_round
            case rel => exact ⟨6, i + 1, la, po, eo, rfl, rfl, rfl, rfl, by go_num, by omega, hn2⟩
            case measure => simp [intOf]; omega
        · as_aux_lemma =>
            have hn2 : Hid (SInv ps na nf q pe ne dot ee 7 (i + 1) ((i : Int) + 1) (po) (eo)) := hide (by simpa [nla, npo, neo] using hnx)
            clear hnx
            obtain ⟨d1, d2⟩ := and_parts hcc
            have hdg := hide (isDig_any c true wc (by simp; omega))
            clear hcc
            have e43 : (c == 43) = false := beq_eq_false_iff_ne.2 (by omega)
            have e45 : (c == 45) = false := beq_eq_false_iff_ne.2 (by omega)
            have e46 : (c == 46) = false := beq_eq_false_iff_ne.2 (by omega)
            have e101 : (c == 101) = false := beq_eq_false_iff_ne.2 (by omega)
            have e69 : (c == 69) = false := beq_eq_false_iff_ne.2 (by omega)
            go_wp2_with (go_at_call 9; (with_reducible refine (hdg.out).mono ?_); rintro e w1 ⟨rfl, hw1⟩; rw [hw1]; clear hw1 w1)
            go_round
            case rel => exact ⟨7, i + 1, (i : Int) + 1, po, eo, rfl, rfl, rfl, rfl, by go_num, by omega, hn2⟩
            case measure => simp [intOf]; omega
        · as_aux_lemma =>
            have hn2 : Hid (SInv ps na nf q pe ne dot ee 7 (i + 1) ((i : Int) + 1) (po) (eo)) := hide (by simpa [nla, npo, neo] using hnx)
            clear hnx
            obtain ⟨d1, d2⟩ := and_parts hcc
            have hdg := hide (isDig_any c true wc (by simp; omega))
            clear hcc
            have e43 : (c == 43) = false := beq_eq_false_iff_ne.2 (by omega)
            have e45 : (c == 45) = false := beq_eq_false_iff_ne.2 (by omega)
            have e46 : (c == 46) = false := beq_eq_false_iff_ne.2 (by omega)
            have e101 : (c == 101) = false := beq_eq_false_iff_ne.2 (by omega)
            have e69 : (c == 69) = false := beq_eq_false_iff_ne.2 (by omega)
            go_wp2_with (go_at_call 9; (with_reducible refine (hdg.out).mono ?_); rintro e w1 ⟨rfl, hw1⟩; rw [hw1]; clear hw1 w1)
            go_round
            case rel => exact ⟨7, i + 1, (i : Int) + 1, po, eo, rfl, rfl, rfl, rfl, by go_num, by omega, hn2⟩
            case measure => simp [intOf]; omega
        · as_aux_lemma =>
            have hn2 : Hid (SInv ps na nf q pe ne dot ee 7 (i + 1) ((i : Int) + 1) (po) (eo)) := hide (by simpa [nla, npo, neo] using hnx)
            clear hnx
            obtain ⟨d1, d2⟩ := and_parts hcc
            have hdg := hide (isDig_any c true wc (by simp; omega))
            clear hcc
            have e43 : (c == 43) = false := beq_eq_false_iff_ne.2 (by omega)
            have e45 : (c == 45) = false := beq_eq_false_iff_ne.2 (by omega)
            have e46 : (c == 46) = false := beq_eq_false_iff_ne.2 (by omega)
            have e101 : (c == 101) = false := beq_eq_false_iff_ne.2 (by omega)
            have e69 : (c == 69) = false := beq_eq_false_iff_ne.2 (by omega)
            go_wp2_with (go_at_call 9; (with_reducible refine (hdg.out).mono ?_); rintro e w1 ⟨rfl, hw1⟩; rw [hw1]; clear hw1 w1)
            go_round
            case rel => exact ⟨7, i + 1, (i : Int) + 1, po, eo, rfl, rfl, rfl, rfl, by go_num, by omega, hn2⟩
            case measure => simp [intOf]; omega
  obtain ⟨la, po, eo, rfl, rfl, rfl, hse, rfl⟩ := hcut
  have hp0 : P7 wc w.heap.size ⟨#[]⟩ ⟨#[]⟩ ⟨#[]⟩ ⟨#[]⟩ ⟨#[]⟩ ⟨#[]⟩ false := by rw [← hW0H.out]; exact p7_new w
  have hbw : Below w.heap.size w wc := by rw [← hW0H.out]; exact (Below.refl w.heap.size w).alloc (Nat.le_refl _) _
  obtain ⟨g, hg⟩ : ∃ g, w.heap.size = g := ⟨_, rfl⟩
  have hgsz : wc.heap.size = g + 1 := by rw [← hW0H.out, ← hg]; simp
  clear hW0 hT
  rw [hg] at hp0 ⊢
  have sc : ∀ (W : World) (g' j : Nat) (v : Value), g ≤ g' → Below w.heap.size w W → Below w.heap.size w (W.setCell ⟨g', j, none⟩ v) := fun W g' j v hge h => h.setCell (p := ⟨g', j, none⟩) (by rw [hg]; exact hge) v
  obtain ⟨c0, c1, c2, c3, c4, c5, c6, z⟩ := hp0
  have hp0 : P7 wc g ⟨#[]⟩ ⟨#[]⟩ ⟨#[]⟩ ⟨#[]⟩ ⟨#[]⟩ ⟨#[]⟩ false := ⟨c0, c1, c2, c3, c4, c5, c6, z⟩
  have z0 := z 0 (by omega)
  have z1 := z 1 (by omega)
  have z2 := z 2 (by omega)
  have z3 := z 3 (by omega)
  have z4 := z 4 (by omega)
  have z5 := z 5 (by omega)
  have z6 := z 6 (by omega)
  have hscH := hide sc
  have hp0H := hide hp0
  have hbwH := hide hbw
  clear sc hp0 hbw z
  by_cases hf : na + nf = 0
  · have hla := hse.out.2 hf
    subst hla
    have hp1H := hide (((((((hp0H.out.set0 ⟨#[]⟩).set1 ⟨#[]⟩).set2 ⟨#[]⟩).set3 ⟨#[]⟩).set4 ⟨#[]⟩).set5 ⟨#[]⟩).set6 false)
    go_wp2_with fail
    have y0 := hp1H.out.c0
    have y1 := hp1H.out.c1
    have y2 := hp1H.out.c2
    have y3 := hp1H.out.c3
    have y4 := hp1H.out.c4
    have y5 := hp1H.out.c5
    have y6 := hp1H.out.c6
    refine bodyPost_ret (v := .agg #[.string ⟨#[]⟩, .string ⟨#[]⟩, .string ⟨#[]⟩, .string ⟨#[]⟩, .string ⟨#[]⟩, .string ⟨#[]⟩, .bool false]) (by simp [results, Tryd.results10, go_sem, y0, y1, y2, y3, y4, y5, y6]) rfl ⟨.inl ⟨hf, rfl⟩, ?_⟩
    have sq := fun W j v h => hscH.out W g j v (Nat.le_refl _) h
    exact sq _ 6 _ (sq _ 5 _ (sq _ 4 _ (sq _ 3 _ (sq _ 2 _ (sq _ 1 _ (sq _ 0 _ hbwH.out))))))
  · obtain ⟨hla, hpo, heo⟩ := hse.out.1 (by omega)
    subst hla
    have hpoH := hide hpo
    have heoH := hide heo
    clear hse hpo heo
    have hps1 : ps ≤ 1 := by rcases hPH.out.sg with ⟨h, _⟩ | ⟨h, _⟩ | ⟨h, _⟩ <;> omega
    have hpan : ps + na ≤ n := by rw [← hn]; exact hPH.out.i.le
    have hqv : Hid ((dot = true ∧ q = ps + na + 1 + nf ∧ q ≤ n) ∨ (dot = false ∧ nf = 0 ∧ q = ps + na)) := hide (by
      rcases hPH.out.pt with ⟨g1, g2, g3, g4⟩ | ⟨g1, g2, g3⟩
      · left; refine ⟨g1, ?_, ?_⟩
        · rw [hPH.out.hq, g1]; simp; omega
        · have := g4.le; rw [hPH.out.hq, g1]; simp; omega
      · right; refine ⟨g1, g2, ?_⟩
        rw [hPH.out.hq, g1]; simp)
    have hqn : q ≤ n := by rcases hqv.out with ⟨_, _, h⟩ | ⟨_, _, h⟩ <;> omega
    have hq1 : ps + na ≤ q := by rcases hqv.out with ⟨_, h, _⟩ | ⟨_, _, h⟩ <;> omega
    have hxv : Hid ((ee = false ∧ xe = false ∧ en = q) ∨ (ee = true ∧ xe = true ∧ en = pe + ne ∧ q + 1 ≤ pe ∧ 0 < ne ∧ en ≤ n) ∨ (ee = true ∧ xe = false ∧ en = q)) := hide (by
      rcases hPH.out.ex with ⟨k1, k2, k3, _⟩ | ⟨k1, k2, k3, k4, k5, k6⟩
      · exact .inl ⟨k1, k2, k3⟩
      · rcases k6 with ⟨m1, m2, m3⟩ | ⟨m1, m2, m3⟩
        · right; left
          have := k5.le
          refine ⟨k1, m2, m3, ?_, m1, by omega⟩
          rcases k4 with ⟨h, _⟩ | ⟨h, _⟩ | ⟨h, _⟩ <;> omega
        · exact .inr (.inr ⟨k1, m2, m3⟩))
    have henn : en ≤ n := by rcases hxv.out with ⟨_, _, h⟩ | ⟨_, _, h, _, _, h2⟩ | ⟨_, _, h⟩ <;> omega
    have hqen : q ≤ en := by rcases hxv.out with ⟨_, _, h⟩ | ⟨_, _, h, _, _, h2⟩ | ⟨_, _, h⟩ <;> omega
    have hen1 : 1 ≤ en := by rcases hqv.out with ⟨_, h, _⟩ | ⟨_, h0, h⟩ <;> omega
    have hn0 : 0 < n := by omega
    have hpol : po < (en : Int) := by
      rw [hpoH.out]
      rcases hqv.out with ⟨h1, h2, _⟩ | ⟨h1, _⟩ <;> rw [h1] <;> simp <;> omega
    have hpob : -1 ≤ po := by rw [hpoH.out]; split <;> omega
    obtain ⟨eo2, heo2⟩ : ∃ x : Int, x = if xe = true then (q : Int) else -1 := ⟨_, rfl⟩
    have heo2H := hide heo2
    clear heo2
    have hk1 : decide ((en : Int) ≤ po) = false := decide_eq_false (by omega)
    obtain ⟨gb, hgb⟩ : ∃ x : Bool, decide ((en : Int) ≤ eo) = x := ⟨_, rfl⟩
    have hgbv : Hid ((gb = true → eo2 = -1) ∧ (gb = false → eo2 = eo)) := hide (by
      rw [heo2H.out, ← hgb]
      rcases hxv.out with ⟨h1, h2, h3⟩ | ⟨h1, h2, h3, h4, h5, _⟩ | ⟨h1, h2, h3⟩
      · have he : eo = -1 := by rw [heoH.out, h1]; rfl
        rw [he, h2]; simp
      · have he : eo = (q : Int) := by rw [heoH.out, h1]; rfl
        rw [he, h2]; simp; omega
      · have he : eo = (q : Int) := by rw [heoH.out, h1]; rfl
        rw [he, h2]; simp; omega)
    have hpd : decide (0 ≤ po) = dot := by
      rw [hpoH.out]
      cases dot <;> simp <;> omega
    have hed : decide (0 ≤ eo2) = xe := by
      rw [heo2H.out]
      cases xe <;> simp <;> omega
    have hpoV : Hid (dot = true → po = (ps : Int) + na) := hide fun h => by rw [hpoH.out, h]; simp
    have heoV : Hid (xe = true → eo2 = (q : Int)) := hide fun h => by rw [heo2H.out, h]; rfl
    clear hpoH heoH heo2H
    go_upto_if 140 with fail
    go_cut [8] (fun v w' => v = .int .i64 eo2 ∧ w' = wc)
    case first =>
      cases gb with
      | false =>
        have h := hgbv.out.2 rfl
        have hH := hide h
        clear h
        go_wp2_with fail
        go_meet
        case rel => exact ⟨congrArg (Value.int .i64) hH.out.symm, rfl⟩
      | true =>
        have h := hgbv.out.1 rfl
        have hH := hide h
        clear h
        go_wp2_with fail
        go_meet
        case rel => exact ⟨congrArg (Value.int .i64) hH.out.symm, rfl⟩
    obtain ⟨rfl, rfl⟩ := hcut
    clear hgbv hgb
    obtain ⟨sgb, hsgb⟩ : ∃ x : Bool, x = decide (ps = 1) := ⟨_, rfl⟩
    have hsgH := hide hsgb
    clear hsgb
    go_upto_region 68 with fail
    go_cut [148] from 141 to 147 (fun v w' => v = .bool sgb ∧ w' = wc)
    case first =>
      rcases hPH.out.sg with ⟨h1, _, h2⟩ | ⟨h1, _, h2, h3⟩ | ⟨h1, _, h2, h3⟩
      · have h4 : sgb = false := by rw [hsgH.out]; simp; omega
        subst h4
        obtain ⟨h6, h7⟩ := h2 (by omega)
        have e1 : (bt T 0 == 43) = false := beq_eq_false_iff_ne.2 h6
        have e2 : (bt T 0 == 45) = false := beq_eq_false_iff_ne.2 h7
        clear h6 h7 h2
        go_wp2_with fail
        go_meet
        case rel => exact ⟨rfl, rfl⟩
      · have h4 : sgb = true := by rw [hsgH.out]; simp; omega
        subst h4
        have e1 : (bt T 0 == 43) = true := beq_iff_eq.2 h3
        clear h3 h2
        go_wp2_with fail
        go_meet
        case rel => exact ⟨rfl, rfl⟩
      · have h4 : sgb = true := by rw [hsgH.out]; simp; omega
        subst h4
        have e1 : (bt T 0 == 43) = false := beq_eq_false_iff_ne.2 (by omega)
        have e2 : (bt T 0 == 45) = true := beq_iff_eq.2 h3
        clear h3 h2
        go_wp2_with fail
        go_meet
        case rel => exact ⟨rfl, rfl⟩
    obtain ⟨rfl, rfl⟩ := hcut
    go_upto_if 148 with fail
    go_cut [12] (fun v w' => v = .int .i64 ps ∧ w' = wc)
    case first =>
      cases sgb with
      | false =>
        have h1 : Hid (ps = 0) := hide (by have := hsgH.out; simp at this; omega)
        go_wp2_with fail
        go_meet
        case rel => exact ⟨by rw [h1.out]; rfl, rfl⟩
      | true =>
        have h1 : Hid (ps = 1) := hide (by have := hsgH.out; simpa using this)
        go_wp2_with fail
        go_meet
        case rel => exact ⟨by rw [h1.out]; rfl, rfl⟩
    obtain ⟨rfl, rfl⟩ := hcut
    clear hsgH
    obtain ⟨ie, hie⟩ : ∃ x : Int, x = if xe = true then (q : Int) else en := ⟨_, rfl⟩
    have hieH := hide hie
    clear hie
    go_upto_if 151 with fail
    go_cut [13] from 152 to 152 (fun v w' => v = .int .i64 ie ∧ w' = wc)
    case first =>
      cases xe with
      | false =>
        go_wp2_with fail
        go_meet
        case rel => exact ⟨by rw [hieH.out]; rfl, rfl⟩
      | true =>
        have h := heoV.out rfl
        subst h
        go_wp2_with fail
        go_meet
        case rel => exact ⟨by rw [hieH.out]; rfl, rfl⟩
    obtain ⟨rfl, rfl⟩ := hcut
    go_upto_if 154 with fail
    go_cut [13] from 155 to 155 (fun v w' => v = .int .i64 ((ps : Int) + na) ∧ w' = wc)
    case first =>
      cases dot with
      | false =>
        have h1 : Hid (ie = (ps : Int) + na) := hide (by
          rw [hieH.out]
          rcases hqv.out with ⟨h, _⟩ | ⟨_, _, h⟩
          · cases h
          · rcases hxv.out with ⟨_, h2, h3⟩ | ⟨_, h2, _⟩ | ⟨_, h2, h3⟩ <;> rw [h2] <;> simp <;> omega)
        go_wp2_with fail
        go_meet
        case rel => exact ⟨congrArg (Value.int .i64) h1.out, rfl⟩
      | true =>
        have h := hpoV.out rfl
        have hH := hide h
        clear h
        go_wp2_with fail
        go_meet
        case rel => exact ⟨congrArg (Value.int .i64) hH.out, rfl⟩
    obtain ⟨rfl, rfl⟩ := hcut
    clear hieH
    have hse1 : (T.extract ps (ps + na)).size = na := by rw [size_ext _ _ _ (by omega)]; omega
    obtain ⟨sgS, hsgS⟩ : ∃ x, T.extract 0 ps = x := ⟨_, rfl⟩
    obtain ⟨inS, hinS⟩ : ∃ x, T.extract ps (ps + na) = x := ⟨_, rfl⟩
    go_upto_region 78 with fail
    obtain ⟨W2, hW2⟩ : ∃ W2, wc.alloc (.cells #[.string sgS, .string inS, .string ⟨#[]⟩, .string ⟨#[]⟩, .string ⟨#[]⟩, .string ⟨#[]⟩, .bool false] 31) = W2 := ⟨_, rfl⟩
    have hpA : Hid (P7 W2 (g + 1) sgS inS ⟨#[]⟩ ⟨#[]⟩ ⟨#[]⟩ ⟨#[]⟩ false) := hide (by
      have h := p7_mk wc sgS inS ⟨#[]⟩ ⟨#[]⟩ ⟨#[]⟩ ⟨#[]⟩ false
      rw [hgsz] at h
      rw [← hW2]
      exact h)
    have hpB : Hid (P7 W2 g ⟨#[]⟩ ⟨#[]⟩ ⟨#[]⟩ ⟨#[]⟩ ⟨#[]⟩ ⟨#[]⟩ false) := hide (by
      rw [← hW2]
      exact hp0H.out.alloc _)
    have hbC : Hid (Below w.heap.size w W2) := hide (by
      rw [← hW2]
      exact hbwH.out.alloc (by rw [hg, hgsz]; omega) _)
    rw [hW2]
    try rw [hinS]
    try rw [hsgS]
    clear hW2 hp0H hbwH c0 c1 c2 c3 c4 c5 c6 z0 z1 z2 z3 z4 z5 z6 hgsz
    obtain ⟨c0, c1, c2, c3, c4, c5, c6, z⟩ := hpA.out
    have z2 := z 2 (by omega)
    clear z
    go_upto_if 166 with fail
    go_cut [15] from 167 to 176 (fun _ w' => Hid (P7 w' (g + 1) sgS inS frS ⟨#[]⟩ ⟨#[]⟩ ⟨#[]⟩ false) ∧ Hid (P7 w' g ⟨#[]⟩ ⟨#[]⟩ ⟨#[]⟩ ⟨#[]⟩ ⟨#[]⟩ ⟨#[]⟩ false) ∧ Hid (Below w.heap.size w w'))
    case first =>
      cases dot with
      | false =>
        have hfr : Hid ((⟨#[]⟩ : ByteArray) = frS) := hide (by rw [← hfrH.out]; simp)
        go_wp2_with fail
        go_meet
        case rel => exact ⟨hide (by rw [← hfr.out]; exact hpA.out), hpB, hbC⟩
      | true =>
        have h := hpoV.out rfl
        subst h
        have hfr : T.extract (ps + na + 1) (ps + na + 1 + nf) = frS := by rw [← hfrH.out]; simp
        have hqe : q = ps + na + 1 + nf := by
          rcases hqv.out with ⟨_, h, _⟩ | ⟨h, _⟩
          · exact h
          · cases h
        have hfr2 : T.extract (ps + na + 1) q = frS := by rw [hqe]; exact hfr
        have hq2 : ps + na + 1 ≤ q := by omega
        have hqeH := hide hqe
        clear hqe hfr
        have hfin1 : Hid (P7 (W2.setCell ⟨g + 1, 2, none⟩ (.string frS)) (g + 1) sgS inS frS ⟨#[]⟩ ⟨#[]⟩ ⟨#[]⟩ false) := hide (hpA.out.set2 _)
        have hfin2 : Hid (P7 (W2.setCell ⟨g + 1, 2, none⟩ (.string frS)) g ⟨#[]⟩ ⟨#[]⟩ ⟨#[]⟩ ⟨#[]⟩ ⟨#[]⟩ ⟨#[]⟩ false) := hide (hpB.out.other (by omega) _ _)
        have hfin3 : Hid (Below w.heap.size w (W2.setCell ⟨g + 1, 2, none⟩ (.string frS))) := hide (hscH.out _ (g + 1) 2 _ (by omega) hbC.out)
        cases xe with
        | false =>
          have hqn2 : en = q := by rcases hxv.out with ⟨_, _, h⟩ | ⟨_, h, _⟩ | ⟨_, _, h⟩ <;> first | exact h | cases h
          subst hqn2
          go_wp2_with fail
          go_meet
          case rel => exact ⟨hfin1, hfin2, hfin3⟩
        | true =>
          have h := heoV.out rfl
          subst h
          go_wp2_with fail
          go_meet
          case rel => exact ⟨hfin1, hfin2, hfin3⟩
    obtain ⟨hqA, hqB, hqC⟩ := hcut
    clear hpA hpB hbC c0 c1 c2 c3 c4 c5 c6 z2
    obtain ⟨c0, c1, c2, c3, c4, c5, c6, z⟩ := hqA.out
    have z3 := z 3 (by omega)
    clear z
    go_upto_if 178 with fail
    go_cut [15] from 179 to 184 (fun _ w' => Hid (P7 w' (g + 1) sgS inS frS exS ⟨#[]⟩ ⟨#[]⟩ false) ∧ Hid (P7 w' g ⟨#[]⟩ ⟨#[]⟩ ⟨#[]⟩ ⟨#[]⟩ ⟨#[]⟩ ⟨#[]⟩ false) ∧ Hid (Below w.heap.size w w'))
    case first =>
      cases xe with
      | false =>
        have hex : Hid ((⟨#[]⟩ : ByteArray) = exS) := hide (by rw [← hexH.out]; simp)
        go_wp2_with fail
        go_meet
        case rel => exact ⟨hide (by rw [← hex.out]; exact hqA.out), hqB, hqC⟩
      | true =>
        have h := heoV.out rfl
        subst h
        have hene : en = pe + ne := by
          rcases hxv.out with ⟨_, h, _⟩ | ⟨_, _, h, _⟩ | ⟨_, h, _⟩
          · cases h
          · exact h
          · cases h
        have hq3 : q + 1 ≤ en := by
          rcases hxv.out with ⟨_, h, _⟩ | ⟨_, _, h, h2, h3, _⟩ | ⟨_, h, _⟩
          · cases h
          · omega
          · cases h
        have hex : T.extract (q + 1) en = exS := by rw [← hexH.out, hene]; simp
        clear hene
        have hfin1 : Hid (P7 (wc.setCell ⟨g + 1, 3, none⟩ (.string exS)) (g + 1) sgS inS frS exS ⟨#[]⟩ ⟨#[]⟩ false) := hide (hqA.out.set3 _)
        have hfin2 : Hid (P7 (wc.setCell ⟨g + 1, 3, none⟩ (.string exS)) g ⟨#[]⟩ ⟨#[]⟩ ⟨#[]⟩ ⟨#[]⟩ ⟨#[]⟩ ⟨#[]⟩ false) := hide (hqB.out.other (by omega) _ _)
        have hfin3 : Hid (Below w.heap.size w (wc.setCell ⟨g + 1, 3, none⟩ (.string exS))) := hide (hscH.out _ (g + 1) 3 _ (by omega) hqC.out)
        go_wp2_with fail
        go_meet
        case rel => exact ⟨hfin1, hfin2, hfin3⟩
    obtain ⟨hrA, hrB, hrC⟩ := hcut
    clear hqA hqB hqC c0 c1 c2 c3 c4 c5 c6 z3
    obtain ⟨c0, c1, c2, c3, c4, c5, c6, z⟩ := hrA.out
    have z4 := z 4 (by omega)
    have z5 := z 5 (by omega)
    have z6 := z 6 (by omega)
    obtain ⟨d0, d1, d2, d3, d4, d5, d6, zz⟩ := hrB.out
    have v0 := zz 0 (by omega)
    have v1 := zz 1 (by omega)
    have v2 := zz 2 (by omega)
    have v3 := zz 3 (by omega)
    have v4 := zz 4 (by omega)
    have v5 := zz 5 (by omega)
    have v6 := zz 6 (by omega)
    clear z zz
    have hfinP := hide ((((((((((hrB.out.other (g' := g + 1) (by omega) 4 (.string (T.extract 0 en))).other (g' := g + 1) (by omega) 5 (.string (T.extract en n))).other (g' := g + 1) (by omega) 6 (.bool true)).set0 sgS).set1 inS).set2 frS).set3 exS).set4 (T.extract 0 en)).set5 (T.extract en n)).set6 true)
    go_wp2_with fail
    have y0 := hfinP.out.c0
    have y1 := hfinP.out.c1
    have y2 := hfinP.out.c2
    have y3 := hfinP.out.c3
    have y4 := hfinP.out.c4
    have y5 := hfinP.out.c5
    have y6 := hfinP.out.c6
    refine bodyPost_ret (v := .agg #[.string sgS, .string inS, .string frS, .string exS, .string (T.extract 0 en), .string (T.extract en n), .bool true]) (by simp [results, Tryd.results10, go_sem, y0, y1, y2, y3, y4, y5, y6]) rfl ⟨.inr ⟨by omega, by rw [hsgS, hinS, hn]⟩, ?_⟩
    have sq := fun W j v h => hscH.out W g j v (Nat.le_refl _) h
    have sr := fun W j v h => hscH.out W (g + 1) j v (Nat.le_succ _) h
    exact sq _ 6 _ (sq _ 5 _ (sq _ 4 _ (sq _ 3 _ (sq _ 2 _ (sq _ 1 _ (sq _ 0 _ (sr _ 6 _ (sr _ 5 _ (sr _ 4 _ hrC.out)))))))))
end Go.Proofs.Qxb6606304aDoor
