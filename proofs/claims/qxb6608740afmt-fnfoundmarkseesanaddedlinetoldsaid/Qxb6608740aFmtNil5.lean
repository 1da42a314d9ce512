/-
  WALK: the law FnFoundMarkSeesAnAddedLine at nil data; the law whole.
-/
import Derived.Test.Qxb6608740aFmtMain5
import Derived.Laws.AppendOwnNone
namespace Go.Proofs.Qxb6608740aFmt
open Go.RowKit Go.PlainAid Go.Extern.Stop Go.Stop Go.Extern

set_option maxRecDepth 1000000 in
set_option maxHeartbeats 8000000 in
theorem law5_nil (F : Interp) (x y z : Int) (s t : ByteArray) (w : World) (hF : F.answers w.tape) (hE : Env w)
    (h2 : (s.size : Int) ≤ 65536) (h3 : (t.size : Int) ≤ 65536) (hv : Pl.validName s.data.toList = true) (hy : y ≠ -9223372036854775808) (hz : 0 ≤ z) (hts : t ≠ s)
    (y1 : -9223372036854775808 ≤ y) (y2 : y ≤ 9223372036854775807) (z2 : z ≤ 9223372036854775807) :
    Calls Tryf.prog 4 #[.slice none 0 0, .int .i64 x, .string s, .int .i64 y, .int .i64 z, .string t] w (LawPost w) := by
  have hg := hide (guard5_any none 0 0 x y z s t w)
  have hvH := hide (validName_any s w (by unfold maxLen; omega))
  rw [hv] at hvH
  have hv0 := hide hv
  have hq : (y == -9223372036854775808) = false := beq_eq_false_iff_ne.2 hy
  have hts' : (t.toList == s.toList) = false := by
    rw [Lib.toList_data, Lib.toList_data, beq_eq_false_iff_ne]
    intro e
    apply hts
    cases t; cases s
    congr 1
    exact Array.toList_inj.1 e
  have hFH := hide hF
  have hEH := hide hE
  clear hv hF hE
  obtain ⟨i0, hi, hz0, hz1, hz2⟩ := info_parts Tryf.info5
  go_enter Tryf.func4, Tryf.ntmps4
  go_wp2_with fail
  refine (hg.out).mono ?_
  rintro ev w' ⟨⟨g, rfl⟩, rfl⟩
  clear hg
  cases g
  · go_wp2_with fail
    go_ret
    exact ⟨rfl, Below.refl _ _⟩
  have hls := hide (lineStart_nil x w')
  go_upto_region 12 with (first
    | (go_at_call 11; refine (hvH.out).mono ?_; rintro ev w2 ⟨rfl, hw2⟩; rw [hw2]; clear hw2 w2)
    | (go_at_call 12; refine (hls.out).mono ?_; rintro ev w4 ⟨⟨k, rfl, hk, hst⟩, hw4⟩; rw [hw4]; clear hw4 w4))
  obtain rfl : k = 0 := by omega
  clear hls hst
  obtain ⟨w3, hw3⟩ : ∃ w3, w3 = w' := ⟨_, rfl⟩
  subst hw3
  go_upto_region 13 with (at_make; refine wpList_make_own _ rfl _ _ 22 rfl w3.heap.size 5 i0 (.int .u8 0) 1 Tryf.underlying22 hi hz0 hz1 .i64 .i64 ((s.size : Int) + 44) (s.size + 44) rfl rfl (by omega) (by rw [hz2]; omega) (by unfold maxLen; omega) (Nat.le_refl _) ?_; intro w6 hown6 hgrow6)
  have hbel6 : Below w3.heap.size w3 w6 := (Below.refl w3.heap.size w3).grown hgrow6 (Nat.le_refl _) (fun k hk => by cases hk)
  have hs6 := hbel6.size
  obtain ⟨L6, hn6, hL6, hO6⟩ : ∃ L6 : List UInt8, L6.length ≤ 65536 ∧ Hid (L6 = []) ∧ Hid (Owns w6 w3.heap.size (.slice (some ⟨w3.heap.size, 0, none⟩) 0 (s.size + 44)) L6) := ⟨[], by simp, hide rfl, hide hown6⟩
  clear hown6 hgrow6
  go_upto_region 14 with (at_builtin; refine wpList_append_own_none rfl _ _ 22 rfl w3.heap.size 5 i0 1 Tryf.underlying22 hi _ _ _ rfl hO6.out rfl ?_)
  go_upto_region 15 with (at_builtin; refine Lib.wpList_append_own_string _ rfl _ _ 22 9 rfl w3.heap.size 5 i0 Tryf.underlying22 Tryf.underlying9 hi hz0 hz1 hz2 _ _ _ rfl hO6.out s rfl ?c1 ?c2 ?c3 ?_)
  case c1 => unfold maxLen; omega
  case c2 => omega
  case c3 => exact hs6
  intro v7 w7 hown7 hgrow7 _
  obtain ⟨L7, hn7, hL7, hO7⟩ : ∃ L7 : List UInt8, L7.length ≤ 131072 ∧ Hid (L7 = L6 ++ s.data.toList) ∧ Hid (Owns w7 w3.heap.size v7 L7) := ⟨L6 ++ s.data.toList, by rw [List.length_append]; have : s.data.toList.length = s.size := rfl; omega, hide rfl, hide (by
    unfold Owns
    rw [cellsB_app, ← strCells_eq, List.length_append]
    exact hown7)⟩
  have hbel7 : Below w3.heap.size w3 w7 := hbel6.grown hgrow7 hs6 (fun k hk => (hO6.out.block k hk).1)
  have hs7 := hbel7.size
  clear hO6 hown7 hgrow7 hbel6 hs6
  go_upto_region 16 with (at_builtin; refine wpList_append_own _ rfl _ _ 22 rfl w3.heap.size 5 i0 (.int .u8 0) 1 1 Tryf.underlying22 hi hz0 hz1 hz2 rfl (by decide) _ _ _ rfl (hO7.out.alloc _) ⟨w7.heap.size, 0, none⟩ 1 1 [.int .u8 32] rfl rfl (one_new _ _ _) (fun u hu => by simp at hu; subst hu; rfl) ?c3 ?c4 ?c5 ?_)
  case c3 => unfold maxLen; omega
  case c4 => omega
  case c5 => simp; omega
  intro v8 w8 hown8 hgrow8 _
  obtain ⟨L8, hn8, hL8, hO8⟩ : ∃ L8 : List UInt8, L8.length ≤ 131073 ∧ Hid (L8 = L7 ++ [32]) ∧ Hid (Owns w8 w3.heap.size v8 L8) := ⟨L7 ++ [32], by simp; omega, hide rfl, hide (by
    unfold Owns
    rw [cellsB_app, List.length_append]
    exact hown8)⟩
  have hbel8 : Below w3.heap.size w3 w8 := (hbel7.alloc hs7 _).grown hgrow8 (by simp; omega) (fun k hk => (hO7.out.block k hk).1)
  have hs8 := hbel8.size
  clear hO7 hown8 hgrow8 hbel7 hs7
  have hai := hide (appendInt_any w3.heap.size v8 L8 y w8 hO8.out hs8 (by omega) y1 y2)
  have hdl := Pl.dec_len y
  go_upto_region 17 with (go_at_call 13; refine (hai.out).mono ?_; rintro ev w9 ⟨v9, rfl, hO9', hb9'⟩)
  obtain ⟨L9, hn9, hL9, hO9⟩ : ∃ L9 : List UInt8, L9.length ≤ 131100 ∧ Hid (L9 = L8 ++ Pl.dec y) ∧ Hid (Owns w9 w3.heap.size v9 L9) := ⟨L8 ++ Pl.dec y, by rw [List.length_append]; omega, hide rfl, hide hO9'⟩
  have hbel9 := hbel8.trans hb9'
  have hs9 := hbel9.size
  clear hO8 hO9' hb9' hbel8 hs8 hai hdl
  go_upto_region 18 with (at_builtin; refine wpList_append_own _ rfl _ _ 22 rfl w3.heap.size 5 i0 (.int .u8 0) 1 1 Tryf.underlying22 hi hz0 hz1 hz2 rfl (by decide) _ _ _ rfl (hO9.out.alloc _) ⟨w9.heap.size, 0, none⟩ 1 1 [.int .u8 32] rfl rfl (one_new _ _ _) (fun u hu => by simp at hu; subst hu; rfl) ?c3 ?c4 ?c5 ?_)
  case c3 => unfold maxLen; omega
  case c4 => omega
  case c5 => simp; omega
  intro v10 w10 hown10 hgrow10 _
  obtain ⟨L10, hn10, hL10, hO10⟩ : ∃ L10 : List UInt8, L10.length ≤ 131101 ∧ Hid (L10 = L9 ++ [32]) ∧ Hid (Owns w10 w3.heap.size v10 L10) := ⟨L9 ++ [32], by simp; omega, hide rfl, hide (by
    unfold Owns
    rw [cellsB_app, List.length_append]
    exact hown10)⟩
  have hbel10 : Below w3.heap.size w3 w10 := (hbel9.alloc hs9 _).grown hgrow10 (by simp; omega) (fun k hk => (hO9.out.block k hk).1)
  have hs10 := hbel10.size
  clear hO9 hown10 hgrow10 hbel9 hs9
  have hai := hide (appendInt_any w3.heap.size v10 L10 z w10 hO10.out hs10 (by omega) (by omega) z2)
  have hdl := Pl.dec_len z
  go_upto_region 19 with (go_at_call 13; refine (hai.out).mono ?_; rintro ev w11 ⟨v11, rfl, hO11', hb11'⟩)
  obtain ⟨L11, hn11, hL11, hO11⟩ : ∃ L11 : List UInt8, L11.length ≤ 131130 ∧ Hid (L11 = L10 ++ Pl.dec z) ∧ Hid (Owns w11 w3.heap.size v11 L11) := ⟨L10 ++ Pl.dec z, by rw [List.length_append]; omega, hide rfl, hide hO11'⟩
  have hbel11 := hbel10.trans hb11'
  have hs11 := hbel11.size
  clear hO10 hO11' hb11' hbel10 hs10 hai hdl
  go_upto_region 20 with (at_builtin; refine wpList_append_own _ rfl _ _ 22 rfl w3.heap.size 5 i0 (.int .u8 0) 1 1 Tryf.underlying22 hi hz0 hz1 hz2 rfl (by decide) _ _ _ rfl (hO11.out.alloc _) ⟨w11.heap.size, 0, none⟩ 1 1 [.int .u8 10] rfl rfl (one_new _ _ _) (fun u hu => by simp at hu; subst hu; rfl) ?c3 ?c4 ?c5 ?_)
  case c3 => unfold maxLen; omega
  case c4 => omega
  case c5 => simp; omega
  intro v12 w12 hown12 hgrow12 _
  obtain ⟨L12, hn12, hL12, hO12⟩ : ∃ L12 : List UInt8, L12.length ≤ 131131 ∧ Hid (L12 = L11 ++ [10]) ∧ Hid (Owns w12 w3.heap.size v12 L12) := ⟨L11 ++ [10], by simp; omega, hide rfl, hide (by
    unfold Owns
    rw [cellsB_app, List.length_append]
    exact hown12)⟩
  have hbel12 : Below w3.heap.size w3 w12 := (hbel11.alloc hs11 _).grown hgrow12 (by simp; omega) (fun k hk => (hO11.out.block k hk).1)
  have hs12 := hbel12.size
  clear hO11 hown12 hgrow12 hbel11 hs11
  go_upto_region 21 with (at_builtin; refine wpList_append_own_none rfl _ _ 22 rfl w3.heap.size 5 i0 1 Tryf.underlying22 hi _ _ _ rfl hO12.out rfl ?_)
  have hall : Hid (L12 = [] ++ (lineOf s.data.toList y z ++ 10 :: [])) := hide (by
    rw [hL12.out, hL11.out, hL10.out, hL9.out, hL8.out, hL7.out, hL6.out]; unfold lineOf; simp)
  have hlen13 : L12.length ≤ 200000 := by omega
  have hpos13 : 0 < L12.length := by rw [hL12.out]; simp
  have hlaw := Pl.added_law [] [] (lineOf s.data.toList y z) s.data.toList t.data.toList y z (.inl rfl) (line_no10 hv0.out y z) (line_pm hv0.out y z hy hz y1 y2 z2) (fun e => hts (by cases t; cases s; congr 1; exact Array.toList_inj.1 e))
  rw [← hall.out] at hlaw
  obtain ⟨gA, cA, hvA, rowA, hcA1, hcA2, hgA1, hgA2⟩ := owns_row hO12.out hpos13
  subst hvA
  have rowAH := hide rowA
  have hlawH := hide hlaw
  clear hL12 hL11 hL10 hL9 hL8 hL7 hL6 rowA hlaw hall hn12 hn11 hn10 hn9 hn8 hn7 hn6 hO12
  generalize L12 = LL at *
  have hold := hide (zzmarks_any F none 0 0 [] w12 (by rw [hbel12.tape]; exact hFH.out) ⟨rfl, (fun _ => ⟨rfl, rfl⟩), fun ad had => by cases had⟩ (hEH.out.below hbel12) (by omega) (Nat.le_refl _) (by omega) (fun a ha => by cases ha))
  have hm : Pl.marks [] = none := rfl
  go_upto_region 28 with (go_at_call 7; (with_reducible refine (hold.out).mono ?_); rintro ev wB ⟨hres, hbB⟩; obtain ⟨k1, a1, rfl⟩ := MRes_none hres hm)
  have belB := hbel12.trans (hbB.mono hbel12.size)
  have rowN := hide (rowAH.out.below hbB)
  have hgN : gA < wB.heap.size := Nat.lt_of_lt_of_le hgA2 hbB.size
  clear hold rowAH hbB
  have hL := hlawH.out
  rw [if_pos (.inl rfl)] at hL
  obtain ⟨es, hmN, hl1, hl2⟩ := hL
  have hlk1 := hide hl1
  have hlk2 : Hid (Pl.look es t.data.toList = (0, 0, false)) := hide hl2
  clear hlawH hl1 hl2
  have hnew := hide (zzmarks_any F (some ⟨gA, 0, none⟩) LL.length cA LL wB (by rw [belB.tape]; exact hFH.out) ⟨rfl, (fun h => by cases h), fun ad had => ⟨_, _, (Option.some.inj had).symm, rowN.out⟩⟩ (hEH.out.below belB) (by omega) hcA1 hcA2 (fun a ha => by cases ha; exact hgN))
  go_upto_region 33 with (go_at_call 7; (with_reducible refine (hnew.out).mono ?_); rintro ev wC ⟨hres, hbC⟩; obtain ⟨M, rfl, hM1, hM2, hnd, kk, hown⟩ := MRes_some hres hmN)
  have hfl := hide (floor_new hM2 hnd hown)
  have bC := belB.trans (hbC.mono belB.size)
  have hfo := hide (floorOf_any M wC)
  go_upto_region 34 with (go_at_call 9; (with_reducible refine (hfo.out).mono ?_); rintro ev wD ⟨rfl, hwD⟩; rw [hwD]; clear hwD wD)
  clear hfo hnew hbC hown hM1
  obtain ⟨wD, hwD⟩ : ∃ wD, wC.alloc (.cells #[.pointer none, .int .i64 0, .int .i32 0, .int .u32 0, .int .i64 0, .map (some M)] 55) = wD := ⟨_, rfl⟩
  have bD : Below w3.heap.size w3 wD := by rw [← hwD]; exact below_al (Nat.le_refl _) bC
  rw [hwD] at hfl ⊢
  clear hwD
  have hz1' := hide (zzfound_any wC.heap.size es s y z true wD hfl.out (by unfold maxLen; omega) hlk1.out)
  go_upto_region 35 with (go_at_call 8; (with_reducible refine (hz1'.out).mono ?_); rintro ev wE ⟨rfl, hbE⟩)
  have bE := bD.trans (hbE.mono bD.size)
  have hz2' := hide (zzfound_any wC.heap.size es t 0 0 false wE (hfl.out.below hbE) (by unfold maxLen; omega) hlk2.out)
  go_wp2_with (go_at_call 8; (with_reducible refine (hz2'.out).mono ?_); rintro ev wG ⟨rfl, hbG⟩)
  go_ret
  exact ⟨rfl, bE.trans (hbG.mono bE.size)⟩

theorem law5_all (F : Interp) (p : Option Addr) (n c : Nat) (d : List UInt8) (x y z : Int) (s t : ByteArray) (w : World) (hF : F.answers w.tape) (hE : Env w) (hl : d.length = n) (hp : p = none → n = 0 ∧ c = 0) (hr : ∀ ad, p = some ad → ∀ j v, (cellsB d)[j]? = some v → w.cell? (ad.add j) = some v)
    (y1 : -9223372036854775808 ≤ y) (y2 : y ≤ 9223372036854775807) (z2 : z ≤ 9223372036854775807) :
    Calls Tryf.prog 4 #[.slice p n c, .int .i64 x, .string s, .int .i64 y, .int .i64 z, .string t] w (LawPost w) := by
  by_cases h : 65536 < (n : Int) ∨ 65536 < (s.size : Int) ∨ 65536 < (t.size : Int)
  · exact law5_long p n c x y z s t w h
  · by_cases he : Pl.validName s.data.toList = true ∧ y ≠ -9223372036854775808 ∧ 0 ≤ z ∧ t ≠ s
    · obtain ⟨hv, hy, hz, hts⟩ := he
      cases p with
      | none =>
        obtain ⟨rfl, rfl⟩ := hp rfl
        exact law5_nil F x y z s t w hF hE (by omega) (by omega) hv hy hz hts y1 y2 z2
      | some ad => exact law5_some F ad n c d x y z s t w hF hE hl (hr ad rfl) (by omega) (by omega) (by omega) hv hy hz hts y1 y2 z2
    · exact law5_early p n c x y z s t w (by omega) (by omega) (by omega) he
end Go.Proofs.Qxb6608740aFmt
