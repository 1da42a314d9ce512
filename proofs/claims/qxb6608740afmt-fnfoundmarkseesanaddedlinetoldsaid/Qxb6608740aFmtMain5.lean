/-
  WALK: the law FnFoundMarkSeesAnAddedLine, its main road.
-/
import Derived.Test.Qxb6608740aFmtLaw5
import Derived.Deep.DeepCutAuto
import Derived.Deep.CutBlock
namespace Go.Proofs.Qxb6608740aFmt
open Go.RowKit Go.PlainAid Go.Extern.Stop Go.Stop Go.Extern

theorem splice_all {α : Type} (L cs : List α) (h : L.length = cs.length) : splice L 0 cs = cs := by
  unfold splice
  rw [List.take_zero, List.nil_append, Nat.zero_add, ← h, List.drop_length, List.append_nil]
theorem RowAt.take {w : World} {b o : Nat} {l : List UInt8} (h : RowAt w b o l) (k : Nat) : RowAt w b o (l.take k) := fun i hi => by
  rw [List.length_take] at hi
  have := h i (by omega)
  rw [this]
  unfold Pl.B
  rw [List.getD_eq_getElem?_getD, List.getD_eq_getElem?_getD, List.getElem?_take, if_pos (by omega)]
theorem RowAt.drop {w : World} {b o : Nat} {l : List UInt8} (h : RowAt w b o l) (k : Nat) : RowAt w b (o + k) (l.drop k) := fun i hi => by
  rw [List.length_drop] at hi
  have := h (k + i) (by omega)
  rw [Nat.add_assoc, this]
  unfold Pl.B
  rw [List.getD_eq_getElem?_getD, List.getD_eq_getElem?_getD, List.getElem?_drop]
/-- The line that is put in. -/
def lineOf (nm : List UInt8) (y z : Int) : List UInt8 := nm ++ 32 :: (Pl.dec y ++ 32 :: Pl.dec z)
theorem line_no10 {nm : List UInt8} (hv : Pl.validName nm = true) (y z : Int) : (10 : UInt8) ∉ lineOf nm y z := by
  have hd : ∀ v, (10 : UInt8) ∉ Pl.dec v := by
    intro v
    unfold Pl.dec
    have h : ∀ n, (10 : UInt8) ∉ Pl.decF 20 n := fun n => Pl.no_mem_all (Pl.decF_all 20 n) (by decide)
    split
    · rw [List.mem_cons, not_or]; exact ⟨by decide, h _⟩
    · exact h _
  have hn : (10 : UInt8) ∉ nm := by
    unfold Pl.validName at hv
    rw [Bool.and_eq_true] at hv
    exact Pl.no_mem_all hv.2 (by decide)
  unfold lineOf
  simp only [List.mem_append, List.mem_cons, not_or]
  exact ⟨hn, by decide, hd y, by decide, hd z⟩
theorem line_pm {nm : List UInt8} (hv : Pl.validName nm = true) (y z : Int) (hy : y ≠ -9223372036854775808) (hz : 0 ≤ z) (y1 : -9223372036854775808 ≤ y) (y2 : y ≤ 9223372036854775807) (z2 : z ≤ 9223372036854775807) : Pl.pm (lineOf nm y z) = (nm, y, z, true) := by
  have h := Pl.written nm y z y1 y2 (by omega) z2
  rw [if_pos ⟨hv, hy, hz⟩] at h
  exact h
theorem start_take {d : List UInt8} {n k : Nat} (hl : d.length = n) (hk : k ≤ n) (h : k = 0 ∨ ∃ j, k = j + 1 ∧ Pl.B d j = 10) : d.take k = [] ∨ ∃ p', d.take k = p' ++ [10] := by
  rcases h with rfl | ⟨j, rfl, hj⟩
  · exact .inl rfl
  · right
    refine ⟨d.take j, ?_⟩
    have hjl : j < d.length := by omega
    rw [List.take_add_one, List.getElem?_eq_getElem hjl]
    rw [Pl.B_get d j hjl] at hj
    have : d[j] = 10 := UInt8.toNat_inj.1 (by have : (10 : UInt8).toNat = 10 := rfl; omega)
    rw [this]; rfl
theorem MRes_none {d : List UInt8} {N : Nat} {w : World} {e : Ending} (h : MRes d N w e) (hm : Pl.marks d = none) : ∃ k a, e = .returned (.tuple #[.map none, .iface k (.pointer (some a))]) := by
  unfold MRes at h; rw [hm] at h; exact h
theorem MRes_some {d : List UInt8} {N : Nat} {w : World} {e : Ending} {es : List Pl.Ent} (h : MRes d N w e) (hm : Pl.marks d = some es) : ∃ M, e = .returned (.tuple #[.map (some M), .nilIface]) ∧ N ≤ M ∧ M < w.heap.size ∧ (Pl.names es).Nodup ∧ ∃ k, w.ownsMap Tryf.prog 9 mkElem M k (dOf es) := by
  unfold MRes at h; rw [hm] at h; exact h
/-- The floor that ZZfloorOf lays. -/
theorem floor_new {w : World} {M k : Nat} {es : List Pl.Ent} (hM : M < w.heap.size) (hn : (Pl.names es).Nodup) (ho : w.ownsMap Tryf.prog 9 mkElem M k (dOf es)) : FloorAt (w.alloc (.cells #[.pointer none, .int .i64 0, .int .i32 0, .int .u32 0, .int .i64 0, .map (some M)] 55)) w.heap.size es := by
  refine ⟨?_, ?_, hn, M, k, ?_, Nat.ne_of_lt hM, by simp; omega, ho.alloc _⟩
  · go_simp
  · go_simp
  · go_simp
theorem size5 : (Tryf.prog.info? 5).map (·.size) = some 1 := by kernel_rfl

set_option maxRecDepth 1000000 in
set_option maxHeartbeats 8000000 in
theorem law5_some (F : Interp) (ad : Addr) (n c : Nat) (d : List UInt8) (x y z : Int) (s t : ByteArray) (w : World) (hF : F.answers w.tape) (hE : Env w) (hl : d.length = n) (hr : ∀ j v, (cellsB d)[j]? = some v → w.cell? (ad.add j) = some v)
    (h1 : (n : Int) ≤ 65536) (h2 : (s.size : Int) ≤ 65536) (h3 : (t.size : Int) ≤ 65536) (hv : Pl.validName s.data.toList = true) (hy : y ≠ -9223372036854775808) (hz : 0 ≤ z) (hts : t ≠ s)
    (y1 : -9223372036854775808 ≤ y) (y2 : y ≤ 9223372036854775807) (z2 : z ≤ 9223372036854775807) :
    Calls Tryf.prog 4 #[.slice (some ad) n c, .int .i64 x, .string s, .int .i64 y, .int .i64 z, .string t] w (LawPost w) := by
  have hg := hide (guard5_any (some ad) n c x y z s t w)
  have hvH := hide (validName_any s w (by unfold maxLen; omega))
  rw [hv] at hvH
  have hv0 := hide hv
  have hq : (y == -9223372036854775808) = false := beq_eq_false_iff_ne.2 hy
  have hts' : (t.toList == s.toList) = false := by
    rw [Lib.toList_data, Lib.toList_data, beq_eq_false_iff_ne]
    intro e
    apply hts
    cases t; cases s
    congr 1
    exact Array.toList_inj.1 e
  have hFH := hide hF
  have hEH := hide hE
  have hrH := hide hr
  clear hv hF hE hr
  obtain ⟨i0, hi, hz0, hz1, hz2⟩ := info_parts Tryf.info5
  go_enter Tryf.func4, Tryf.ntmps4
  go_wp2_with fail
  refine (hg.out).mono ?_
  rintro ev w' ⟨⟨g, rfl⟩, rfl⟩
  clear hg
  cases g
  · go_wp2_with fail
    go_ret
    exact ⟨rfl, Below.refl _ _⟩
  go_upto_region 9 with (first
    | (go_at_call 11; refine (hvH.out).mono ?_; rintro ev w2 ⟨rfl, rfl⟩)
    | (at_make; refine wpList_make_full _ rfl _ _ 22 rfl _ 5 i0 (.int .u8 0) 1 Tryf.underlying22 hi hz0 hz1 .i64 .i64 (n : Int) (n : Int) n rfl rfl rfl rfl (by rw [hz2]; omega) (by unfold maxLen; omega) (Nat.le_refl _) ?_; intro w1 hown1 hgrow1))
  have hb1 : Below w2.heap.size w2 w1 := (Below.refl w2.heap.size w2).grown hgrow1 (Nat.le_refl _) (fun k hk => by cases hk)
  obtain ⟨cur, hgc, hcl⟩ : ∃ cur : List Value, w1.heap[w2.heap.size]? = some (.cells cur.toArray 5 (0, 0)) ∧ cur.length = n := by
    rcases hown1.2 with ⟨h, _⟩ | ⟨g, cap, cur, hv, _, hg, _, _, hcs, _⟩
    · cases h
    · cases hv
      exact ⟨cur.toList, by simpa using hg, by simpa using hcs⟩
  have hr1 : Hid (∀ j v, (cellsB d)[j]? = some v → w1.cell? (ad.add j) = some v) := hide (fun j v hj => (hb1.cell (cell_lt (hrH.out j v hj))).trans (hrH.out j v hj))
  have hgcH := hide hgc
  clear hown1 hgrow1 hgc
  go_upto_region 11 with (refine wpList_copy_splice rfl _ _ 22 22 rfl 5 Tryf.underlying22 size5 (some ⟨w2.heap.size, 0, none⟩) (some ad) n n n c rfl rfl w2.heap.size 0 cur 5 hgcH.out (cellsB d) (by rw [cellsB_len, hl]; exact (Nat.min_self n).symm) (fun _ => ⟨rfl, _, rfl, hr1.out⟩) (by rw [cellsB_len]; omega) (cellsB_one d) w2.heap.size w2 hb1 (Nat.le_refl _) ?_)
  intro w3 hG3 hb3
  have hrow3 : Hid (RowAt w3 w2.heap.size 0 d) := hide (row_of_block (by
    have h := hG3.out
    rwa [splice_all _ _ (by rw [hcl, cellsB_len, hl])] at h))
  have hN3 : w2.heap.size < w3.heap.size := (Array.getElem?_eq_some_iff.1 hG3.out).1
  clear hG3 hr1 hgcH hb1 hcl
  have hls := hide (lineStart_some w2.heap.size 0 n n d x w3 hl hrow3.out (by omega))
  go_upto_region 12 with (go_at_call 12; refine (hls.out).mono ?_; rintro ev w4 ⟨⟨k, rfl, hk, hst⟩, hw4⟩; rw [hw4]; clear hw4 w4)
  have hstH := hide hst
  clear hls hst
  have hki : (k : Int) ≤ (n : Int) := by omega
  go_upto_region 13 with (at_make; refine wpList_make_own _ rfl _ _ 22 rfl w3.heap.size 5 i0 (.int .u8 0) 1 Tryf.underlying22 hi hz0 hz1 .i64 .i64 ((n : Int) + s.size + 44) (n + s.size + 44) rfl rfl (by omega) (by rw [hz2]; omega) (by unfold maxLen; omega) (Nat.le_refl _) ?_; intro w5 hown5 hgrow5)
  have hbel5 : Below w3.heap.size w3 w5 := (Below.refl w3.heap.size w3).grown hgrow5 (Nat.le_refl _) (fun k hk => by cases hk)
  have hs5 := hbel5.size
  have hO5 : Hid (Owns w5 w3.heap.size (.slice (some ⟨w3.heap.size, 0, none⟩) 0 (n + s.size + 44)) []) := hide hown5
  clear hown5 hgrow5
  have hr5 := hide ((hrow3.out.below hbel5).take k)
  go_upto_region 14 with (at_builtin; refine wpList_append_own _ rfl _ _ 22 rfl w3.heap.size 5 i0 (.int .u8 0) 1 1 Tryf.underlying22 hi hz0 hz1 hz2 rfl (by decide) _ _ _ rfl hO5.out ⟨w2.heap.size, 0, none⟩ k n (cellsB (d.take k)) rfl (by rw [cellsB_len, List.length_take]; omega) (row_news hr5.out) (cellsB_one _) ?c1 ?c2 hs5 ?_)
  case c1 => unfold maxLen; simp; omega
  case c2 => simp; omega
  intro v6 w6 hown6 hgrow6 _
  obtain ⟨L6, hn6, hL6, hO6⟩ : ∃ L6 : List UInt8, L6.length ≤ 65536 ∧ Hid (L6 = d.take k) ∧ Hid (Owns w6 w3.heap.size v6 L6) := ⟨d.take k, by rw [List.length_take]; omega, hide rfl, hide (by
    unfold Owns
    rw [List.length_take, Nat.min_eq_left (by omega)]
    exact hown6)⟩
  have hbel6 : Below w3.heap.size w3 w6 := hbel5.grown hgrow6 hs5 (fun k hk => (hO5.out.block k hk).1)
  have hs6 := hbel6.size
  clear hO5 hown6 hgrow6 hbel5 hs5 hr5
  go_upto_region 15 with (at_builtin; refine Lib.wpList_append_own_string _ rfl _ _ 22 9 rfl w3.heap.size 5 i0 Tryf.underlying22 Tryf.underlying9 hi hz0 hz1 hz2 _ _ _ rfl hO6.out s rfl ?c1 ?c2 ?c3 ?_)
  case c1 => unfold maxLen; omega
  case c2 => omega
  case c3 => exact hs6
  intro v7 w7 hown7 hgrow7 _
  obtain ⟨L7, hn7, hL7, hO7⟩ : ∃ L7 : List UInt8, L7.length ≤ 131072 ∧ Hid (L7 = L6 ++ s.data.toList) ∧ Hid (Owns w7 w3.heap.size v7 L7) := ⟨L6 ++ s.data.toList, by rw [List.length_append]; have : s.data.toList.length = s.size := rfl; omega, hide rfl, hide (by
    unfold Owns
    rw [cellsB_app, ← strCells_eq, List.length_append]
    exact hown7)⟩
  have hbel7 : Below w3.heap.size w3 w7 := hbel6.grown hgrow7 hs6 (fun k hk => (hO6.out.block k hk).1)
  have hs7 := hbel7.size
  clear hO6 hown7 hgrow7 hbel6 hs6
  go_upto_region 16 with (at_builtin; refine wpList_append_own _ rfl _ _ 22 rfl w3.heap.size 5 i0 (.int .u8 0) 1 1 Tryf.underlying22 hi hz0 hz1 hz2 rfl (by decide) _ _ _ rfl (hO7.out.alloc _) ⟨w7.heap.size, 0, none⟩ 1 1 [.int .u8 32] rfl rfl (one_new _ _ _) (fun u hu => by simp at hu; subst hu; rfl) ?c3 ?c4 ?c5 ?_)
  case c3 => unfold maxLen; omega
  case c4 => omega
  case c5 => simp; omega
  intro v8 w8 hown8 hgrow8 _
  obtain ⟨L8, hn8, hL8, hO8⟩ : ∃ L8 : List UInt8, L8.length ≤ 131073 ∧ Hid (L8 = L7 ++ [32]) ∧ Hid (Owns w8 w3.heap.size v8 L8) := ⟨L7 ++ [32], by simp; omega, hide rfl, hide (by
    unfold Owns
    rw [cellsB_app, List.length_append]
    exact hown8)⟩
  have hbel8 : Below w3.heap.size w3 w8 := (hbel7.alloc hs7 _).grown hgrow8 (by simp; omega) (fun k hk => (hO7.out.block k hk).1)
  have hs8 := hbel8.size
  clear hO7 hown8 hgrow8 hbel7 hs7
  have hai := hide (appendInt_any w3.heap.size v8 L8 y w8 hO8.out hs8 (by omega) y1 y2)
  have hdl := Pl.dec_len y
  go_upto_region 17 with (go_at_call 13; refine (hai.out).mono ?_; rintro ev w9 ⟨v9, rfl, hO9', hb9'⟩)
  obtain ⟨L9, hn9, hL9, hO9⟩ : ∃ L9 : List UInt8, L9.length ≤ 131100 ∧ Hid (L9 = L8 ++ Pl.dec y) ∧ Hid (Owns w9 w3.heap.size v9 L9) := ⟨L8 ++ Pl.dec y, by rw [List.length_append]; omega, hide rfl, hide hO9'⟩
  have hbel9 := hbel8.trans hb9'
  have hs9 := hbel9.size
  clear hO8 hO9' hb9' hbel8 hs8 hai hdl
  go_upto_region 18 with (at_builtin; refine wpList_append_own _ rfl _ _ 22 rfl w3.heap.size 5 i0 (.int .u8 0) 1 1 Tryf.underlying22 hi hz0 hz1 hz2 rfl (by decide) _ _ _ rfl (hO9.out.alloc _) ⟨w9.heap.size, 0, none⟩ 1 1 [.int .u8 32] rfl rfl (one_new _ _ _) (fun u hu => by simp at hu; subst hu; rfl) ?c3 ?c4 ?c5 ?_)
  case c3 => unfold maxLen; omega
  case c4 => omega
  case c5 => simp; omega
  intro v10 w10 hown10 hgrow10 _
  obtain ⟨L10, hn10, hL10, hO10⟩ : ∃ L10 : List UInt8, L10.length ≤ 131101 ∧ Hid (L10 = L9 ++ [32]) ∧ Hid (Owns w10 w3.heap.size v10 L10) := ⟨L9 ++ [32], by simp; omega, hide rfl, hide (by
    unfold Owns
    rw [cellsB_app, List.length_append]
    exact hown10)⟩
  have hbel10 : Below w3.heap.size w3 w10 := (hbel9.alloc hs9 _).grown hgrow10 (by simp; omega) (fun k hk => (hO9.out.block k hk).1)
  have hs10 := hbel10.size
  clear hO9 hown10 hgrow10 hbel9 hs9
  have hai := hide (appendInt_any w3.heap.size v10 L10 z w10 hO10.out hs10 (by omega) (by omega) z2)
  have hdl := Pl.dec_len z
  go_upto_region 19 with (go_at_call 13; refine (hai.out).mono ?_; rintro ev w11 ⟨v11, rfl, hO11', hb11'⟩)
  obtain ⟨L11, hn11, hL11, hO11⟩ : ∃ L11 : List UInt8, L11.length ≤ 131130 ∧ Hid (L11 = L10 ++ Pl.dec z) ∧ Hid (Owns w11 w3.heap.size v11 L11) := ⟨L10 ++ Pl.dec z, by rw [List.length_append]; omega, hide rfl, hide hO11'⟩
  have hbel11 := hbel10.trans hb11'
  have hs11 := hbel11.size
  clear hO10 hO11' hb11' hbel10 hs10 hai hdl
  go_upto_region 20 with (at_builtin; refine wpList_append_own _ rfl _ _ 22 rfl w3.heap.size 5 i0 (.int .u8 0) 1 1 Tryf.underlying22 hi hz0 hz1 hz2 rfl (by decide) _ _ _ rfl (hO11.out.alloc _) ⟨w11.heap.size, 0, none⟩ 1 1 [.int .u8 10] rfl rfl (one_new _ _ _) (fun u hu => by simp at hu; subst hu; rfl) ?c3 ?c4 ?c5 ?_)
  case c3 => unfold maxLen; omega
  case c4 => omega
  case c5 => simp; omega
  intro v12 w12 hown12 hgrow12 _
  obtain ⟨L12, hn12, hL12, hO12⟩ : ∃ L12 : List UInt8, L12.length ≤ 131131 ∧ Hid (L12 = L11 ++ [10]) ∧ Hid (Owns w12 w3.heap.size v12 L12) := ⟨L11 ++ [10], by simp; omega, hide rfl, hide (by
    unfold Owns
    rw [cellsB_app, List.length_append]
    exact hown12)⟩
  have hbel12 : Below w3.heap.size w3 w12 := (hbel11.alloc hs11 _).grown hgrow12 (by simp; omega) (fun k hk => (hO11.out.block k hk).1)
  have hs12 := hbel12.size
  clear hO11 hown12 hgrow12 hbel11 hs11
  go_upto_region 20 with fail
  have hr12 := hide (hrow3.out.below hbel12)
  go_cut [15] (fun v wx => Hid (Owns wx w3.heap.size v (L12 ++ d.drop k)) ∧ Below w3.heap.size w3 wx)
  case first =>
    rcases Nat.decEq n k with hkn | hkn
    · have hrk := hide (hr12.out.drop k)
      have hdl : (d.drop k).length = n - k := by rw [List.length_drop, hl]
      go_wp2_with (at_builtin; refine wpList_append_own _ rfl _ _ 22 rfl w3.heap.size 5 i0 (.int .u8 0) 1 1 Tryf.underlying22 hi hz0 hz1 hz2 rfl (by decide) _ _ _ rfl hO12.out ⟨w2.heap.size, k, none⟩ (n - k) (n - k) (cellsB (d.drop k)) rfl (by rw [cellsB_len, hdl, Nat.mul_one]) (row_news (by have h := hrk.out; rw [Nat.zero_add] at h; exact h)) (cellsB_one _) ?c1 ?c2 hs12 ?_)
      case c1 => unfold maxLen; omega
      case c2 => omega
      intro v13 w13 hown13 hgrow13 _
      go_wp2_with fail
      go_meet
      case rel => exact ⟨hide (by unfold Owns; rw [cellsB_app, List.length_append, hdl]; exact hown13), hbel12.grown hgrow13 hs12 (fun k hk => (hO12.out.block k hk).1)⟩
    · subst hkn
      have hdn : d.drop n = [] := by rw [List.drop_eq_nil_iff, hl]; exact Nat.le_refl _
      go_wp2_with (at_builtin; refine wpList_append_own _ rfl _ _ 22 rfl w3.heap.size 5 i0 (.int .u8 0) 1 1 Tryf.underlying22 hi hz0 hz1 hz2 rfl (by decide) _ _ _ rfl hO12.out ⟨w2.heap.size, 0, none⟩ 0 0 [] rfl rfl (fun j u hj => by simp at hj) (fun u hu => by simp at hu) ?c1 ?c2 hs12 ?_)
      case c1 => unfold maxLen; omega
      case c2 => omega
      intro v13 w13 hown13 hgrow13 _
      go_wp2_with fail
      go_meet
      case rel => exact ⟨hide (by rw [hdn, List.append_nil]; unfold Owns; simpa using hown13), hbel12.grown hgrow13 hs12 (fun k hk => (hO12.out.block k hk).1)⟩
  obtain ⟨hO13, hbel13⟩ := hcut
  have hall : Hid (L12 ++ d.drop k = d.take k ++ (lineOf s.data.toList y z ++ 10 :: d.drop k)) := hide (by
    rw [hL12.out, hL11.out, hL10.out, hL9.out, hL8.out, hL7.out, hL6.out]; unfold lineOf; simp)
  have hlen13 : (L12 ++ d.drop k).length ≤ 200000 := by rw [List.length_append, List.length_drop]; omega
  have hpos13 : 0 < (L12 ++ d.drop k).length := by rw [hL12.out]; simp; omega
  have hlaw := Pl.added_law (d.take k) (d.drop k) (lineOf s.data.toList y z) s.data.toList t.data.toList y z (start_take hl hk hstH.out) (line_no10 hv0.out y z) (line_pm hv0.out y z hy hz y1 y2 z2) (fun e => hts (by cases t; cases s; congr 1; exact Array.toList_inj.1 e))
  rw [List.take_append_drop, ← hall.out] at hlaw
  obtain ⟨gA, cA, hvA, rowA, hcA1, hcA2, hgA1, hgA2⟩ := owns_row hO13.out hpos13
  subst hvA
  have rowAH := hide rowA
  have hlawH := hide hlaw
  generalize hLL : L12 ++ d.drop k = LL at *
  clear hO13 hO12 hL12 hL11 hL10 hL9 hL8 hL7 hL6 rowA hlaw hall hr12 hbel12 hs12 hn12 hn11 hn10 hn9 hn8 hn7 hn6
  clear hLL
  have belA : Below w2.heap.size w2 wc := hb3.trans (hbel13.mono hb3.size)
  have hNc : w2.heap.size < wc.heap.size := Nat.lt_of_lt_of_le hN3 hbel13.size
  have rowD := hide (hrow3.out.below hbel13)
  have hold := hide (zzmarks_any F (some ⟨w2.heap.size, 0, none⟩) n n d wc (by rw [belA.tape]; exact hFH.out) ⟨hl, (fun h => by cases h), fun ad had => ⟨_, _, (Option.some.inj had).symm, rowD.out⟩⟩ (hEH.out.below belA) (by omega) (Nat.le_refl _) (by omega) (fun a ha => by cases ha; exact hNc))
  clear hrow3 hbel13 hb3 hN3 rowD
  cases hm : Pl.marks d with
  | none =>
    go_upto_region 28 with (go_at_call 7; (with_reducible refine (hold.out).mono ?_); rintro ev wB ⟨hres, hbB⟩; obtain ⟨k1, a1, rfl⟩ := MRes_none hres hm)
    have belB := belA.trans (hbB.mono belA.size)
    have rowN := hide (rowAH.out.below hbB)
    have hgN : gA < wB.heap.size := Nat.lt_of_lt_of_le hgA2 hbB.size
    clear hold rowAH hbB
    obtain ⟨q1, q2⟩ | ⟨q1, q2⟩ := cases_eq (n : Int) 0
    · have hd0 : d = [] := List.length_eq_zero_iff.1 (by omega)
      have hL := hlawH.out
      rw [if_pos (.inl hd0), hm] at hL
      obtain ⟨es, hmN, hl1, hl2⟩ := hL
      have hlk1 := hide hl1
      have hlk2 : Hid (Pl.look es t.data.toList = (0, 0, false)) := hide hl2
      clear hlawH hl1 hl2
      have hnew := hide (zzmarks_any F (some ⟨gA, 0, none⟩) LL.length cA LL wB (by rw [belB.tape]; exact hFH.out) ⟨rfl, (fun h => by cases h), fun ad had => ⟨_, _, (Option.some.inj had).symm, rowN.out⟩⟩ (hEH.out.below belB) (by omega) hcA1 hcA2 (fun a ha => by cases ha; exact hgN))
      go_upto_region 33 with (go_at_call 7; (with_reducible refine (hnew.out).mono ?_); rintro ev wC ⟨hres, hbC⟩; obtain ⟨M, rfl, hM1, hM2, hnd, kk, hown⟩ := MRes_some hres hmN)
      have hfl := hide (floor_new hM2 hnd hown)
      have bC := belB.trans (hbC.mono belB.size)
      have hfo := hide (floorOf_any M wC)
      go_upto_region 34 with (go_at_call 9; (with_reducible refine (hfo.out).mono ?_); rintro ev wD ⟨rfl, hwD⟩; rw [hwD]; clear hwD wD)
      clear hfo hnew hbC hown hM1
      obtain ⟨wD, hwD⟩ : ∃ wD, wC.alloc (.cells #[.pointer none, .int .i64 0, .int .i32 0, .int .u32 0, .int .i64 0, .map (some M)] 55) = wD := ⟨_, rfl⟩
      have bD : Below w2.heap.size w2 wD := by rw [← hwD]; exact below_al (Nat.le_refl _) bC
      rw [hwD] at hfl ⊢
      clear hwD
      have hz1' := hide (zzfound_any wC.heap.size es s y z true wD hfl.out (by unfold maxLen; omega) hlk1.out)
      go_upto_region 35 with (go_at_call 8; (with_reducible refine (hz1'.out).mono ?_); rintro ev wE ⟨rfl, hbE⟩)
      have bE := bD.trans (hbE.mono bD.size)
      have hz2' := hide (zzfound_any wC.heap.size es t 0 0 false wE (hfl.out.below hbE) (by unfold maxLen; omega) hlk2.out)
      go_wp2_with (go_at_call 8; (with_reducible refine (hz2'.out).mono ?_); rintro ev wG ⟨rfl, hbG⟩)
      go_ret
      exact ⟨rfl, bE.trans (hbG.mono bE.size)⟩
    · have hdn : d ≠ [] := fun e => by rw [e] at hl; simp at hl; omega
      have hmN := hlawH.out
      rw [hm, if_neg (by simp; exact hdn)] at hmN
      clear hlawH
      have hnew := hide (zzmarks_any F (some ⟨gA, 0, none⟩) LL.length cA LL wB (by rw [belB.tape]; exact hFH.out) ⟨rfl, (fun h => by cases h), fun ad had => ⟨_, _, (Option.some.inj had).symm, rowN.out⟩⟩ (hEH.out.below belB) (by omega) hcA1 hcA2 (fun a ha => by cases ha; exact hgN))
      go_wp2_with (go_at_call 7; (with_reducible refine (hnew.out).mono ?_); rintro ev wC ⟨hres, hbC⟩; obtain ⟨k2, a2', rfl⟩ := MRes_none hres hmN)
      go_ret
      exact ⟨rfl, belB.trans (hbC.mono belB.size)⟩
  | some es0 =>
    have hdn : d ≠ [] := fun e => by rw [e] at hm; cases hm
    have q1 : ((n : Int) == 0) = false := beq_eq_false_iff_ne.2 (fun e => hdn (List.length_eq_zero_iff.1 (by omega)))
    obtain ⟨a1, b1, fd1, hk1⟩ : ∃ a1 b1 fd1, Pl.look es0 s.data.toList = (a1, b1, fd1) := ⟨_, _, _, rfl⟩
    obtain ⟨a2, b2, fd2, hk2⟩ : ∃ a2 b2 fd2, Pl.look es0 t.data.toList = (a2, b2, fd2) := ⟨_, _, _, rfl⟩
    have hk1H := hide hk1
    have hk2H := hide hk2
    clear hk1 hk2
    go_upto_region 25 with (go_at_call 7; (with_reducible refine (hold.out).mono ?_); rintro ev wB ⟨hres, hbB⟩; obtain ⟨M0, rfl, hM01, hM02, hnd0, kk0, hown0⟩ := MRes_some hres hm)
    have belB := belA.trans (hbB.mono belA.size)
    have rowB := hide (rowAH.out.below hbB)
    have hgB : gA < wB.heap.size := Nat.lt_of_lt_of_le hgA2 hbB.size
    have hfl0 := hide (floor_new hM02 hnd0 hown0)
    have hfo0 := hide (floorOf_any M0 wB)
    clear hold rowAH hbB hown0 hM01
    go_upto_region 26 with (go_at_call 9; (with_reducible refine (hfo0.out).mono ?_); rintro ev wD ⟨rfl, hwD⟩; rw [hwD]; clear hwD wD)
    obtain ⟨wF, hwF⟩ : ∃ wF, wB.alloc (.cells #[.pointer none, .int .i64 0, .int .i32 0, .int .u32 0, .int .i64 0, .map (some M0)] 55) = wF := ⟨_, rfl⟩
    have bF0 : Below wB.heap.size wB wF := by rw [← hwF]; exact below_al (Nat.le_refl _) (Below.refl _ wB)
    rw [hwF] at hfl0 ⊢
    clear hwF hfo0
    have bF : Below w2.heap.size w2 wF := belB.trans (bF0.mono belB.size)
    have hy1 := hide (zzfound_any wB.heap.size es0 s a1 b1 fd1 wF hfl0.out (by unfold maxLen; omega) hk1H.out)
    go_upto_region 27 with (go_at_call 8; (with_reducible refine (hy1.out).mono ?_); rintro ev wG ⟨rfl, hbG⟩)
    have bG := bF.trans (hbG.mono bF.size)
    have hy2 := hide (zzfound_any wB.heap.size es0 t a2 b2 fd2 wG (hfl0.out.below hbG) (by unfold maxLen; omega) hk2H.out)
    go_upto_region 28 with (go_at_call 8; (with_reducible refine (hy2.out).mono ?_); rintro ev wH ⟨rfl, hbH⟩)
    have bH := bG.trans (hbH.mono bG.size)
    have rowN := hide (((rowB.out.below bF0).below hbG).below hbH)
    have hgN : gA < wH.heap.size := Nat.lt_of_lt_of_le hgB (Nat.le_trans bF0.size (Nat.le_trans hbG.size hbH.size))
    clear hy1 hy2 hfl0 rowB hgB
    cases fd1 with
    | false =>
      have hL := hlawH.out
      rw [hm] at hL
      have hkk : (Pl.lookO (some es0) s.data.toList).2.2 = false := by show (Pl.look es0 _).2.2 = false; rw [hk1H.out]
      rw [if_pos (.inr ⟨by simp, hkk⟩)] at hL
      obtain ⟨es, hmN, hl1, hl2⟩ := hL
      have hlk1 := hide hl1
      have hlk2 : Hid (Pl.look es t.data.toList = (a2, b2, fd2)) := hide (by rw [hl2]; exact hk2H.out)
      clear hlawH hl1 hl2 hkk
      have hnew := hide (zzmarks_any F (some ⟨gA, 0, none⟩) LL.length cA LL wH (by rw [bH.tape]; exact hFH.out) ⟨rfl, (fun h => by cases h), fun ad had => ⟨_, _, (Option.some.inj had).symm, rowN.out⟩⟩ (hEH.out.below bH) (by omega) hcA1 hcA2 (fun a ha => by cases ha; exact hgN))
      go_upto_region 33 with (go_at_call 7; (with_reducible refine (hnew.out).mono ?_); rintro ev wC ⟨hres, hbC⟩; obtain ⟨M, rfl, hM1, hM2, hnd, kk, hown⟩ := MRes_some hres hmN)
      have hfl := hide (floor_new hM2 hnd hown)
      have bC := bH.trans (hbC.mono bH.size)
      have hfo := hide (floorOf_any M wC)
      go_upto_region 34 with (go_at_call 9; (with_reducible refine (hfo.out).mono ?_); rintro ev wD ⟨rfl, hwD⟩; rw [hwD]; clear hwD wD)
      clear hfo hnew hbC hown hM1
      obtain ⟨wD, hwD⟩ : ∃ wD, wC.alloc (.cells #[.pointer none, .int .i64 0, .int .i32 0, .int .u32 0, .int .i64 0, .map (some M)] 55) = wD := ⟨_, rfl⟩
      have bD : Below w2.heap.size w2 wD := by rw [← hwD]; exact below_al (Nat.le_refl _) bC
      rw [hwD] at hfl ⊢
      clear hwD
      have hz1' := hide (zzfound_any wC.heap.size es s y z true wD hfl.out (by unfold maxLen; omega) hlk1.out)
      go_upto_region 35 with (go_at_call 8; (with_reducible refine (hz1'.out).mono ?_); rintro ev wE ⟨rfl, hbE⟩)
      have bE := bD.trans (hbE.mono bD.size)
      have hz2' := hide (zzfound_any wC.heap.size es t a2 b2 fd2 wE (hfl.out.below hbE) (by unfold maxLen; omega) hlk2.out)
      go_wp2_with (go_at_call 8; (with_reducible refine (hz2'.out).mono ?_); rintro ev wG ⟨rfl, hbG⟩)
      go_ret
      exact ⟨rfl, bE.trans (hbG.mono bE.size)⟩
    | true =>
      have hmN := hlawH.out
      have hkk : (Pl.lookO (some es0) s.data.toList).2.2 = true := by show (Pl.look es0 _).2.2 = true; rw [hk1H.out]
      rw [hm, if_neg (by rw [hkk]; simp; exact hdn)] at hmN
      clear hlawH hkk
      have hnew := hide (zzmarks_any F (some ⟨gA, 0, none⟩) LL.length cA LL wH (by rw [bH.tape]; exact hFH.out) ⟨rfl, (fun h => by cases h), fun ad had => ⟨_, _, (Option.some.inj had).symm, rowN.out⟩⟩ (hEH.out.below bH) (by omega) hcA1 hcA2 (fun a ha => by cases ha; exact hgN))
      go_wp2_with (go_at_call 7; (with_reducible refine (hnew.out).mono ?_); rintro ev wC ⟨hres, hbC⟩; obtain ⟨k2, a2', rfl⟩ := MRes_none hres hmN)
      go_ret
      exact ⟨rfl, bH.trans (hbC.mono bH.size)⟩
end Go.Proofs.Qxb6608740aFmt
