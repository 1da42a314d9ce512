/-
  SEAT b6608740aD: the walk of the law FnParseMarkReadsWhatIsWritten: it returns true.
-/
import Derived.Test.Qxb6608740aDoorMark
import Derived.Test.Qxb6608740aDoorDec
import Derived.Lib.AppendStr
import Derived.OwnWalk
import Derived.BigQuiet
import Derived.Deep.QuietTactic
namespace Go.Proofs.Qxb6608740aDoor
open Go.RowKit Go.PlainAid

theorem guard_short (s : ByteArray) (x y : Int) (w : World) (hs : (s.size : Int) ≤ 1048576) :
    Calls Tryd.prog 8 #[.string s, .int .i64 x, .int .i64 y] w fun e w' => e = .returned (.bool true) ∧ w' = w := by
  go_enter Tryd.func8, Tryd.ntmps8
  go_wp2_with fail
  go_ret
  exact ⟨rfl, rfl⟩
theorem guard_long (s : ByteArray) (x y : Int) (w : World) (hs : 1048576 < (s.size : Int)) :
    Calls Tryd.prog 8 #[.string s, .int .i64 x, .int .i64 y] w fun e w' => e = .returned (.bool false) ∧ w' = w := by
  go_enter Tryd.func8, Tryd.ntmps8
  go_wp2_with fail
  go_ret
  exact ⟨rfl, rfl⟩

set_option maxRecDepth 100000 in
set_option maxHeartbeats 1000000 in
theorem zzmark_any (b o c : Nat) (l : List UInt8) (n : Nat) (w : World) (r1 : ByteArray) (r2 r3 : Int) (r4 : Bool) (hpm : Hid (Pl.pm l = (r1.data.toList, r2, r3, r4))) (hl : Hid (l.length = n)) (hr : RowAt w b o l) (hE : Env w) (hn : n ≤ 1048576) (hcap : n ≤ c) (hc : c ≤ 9223372036854775807) (hbk : b < w.heap.size) :
    Calls Tryd.prog 7 #[.slice (some ⟨b, o, none⟩) n c] w fun e w' => e = .returned (.tuple #[.string r1, .int .i64 r2, .int .i64 r3, .bool r4]) ∧ Below w.heap.size w w' := by
  have hrH := hide hr
  have hEH := hide hE
  clear hr hE
  go_enter Tryd.func7, Tryd.ntmps7
  go_wp2_with (go_at_call 13; refine (mark_any b o c l n _ hl hrH.out hEH.out hn hcap hc hbk).mono ?_; rintro ev w1 ⟨rfl, hb1⟩; rw [hpm.out])
  go_quiet (fail)
  go_wp2
  refine bodyPost_ret (v := .tuple #[.string r1, .int .i64 r2, .int .i64 r3, .bool r4]) (by simp [results, Tryd.results7, go_sem]) rfl ⟨rfl, ?_⟩
  exact below_drewN (hb1.alloc hb1.size _) _

theorem strCells_eq (s : ByteArray) : Lib.strCells s = cellsB s.data.toList := rfl
theorem owns_row {w : World} {base : Nat} {v : Value} {l : List UInt8} (h : Owns w base v l) (h0 : 0 < l.length) : ∃ g c, v = .slice (some ⟨g, 0, none⟩) l.length c ∧ RowAt w g 0 l ∧ l.length ≤ c ∧ c ≤ 9223372036854775807 ∧ base ≤ g ∧ g < w.heap.size := by
  rcases h.2 with ⟨_, h1⟩ | ⟨g, cap, cur, hv, hb, hg, hn, hc, _⟩
  · omega
  · subst hv
    refine ⟨g, cap, rfl, ?_, hn, hc, hb, (Array.getElem?_eq_some_iff.1 hg).1⟩
    intro i hi
    have := World.ownsRow.cellAt h i (by omega)
    rw [Nat.zero_add, this]
    unfold cellsB
    rw [List.getElem?_map, List.getElem?_eq_getElem hi, Pl.B_get l i hi]; rfl
theorem written_parts (s : ByteArray) (st sq : Int) (h1 : -9223372036854775808 ≤ st) (h2 : st ≤ 9223372036854775807) (h3 : -9223372036854775808 ≤ sq) (h4 : sq ≤ 9223372036854775807) :
    Hid (Pl.pm (s.data.toList ++ [32] ++ Pl.dec st ++ [32] ++ Pl.dec sq) = if Pl.validName s.data.toList = true ∧ st ≠ -9223372036854775808 ∧ 0 ≤ sq then (s.data.toList, st, sq, true) else ([], 0, 0, false)) := by
  have := Pl.written s.data.toList st sq h1 h2 h3 h4
  unfold Pl.bad at this
  exact hide (by simpa using this)

set_option maxRecDepth 100000 in
set_option maxHeartbeats 1000000 in
theorem law_main (s : ByteArray) (st sq : Int) (w : World) (hE : Env w) (hs : s.size ≤ 65536) (h1 : -9223372036854775808 ≤ st) (h2 : st ≤ 9223372036854775807) (h3 : -9223372036854775808 ≤ sq) (h4 : sq ≤ 9223372036854775807) :
    Calls Tryd.prog 4 #[.string s, .int .i64 st, .int .i64 sq] w fun ev w' => ev = .returned (.bool true) ∧ Below w.heap.size w w' := by
  obtain ⟨i0, hi, hz0, hz1, hz2⟩ := info_parts Tryd.info5
  have hEH := hide hE
  clear hE
  go_enter Tryd.func4, Tryd.ntmps4
  go_upto_region 6 with (first
    | (go_at_call 8; refine (guard_short s st sq _ (by omega)).mono ?_; rintro ev w ⟨rfl, rfl⟩)
    | (at_make; refine wpList_make_own _ rfl _ _ 22 rfl w.heap.size 5 i0 (.int .u8 0) 1 Tryd.underlying22 hi hz0 hz1 .i64 .i64 ((s.size : Int) + 44) (s.size + 44) rfl rfl (by omega) (by rw [hz2]; omega) (by unfold maxLen; omega) (Nat.le_refl _) ?_; intro w1 hown1 hgrow1))
  have hbel1 : Below w.heap.size w w1 := (Below.refl w.heap.size w).grown hgrow1 (Nat.le_refl _) (fun k hk => by cases hk)
  have hs1 := hbel1.size
  have hownA := hide hown1
  clear hown1 hgrow1
  go_upto_region 7 with (at_builtin; refine Lib.wpList_append_own_string _ rfl _ _ 22 9 rfl w.heap.size 5 i0 Tryd.underlying22 Tryd.underlying9 hi hz0 hz1 hz2 _ _ _ rfl hownA.out s rfl ?c1 ?c2 ?c3 ?_)
  case c1 => unfold maxLen; omega
  case c2 => omega
  case c3 => exact hs1
  intro v2 w2 hown2 hgrow2 _
  obtain ⟨L2, hn2, hL2, hO2⟩ : ∃ L2 : List UInt8, L2.length ≤ 65536 ∧ Hid (L2 = s.data.toList) ∧ Hid (Owns w2 w.heap.size v2 L2) := ⟨s.data.toList, by simpa using hs, hide rfl, by
    unfold Owns
    rw [← strCells_eq, show s.data.toList.length = s.size from rfl]
    exact hide (by simpa using hown2)⟩
  have hbel2 : Below w.heap.size w w2 := hbel1.grown hgrow2 hs1 (fun k hk => (World.ownsRow.lt hownA.out k hk).1)
  have hs2 := hbel2.size
  clear hownA hown2 hgrow2 hs1 hbel1
  go_upto_region 8 with (at_builtin; refine wpList_append_own _ rfl _ _ 22 rfl w.heap.size 5 i0 (.int .u8 0) 1 1 Tryd.underlying22 hi hz0 hz1 hz2 rfl (by decide) _ _ _ rfl (hO2.out.alloc _) ⟨w2.heap.size, 0, none⟩ 1 1 [.int .u8 32] rfl rfl ?c1 ?c2 ?c3 ?c4 ?c5 ?_)
  case c1 =>
    intro j u hj
    match j, hj with
    | 0, hj => simp at hj; subst hj; simp [Addr.add]
  case c2 => intro u hu; simp at hu; subst hu; rfl
  case c3 => unfold maxLen; omega
  case c4 => omega
  case c5 => simp; omega
  intro v3 w3 hown3 hgrow3 _
  obtain ⟨L3, hn3, hL3, hO3⟩ : ∃ L3 : List UInt8, L3.length ≤ 65537 ∧ Hid (L3 = L2 ++ [32]) ∧ Hid (Owns w3 w.heap.size v3 L3) := ⟨L2 ++ [32], by simp; omega, hide rfl, by
    unfold Owns
    rw [cellsB_app, List.length_append]
    exact hown3⟩
  have hbel3 : Below w.heap.size w w3 := (hbel2.alloc hs2 _).grown hgrow3 (by simp; omega) (fun k hk => (hO2.out.block k hk).1)
  have hs3 := hbel3.size
  clear hO2 hown3 hgrow3 hbel2 hs2
  go_upto_region 9 with (go_at_call 9; refine (appendInt_any w.heap.size v3 L3 st _ hO3.out hs3 (by omega) h1 h2).mono ?_; rintro ev w4 ⟨v4, rfl, hO4', hb4'⟩)
  have hds := Pl.dec_len st
  have hdq := Pl.dec_len sq
  obtain ⟨L4, hn4, hL4, hO4⟩ : ∃ L4 : List UInt8, L4.length ≤ 65600 ∧ Hid (L4 = L3 ++ Pl.dec st) ∧ Hid (Owns w4 w.heap.size v4 L4) := ⟨L3 ++ Pl.dec st, by simp; omega, hide rfl, hO4'⟩
  have hbel4 := hbel3.trans hb4'
  have hs4 := hbel4.size
  clear hO3 hO4' hb4' hbel3 hs3
  go_upto_region 10 with (at_builtin; refine wpList_append_own _ rfl _ _ 22 rfl w.heap.size 5 i0 (.int .u8 0) 1 1 Tryd.underlying22 hi hz0 hz1 hz2 rfl (by decide) _ _ _ rfl (hO4.out.alloc _) ⟨w4.heap.size, 0, none⟩ 1 1 [.int .u8 32] rfl rfl ?c1 ?c2 ?c3 ?c4 ?c5 ?_)
  case c1 =>
    intro j u hj
    match j, hj with
    | 0, hj => simp at hj; subst hj; simp [Addr.add]
  case c2 => intro u hu; simp at hu; subst hu; rfl
  case c3 => unfold maxLen; omega
  case c4 => omega
  case c5 => simp; omega
  intro v5 w5 hown5 hgrow5 _
  obtain ⟨L5, hn5, hL5, hO5⟩ : ∃ L5 : List UInt8, L5.length ≤ 65601 ∧ Hid (L5 = L4 ++ [32]) ∧ Hid (Owns w5 w.heap.size v5 L5) := ⟨L4 ++ [32], by simp; omega, hide rfl, by
    unfold Owns
    rw [cellsB_app, List.length_append]
    exact hown5⟩
  have hbel5 : Below w.heap.size w w5 := (hbel4.alloc hs4 _).grown hgrow5 (by simp; omega) (fun k hk => (hO4.out.block k hk).1)
  have hs5 := hbel5.size
  clear hO4 hown5 hgrow5 hbel4 hs4
  go_upto_region 11 with (go_at_call 9; refine (appendInt_any w.heap.size v5 L5 sq _ hO5.out hs5 (by omega) h3 h4).mono ?_; rintro ev w6 ⟨v6, rfl, hO6', hb6'⟩)
  have hbel6 := hbel5.trans hb6'
  obtain ⟨L6, hn6, hn6', hL6, hO6⟩ : ∃ L6 : List UInt8, L6.length ≤ 65700 ∧ 0 < L6.length ∧ Hid (L6 = s.data.toList ++ [32] ++ Pl.dec st ++ [32] ++ Pl.dec sq) ∧ Hid (Owns w6 w.heap.size v6 L6) :=
    ⟨L5 ++ Pl.dec sq, by simp; omega, by rw [hL5.out]; simp; omega, hide (by rw [hL5.out, hL4.out, hL3.out, hL2.out]), hO6'⟩
  clear hO5 hO6' hb6' hbel5 hs5 hL5 hL4 hL3 hL2
  have hE6 := hide (hEH.out.below hbel6)
  obtain ⟨g, c, rfl, hrow, hcap, hc63, hg1, hg2⟩ := owns_row hO6.out hn6'
  have hrowH := hide hrow
  clear hrow hO6
  have hW := written_parts s st sq h1 h2 h3 h4
  rw [← hL6.out] at hW
  by_cases hok : Pl.validName s.data.toList = true ∧ st ≠ -9223372036854775808 ∧ 0 ≤ sq
  · have hpm : Hid (Pl.pm L6 = (s.data.toList, st, sq, true)) := hide (by rw [hW.out, if_pos hok])
    obtain ⟨hv, hst, hsq⟩ := hok
    have hvH := hide hv
    have hq1 : (st == -9223372036854775808) = false := beq_eq_false_iff_ne.2 hst
    clear hv hW hL6
    go_wp2_with (first
      | (go_at_call 7; refine (zzmark_any g 0 c L6 _ _ s st sq true hpm (hide rfl) hrowH.out hE6.out (by omega) hcap hc63 hg2).mono ?_; rintro ev w7 ⟨rfl, hb7⟩)
      | (go_at_call 10; refine (validName_any s _ (by unfold maxLen; omega)).mono ?_; rintro ev w8 ⟨rfl, rfl⟩; rw [hvH.out]))
    go_ret
    exact ⟨rfl, hbel6.trans (hb7.mono hbel6.size)⟩
  · have hpm : Hid (Pl.pm L6 = ((⟨#[]⟩ : ByteArray).data.toList, 0, 0, false)) := hide (by rw [hW.out, if_neg hok])
    clear hW hL6
    obtain ⟨vn, hvn⟩ : ∃ vn, Pl.validName s.data.toList = vn := ⟨_, rfl⟩
    have hvH := hide hvn
    rw [hvn] at hok
    clear hvn
    cases vn
    · go_wp2_with (first
        | (go_at_call 7; refine (zzmark_any g 0 c L6 _ _ ⟨#[]⟩ 0 0 false hpm (hide rfl) hrowH.out hE6.out (by omega) hcap hc63 hg2).mono ?_; rintro ev w7 ⟨rfl, hb7⟩)
        | (go_at_call 10; refine (validName_any s _ (by unfold maxLen; omega)).mono ?_; rintro ev w8 ⟨rfl, rfl⟩; rw [hvH.out]))
      go_ret
      exact ⟨rfl, hbel6.trans (hb7.mono hbel6.size)⟩
    · by_cases hst : st = -9223372036854775808
      · subst hst
        go_wp2_with (first
          | (go_at_call 7; refine (zzmark_any g 0 c L6 _ _ ⟨#[]⟩ 0 0 false hpm (hide rfl) hrowH.out hE6.out (by omega) hcap hc63 hg2).mono ?_; rintro ev w7 ⟨rfl, hb7⟩)
          | (go_at_call 10; refine (validName_any s _ (by unfold maxLen; omega)).mono ?_; rintro ev w8 ⟨rfl, rfl⟩; rw [hvH.out]))
        go_ret
        exact ⟨rfl, hbel6.trans (hb7.mono hbel6.size)⟩
      · have hsq : sq < 0 := by
          rcases Int.lt_or_le sq 0 with h | h
          · exact h
          · exact absurd ⟨rfl, hst, h⟩ hok
        have hq1 : (st == -9223372036854775808) = false := beq_eq_false_iff_ne.2 hst
        go_wp2_with (first
          | (go_at_call 7; refine (zzmark_any g 0 c L6 _ _ ⟨#[]⟩ 0 0 false hpm (hide rfl) hrowH.out hE6.out (by omega) hcap hc63 hg2).mono ?_; rintro ev w7 ⟨rfl, hb7⟩)
          | (go_at_call 10; refine (validName_any s _ (by unfold maxLen; omega)).mono ?_; rintro ev w8 ⟨rfl, rfl⟩; rw [hvH.out]))
        go_ret
        exact ⟨rfl, hbel6.trans (hb7.mono hbel6.size)⟩

set_option maxRecDepth 100000 in
theorem law_walk (s : ByteArray) (st sq : Int) (w : World) (hE : Env w) (h1 : -9223372036854775808 ≤ st) (h2 : st ≤ 9223372036854775807) (h3 : -9223372036854775808 ≤ sq) (h4 : sq ≤ 9223372036854775807) :
    Calls Tryd.prog 4 #[.string s, .int .i64 st, .int .i64 sq] w fun ev w' => ev = .returned (.bool true) ∧ Below w.heap.size w w' := by
  by_cases hs : s.size ≤ 65536
  · exact law_main s st sq w hE hs h1 h2 h3 h4
  · by_cases hs2 : (s.size : Int) ≤ 1048576
    · go_enter Tryd.func4, Tryd.ntmps4
      go_wp2_with (go_at_call 8; refine (guard_short s st sq _ hs2).mono ?_; rintro ev w' ⟨rfl, rfl⟩)
      go_ret
      exact ⟨rfl, Below.refl _ _⟩
    · go_enter Tryd.func4, Tryd.ntmps4
      go_wp2_with (go_at_call 8; refine (guard_long s st sq _ (by omega)).mono ?_; rintro ev w' ⟨rfl, rfl⟩)
      go_ret
      exact ⟨rfl, Below.refl _ _⟩
end Go.Proofs.Qxb6608740aDoor
