/-
  WALK: zzMarksModel: the model's reader of a marks file computes 'marks' and 'look'.
-/
import Derived.Test.Qxb6608740aFmtScan
import Derived.Test.Qxb6608740aFmtDec
import Derived.Test.Qxb6608740aFmtLines
namespace Go.Proofs.Qxb6608740aFmt
open Go.RowKit Go.PlainAid
set_option linter.unusedSimpArgs false

/-! ### plain -/
/-- The lines from place i of the body on. -/
def restL (bd : List UInt8) (i : Nat) : List (List UInt8) := if i ≤ bd.length then Pl.lines (bd.drop i) else []
theorem restL_zero (bd : List UInt8) : restL bd 0 = Pl.lines bd := by
  unfold restL; rw [if_pos (Nat.zero_le _), List.drop_zero]
theorem restL_past {bd : List UInt8} {i : Nat} (h : ¬ i ≤ bd.length) : restL bd i = [] := by
  unfold restL; rw [if_neg h]
theorem restL_step {bd x r : List UInt8} {i : Nat} (hi : i ≤ bd.length) (hd : bd.drop i = x ++ r) (hx : (10 : UInt8) ∉ x) (hr : r = [] ∨ ∃ r', r = 10 :: r') : restL bd i = x :: restL bd (i + x.length + 1) := by
  have hlen : bd.length - i = x.length + r.length := by rw [← List.length_drop, hd, List.length_append]
  rw [restL, if_pos hi, hd]
  rcases hr with rfl | ⟨r', rfl⟩
  · rw [List.append_nil, Pl.lines_none x hx, restL_past]
    simp at hlen
    omega
  · rw [Pl.lines_app, Pl.lines_none x hx]
    simp at hlen
    unfold restL
    rw [if_pos (by omega)]
    have e : bd.drop (i + x.length + 1) = r' := by
      rw [show i + x.length + 1 = i + (x.length + 1) by omega, ← List.drop_drop, hd]
      simp
    rw [e]; rfl
theorem look_snoc_same {es : List Pl.Ent} {e : Pl.Ent} (h : e.1 ∉ Pl.names es) : Pl.look (es ++ [e]) e.1 = (e.2.1, e.2.2, true) := Pl.look_mid_same es [] e h
theorem look_snoc_other {es : List Pl.Ent} {e : Pl.Ent} {nm : List UInt8} (h : e.1 ≠ nm) : Pl.look (es ++ [e]) nm = Pl.look es nm := by
  rw [Pl.look_mid_other es [] e nm h, List.append_nil]
theorem str_eq (a b : ByteArray) : (a.toList == b.toList) = decide (a.data.toList = b.data.toList) := by
  rw [Lib.toList_data, Lib.toList_data]
  by_cases h : a.data.toList = b.data.toList
  · rw [h]; simp
  · rw [decide_eq_false h, beq_eq_false_iff_ne]; exact h
theorem marks_nl (bd : List UInt8) : Pl.marks (bd ++ [10]) = Pl.fold (Pl.lines bd) [] := by
  unfold Pl.marks; rw [Pl.lnsO_snoc]

theorem fold_step {x pn : List UInt8} {p1 p2 : Int} {ok : Bool} {xs : List (List UInt8)} {es : List Pl.Ent} {M : Option (List Pl.Ent)} (h : Pl.fold (x :: xs) es = M) (hp : Pl.pm x = (pn, p1, p2, ok)) : (if ok = true ∧ pn ∉ Pl.names es then Pl.fold xs (es ++ [(pn, p1, p2)]) else none) = M := by
  rw [← h, Pl.fold]
  unfold Pl.okL Pl.ent
  rw [hp]

/-! ### the row of names -/
def cellsS (es : List Pl.Ent) : List Value := es.map fun e => Value.string ⟨e.1.toArray⟩
theorem cellsS_len (es : List Pl.Ent) : (cellsS es).length = es.length := by unfold cellsS; simp
theorem cellsS_snoc (es : List Pl.Ent) (e : Pl.Ent) : cellsS (es ++ [e]) = cellsS es ++ [.string ⟨e.1.toArray⟩] := by unfold cellsS; simp
theorem names_len (es : List Pl.Ent) : (Pl.names es).length = es.length := by unfold Pl.names; simp
theorem cellsS_get (es : List Pl.Ent) (k : Nat) (h : k < es.length) : (cellsS es)[k]? = some (.string ⟨((Pl.names es).getD k []).toArray⟩) := by
  unfold cellsS Pl.names
  rw [List.getElem?_map, List.getElem?_eq_getElem h, List.getD_eq_getElem?_getD, List.getElem?_map, List.getElem?_eq_getElem h]; rfl
theorem mem_names (es : List Pl.Ent) (nm : List UInt8) : nm ∈ Pl.names es ↔ ∃ k, k < es.length ∧ (Pl.names es).getD k [] = nm := by
  constructor
  · intro h
    obtain ⟨k, hk, e⟩ := List.getElem_of_mem h
    refine ⟨k, by rw [names_len] at hk; exact hk, ?_⟩
    rw [List.getD_eq_getElem?_getD, List.getElem?_eq_getElem hk]; exact e
  · rintro ⟨k, hk, rfl⟩
    have hk' : k < (Pl.names es).length := by rw [names_len]; exact hk
    rw [List.getD_eq_getElem?_getD, List.getElem?_eq_getElem hk']
    exact List.getElem_mem hk'
theorem Tryf.info9 : (Tryf.prog.info? 9).map (fun i => (i.zero, i.size, i.bytes)) = some (some (.string ⟨#[]⟩), 1, 16) := by kernel_rfl
theorem own_belowS {w w' : World} {base n : Nat} {v : Value} {xs : List Value} (h : w.ownsRow base 9 1 v n xs) (hb : Below w.heap.size w w') : w'.ownsRow base 9 1 v n xs := by
  refine ⟨h.1, ?_⟩
  rcases h.2 with h0 | ⟨g, cap, cur, hv, hbg, hg, hrest⟩
  · exact .inl h0
  · refine .inr ⟨g, cap, cur, hv, hbg, ?_, hrest⟩
    rw [hb.block g (Array.getElem?_eq_some_iff.1 hg).1]; exact hg

theorem ret_mm {o : Option (List Pl.Ent)} {nm : List UInt8} {v : Bool} {x y : Int} {k : Bool} (h1 : o.isSome = v) (h2 : Pl.lookO o nm = (x, y, k)) :
    Ending.returned (.tuple #[.bool v, .int .i64 x, .int .i64 y, .bool k]) = .returned (.tuple #[.bool o.isSome, .int .i64 (Pl.lookO o nm).1, .int .i64 (Pl.lookO o nm).2.1, .bool (Pl.lookO o nm).2.2]) := by rw [h1, h2]

theorem marks_bad_last {d : List UInt8} (h : d.getLast? ≠ some 10) : Pl.marks d = none := by
  unfold Pl.marks Pl.lnsO; rw [if_neg h]

def MM (d : List UInt8) (nm : ByteArray) (w : World) (e : Ending) (w' : World) : Prop := e = .returned (.tuple #[.bool (Pl.marks d).isSome, .int .i64 (Pl.lookO (Pl.marks d) nm.data.toList).1, .int .i64 (Pl.lookO (Pl.marks d) nm.data.toList).2.1, .bool (Pl.lookO (Pl.marks d) nm.data.toList).2.2]) ∧ Below w.heap.size w w'
theorem MM_none {d : List UInt8} {nm : ByteArray} {w w' : World} (h : Pl.marks d = none) (hb : Below w.heap.size w w') : MM d nm w (.returned (.tuple #[.bool false, .int .i64 0, .int .i64 0, .bool false])) w' :=
  ⟨ret_mm (by rw [h]; rfl) (by rw [h]; rfl), hb⟩

set_option maxHeartbeats 1000000 in
theorem model_nil (nm : ByteArray) (w : World) : Calls Tryf.prog 6 #[.slice none 0 0, .string nm] w (MM [] nm w) := by
  go_enter Tryf.func6, Tryf.ntmps6
  go_wp2
  exact bodyPost_ret (v := .tuple #[.bool false, .int .i64 0, .int .i64 0, .bool false]) (by simp [results, Tryf.results6, go_sem]) rfl (MM_none rfl (Below.refl _ _))

set_option maxHeartbeats 1000000 in
theorem model_last (b o n c : Nat) (d : List UInt8) (nm : ByteArray) (w : World) (hl : d.length = n) (hr : RowAt w b o d) (hd : d.getLast? ≠ some 10) (hn : n ≤ 65536) :
    Calls Tryf.prog 6 #[.slice (some ⟨b, o, none⟩) n c, .string nm] w (MM d nm w) := by
  have hbad := hide (marks_bad_last hd)
  rcases Nat.eq_zero_or_pos n with h0 | h0
  · subst h0
    clear hr hl
    go_enter Tryf.func6, Tryf.ntmps6
    go_wp2
    exact bodyPost_ret (v := .tuple #[.bool false, .int .i64 0, .int .i64 0, .bool false]) (by simp [results, Tryf.results6, go_sem]) rfl (MM_none hbad.out (Below.refl _ _))
  · obtain ⟨m, rfl⟩ : ∃ m, n = m + 1 := ⟨n - 1, by omega⟩
    have hcm := hr m (by rw [hl]; omega)
    obtain ⟨y, hy⟩ : ∃ y, Pl.B d m = y := ⟨_, rfl⟩
    rw [hy] at hcm
    have hy10 : (y != 10) = true := by
      rw [bne_iff_ne]
      rintro rfl
      apply hd
      have hm : m < d.length := by rw [hl]; omega
      rw [Pl.B_get d m hm] at hy
      have hdl : d ≠ [] := fun e => by rw [e] at hm; simp at hm
      rw [List.getLast?_eq_getElem?, show d.length - 1 = m by rw [hl]; omega, List.getElem?_eq_getElem hm]
      congr 1
      exact UInt8.toNat_inj.1 (by have : (10 : UInt8).toNat = 10 := rfl; omega)
    clear hr hl hd
    go_enter Tryf.func6, Tryf.ntmps6
    go_wp2
    exact bodyPost_ret (v := .tuple #[.bool false, .int .i64 0, .int .i64 0, .bool false]) (by simp [results, Tryf.results6, go_sem]) rfl (MM_none hbad.out (Below.refl _ _))

set_option maxRecDepth 100000 in
set_option maxHeartbeats 4000000 in
theorem model_ok (b o m c : Nat) (bd : List UInt8) (nm : ByteArray) (w : World) (hl : bd.length = m) (hr : RowAt w b o (bd ++ [10])) (hm : m ≤ 65536) (hcap : m + 1 ≤ c) (hc : c ≤ 9223372036854775807) (hbk : b < w.heap.size) :
    Calls Tryf.prog 6 #[.slice (some ⟨b, o, none⟩) (m + 1) c, .string nm] w (MM (bd ++ [10]) nm w) := by
  obtain ⟨M, hM⟩ : ∃ M, Pl.fold (Pl.lines bd) [] = M := ⟨_, rfl⟩
  have hMM : Hid (Pl.marks (bd ++ [10]) = M) := hide (by rw [marks_nl]; exact hM)
  have hMH := hide hM
  clear hM
  obtain ⟨i0, hi, hz0, hz1, hz2⟩ := info_parts Tryf.info9
  have hcelm : w.cell? ⟨b, o + m, none⟩ = some (.int .u8 10) := by
    have h := hr m (by simp; omega)
    have e : Pl.B (bd ++ [10]) m = 10 := by
      have := Pl.B_right bd [10] 0
      rw [Nat.add_zero, hl] at this
      rw [this]; rfl
    rwa [e] at h
  have hrow : Hid (RowAt w b o bd) := hide (RowAt.piece (p := []) (q := bd) (r := [10]) (by rw [List.nil_append]; exact hr))
  have hlH := hide hl
  clear hr hl
  go_enter Tryf.func6, Tryf.ntmps6
  go_wp2_with (at_make; refine wpList_make_own _ rfl _ _ 39 rfl w.heap.size 9 i0 (.string ⟨#[]⟩) 1 Tryf.underlying39 hi hz0 hz1 .i64 .i64 8 8 rfl rfl (by omega) (by rw [hz2]; omega) (by unfold maxLen; omega) (Nat.le_refl _) ?_; intro w1 hown1 hgrow1)
  have hbel1 : Below w.heap.size w w1 := (Below.refl w.heap.size w).grown hgrow1 (Nat.le_refl _) (fun k hk => by cases hk)
  clear hcelm hgrow1
  go_loopw [10, 11, 12, 13, 14] (fun sv av bv fv iv W => ∃ (i : Nat) (es : List Pl.Ent) (g cp : Nat) (a1 a2 : Int) (fd : Bool), sv = .slice (some ⟨g, 0, none⟩) es.length cp ∧ av = .int .i64 a1 ∧ bv = .int .i64 a2 ∧ fv = .bool fd ∧ iv = .int .i64 i ∧ i ≤ m + 1 ∧ es.length ≤ i ∧ Hid (W.ownsRow w.heap.size 9 1 (.slice (some ⟨g, 0, none⟩) es.length cp) es.length (cellsS es)) ∧ Below w.heap.size w W ∧ Hid (Pl.look es nm.data.toList = (a1, a2, fd)) ∧ Hid (Pl.fold (restL bd i) es = M)) (fun _ _ _ _ iv _ => m + 1 - (intOf iv).toNat)
  case atStart => exact ⟨0, [], w.heap.size, 8, 0, 0, false, rfl, rfl, rfl, rfl, rfl, by omega, by simp, hide hown1, hbel1, hide rfl, hide (by rw [restL_zero]; exact hMH.out)⟩
  case round =>
    obtain ⟨i, es, g, cp, a1, a2, fd, rfl, rfl, rfl, rfl, rfl, him, hei, hown, belW, hlk, hfo⟩ := hrel
    clear hown1 hbel1
    by_cases hle : i ≤ m
    · obtain ⟨x, r, hxr, hx, hrr⟩ := cut_at 10 (bd.drop i)
      obtain ⟨xl, hxl0⟩ : ∃ xl, x.length = xl := ⟨_, rfl⟩
      have hxl := hide hxl0
      have hlen : Hid (i + xl + r.length = m) := hide (by
        have h := congrArg List.length hxr
        rw [List.length_drop, List.length_append, hlH.out, hxl0] at h
        omega)
      have hxm : i + xl ≤ m := by have := hlen.out; omega
      have hbd : bd = bd.take i ++ x ++ r := by rw [List.append_assoc, ← hxr, List.take_append_drop]
      have hti : (bd.take i).length = i := by rw [List.length_take, hlH.out]; omega
      have hrW : RowAt wr b o bd := hrow.out.below_le belW hbk
      have hrowX : Hid (RowAt wr b (o + i) x) := hide (by
        have h := RowAt.piece (p := bd.take i) (q := x) (r := r) (by rw [← hbd]; exact hrW)
        rwa [hti] at h)
      have hcel : Hid (∀ k, k < xl → wr.cell? ⟨b, o + (i + k), none⟩ = some (.int .u8 (Pl.B x k))) := hide fun k hk => by
        have h := hrowX.out k (by rw [hxl0]; exact hk)
        rwa [Nat.add_assoc] at h
      have hend : Hid (i + xl = m ∨ (i + xl < m ∧ wr.cell? ⟨b, o + (i + xl), none⟩ = some (.int .u8 10))) := by
        rcases hrr with rfl | ⟨r', rfl⟩
        · exact .inl (by have := hlen.out; simpa using this)
        · have hlt : i + xl < m := by have := hlen.out; simp at this; omega
          refine .inr ⟨hlt, ?_⟩
          have h := hrW (i + xl) (by rw [hlH.out]; exact hlt)
          have e : Pl.B bd (i + xl) = 10 := by
            have h1 := Pl.B_right (bd.take i ++ x) (10 :: r') 0
            rw [← hbd, List.length_append, hti, hxl0, Nat.add_zero] at h1
            rw [h1]; rfl
          rwa [e] at h
      have hstep : Hid (Pl.fold (x :: restL bd (i + xl + 1)) es = M) := hide (by
        rw [← hfo.out, restL_step (by rw [hlH.out]; exact hle) hxr hx hrr, hxl0])
      have hne := B_ne hx
      have hbn : ((UInt8.toNat 10 : Nat) : Int) = 10 := rfl
      rw [hbn, hxl0] at hne
      have hneH := hide hne
      have b0 := Pl.B_nonneg x
      have b1 := Pl.B_le x
      clear hbn hne hxl0 hrr hxr hbd hti hrW hfo hlen
      go_upto_block 2 with fail
      go_cut [15] from 43 to 55 (fun jv w' => jv = .int .i64 ((i : Int) + xl) ∧ w' = wr)
      case first =>
        go_wp2_with fail
        go_loop [15] (fun jv => ∃ k : Nat, k ≤ xl ∧ jv = .int .i64 ((i : Int) + k)) (fun jv => m - (intOf jv).toNat)
        case atStart => exact ⟨0, Nat.zero_le _, by go_num⟩
        case round =>
          obtain ⟨k, hk, rfl⟩ := hrel
          by_cases hlt : k < xl
          · have hcell := hcel.out k hlt
            have hnek := hneH.out k hlt
            have hb0 := b0 k
            have hb1 := b1 k
            have hkn : i + k < m := by omega
            go_wp2
            go_round
            case rel => exact ⟨k + 1, by omega, by go_num⟩
            case measure => simp [intOf]; omega
          · have hke : k = xl := by omega
            subst hke
            rcases hend.out with hen | ⟨hen, hcell⟩
            · have hlt2 : ¬ ((i : Int) + (k : Nat) < m) := by omega
              have henH := hide hen
              clear hen
              go_wp2
              go_meet
              case rel => exact ⟨rfl, rfl⟩
            · go_wp2
              go_meet
              case rel => exact ⟨rfl, rfl⟩
      obtain ⟨rfl, rfl⟩ := hcut
      obtain ⟨pn, p1, p2, ok, hpm⟩ : ∃ pn p1 p2 ok, Pl.pm x = (pn, p1, p2, ok) := ⟨_, _, _, _, rfl⟩
      have hsc := scan_any b (o + i) (c - i) x xl wc hxl hrowX.out (by omega) (by omega) (by omega)
      rw [hpm] at hsc
      have hscH := hide hsc
      have hpmH := hide hpm
      clear hsc hpm
      have hst := hide (fold_step hstep.out hpmH.out)
      clear hstep
      go_wp2_with fail
      refine hscH.out.mono ?_
      rintro e w' ⟨rfl, rfl⟩
      dsimp only
      cases ok with
      | false =>
        have hMn : Hid (M = none) := hide (by have h := hst.out; rw [if_neg (by simp)] at h; exact h.symm)
        go_wp2
        exact bodyPost_ret (v := .tuple #[.bool false, .int .i64 0, .int .i64 0, .bool false]) (by simp [results, Tryf.results6, go_sem]) rfl (MM_none (by rw [hMM.out, hMn.out]) belW)
      | true =>
        clear hcel hend hneH hscH hrowX
        go_upto_block 4 with fail
        go_cut [20] from 68 to 79 (fun _ w'' => w'' = w' ∧ Hid (pn ∉ Pl.names es))
        case first =>
          go_wp2_with fail
          go_loop [20] (fun kv => ∃ k : Nat, k ≤ es.length ∧ kv = .int .i64 k ∧ Hid (∀ j, j < k → (Pl.names es).getD j [] ≠ pn)) (fun kv => es.length - (intOf kv).toNat)
          case atStart => exact ⟨0, Nat.zero_le _, rfl, hide fun j hj => absurd hj (Nat.not_lt_zero _)⟩
          case round =>
            obtain ⟨k, hk, rfl, hall⟩ := hrel
            by_cases hlt : k < es.length
            · obtain ⟨q, hq⟩ : ∃ q, (Pl.names es).getD k [] = q := ⟨_, rfl⟩
              have hcell : w'.cell? ⟨g, k, none⟩ = some (.string ⟨q.toArray⟩) := by
                rw [hown.out.cellAt k (by omega), cellsS_get es k hlt, hq]
              by_cases hqe : q = pn
              · have hMn : Hid (M = none) := hide (by
                  have h := hst.out
                  rw [if_neg (fun hh => hh.2 ((mem_names es pn).2 ⟨k, hlt, hq.trans hqe⟩))] at h
                  exact h.symm)
                have hqb : (q == pn) = true := beq_iff_eq.2 hqe
                clear hq hqe
                go_wp2
                exact bodyPost_ret (v := .tuple #[.bool false, .int .i64 0, .int .i64 0, .bool false]) (by simp [results, Tryf.results6, go_sem]) rfl (MM_none (by rw [hMM.out, hMn.out]) belW)
              · have hqb : (q == pn) = false := beq_eq_false_iff_ne.2 hqe
                have hqH := hide hq
                have hqeH := hide hqe
                clear hq hqe
                go_wp2
                go_round
                case rel => exact ⟨k + 1, by omega, by go_num, hide fun j hj => by
                  by_cases e : j = k
                  · subst e; rw [hqH.out]; exact hqeH.out
                  · exact hall.out j (by omega)⟩
                case measure => simp [intOf]; omega
            · have hke : k = es.length := by omega
              have hno : Hid (pn ∉ Pl.names es) := hide (fun h => by
                obtain ⟨j, hj, e⟩ := (mem_names es pn).1 h
                exact hall.out j (by omega) e)
              subst hke
              go_wp2
              go_meet
              case rel => exact ⟨rfl, hno⟩
        obtain ⟨rfl, hno⟩ := hcut
        have hst2 : Hid (Pl.fold (restL bd (i + xl + 1)) (es ++ [(pn, p1, p2)]) = M) := hide (by
          have h := hst.out
          rwa [if_pos ⟨rfl, hno.out⟩] at h)
        clear hst
        have hszc := belW.size
        go_wp2_with (at_builtin; refine wpList_append_own _ rfl _ _ 39 rfl w.heap.size 9 i0 (.string ⟨#[]⟩) 1 16 Tryf.underlying39 hi hz0 hz1 hz2 rfl (by decide) _ _ _ rfl (hown.out.alloc _) ⟨wc.heap.size, 0, none⟩ 1 1 [.string ⟨pn.toArray⟩] rfl rfl ?c1 ?c2 ?c3 ?c4 ?c5 ?_)
        case c1 =>
          intro j u hj
          match j, hj with
          | 0, hj => simp at hj; subst hj; simp [Addr.add]
        case c2 => intro u hu; simp at hu; subst hu; rfl
        case c3 => unfold maxLen; omega
        case c4 => omega
        case c5 => simp; omega
        intro v' w2 hown2 hgrow2 _
        have hbel2 : Below w.heap.size w w2 := (belW.alloc hszc _).grown hgrow2 (by simp; omega) (fun k hk => (hown.out.lt k hk).1)
        obtain ⟨g', cp', hv'⟩ : ∃ g' cp', v' = .slice (some ⟨g', 0, none⟩) (es ++ [(pn, p1, p2)]).length cp' := by
          rcases hown2.2 with ⟨_, h⟩ | ⟨g', cp', _, h, _⟩
          · omega
          · exact ⟨g', cp', by rw [h]; simp⟩
        subst hv'
        have hown3 : Hid (w2.ownsRow w.heap.size 9 1 (.slice (some ⟨g', 0, none⟩) (es ++ [(pn, p1, p2)]).length cp') (es ++ [(pn, p1, p2)]).length (cellsS (es ++ [(pn, p1, p2)]))) := hide (by
          rw [cellsS_snoc]
          have h := hown2
          rwa [show es.length + 1 = (es ++ [(pn, p1, p2)]).length by simp] at h)
        have hes : (es ++ [(pn, p1, p2)]).length ≤ i + xl + 1 := by simp; omega
        generalize hE : es ++ [(pn, p1, p2)] = E at *
        have hEH := hide hE
        clear hE hown2 hgrow2 hown
        by_cases hpe : pn = nm.data.toList
        · have hlk2 : Hid (Pl.look E nm.data.toList = (p1, p2, true)) := hide (by
            rw [← hEH.out, ← hpe]
            exact look_snoc_same (e := (pn, p1, p2)) hno.out)
          have hqb : (pn == nm.toList) = true := by rw [Lib.toList_data]; exact beq_iff_eq.2 hpe
          clear hpe
          go_wp2
          go_roundw
          case rel => exact ⟨i + xl + 1, E, g', cp', p1, p2, true, rfl, rfl, rfl, rfl, by go_num, by omega, hes, hown3, hbel2, hlk2, hst2⟩
          case measure => simp [intOf]; omega
        · have hlk2 : Hid (Pl.look E nm.data.toList = (a1, a2, fd)) := hide (by
            rw [← hEH.out, look_snoc_other hpe]
            exact hlk.out)
          have hqb : (pn == nm.toList) = false := by rw [Lib.toList_data]; exact beq_eq_false_iff_ne.2 hpe
          clear hpe
          go_wp2
          go_roundw
          case rel => exact ⟨i + xl + 1, E, g', cp', a1, a2, fd, rfl, rfl, rfl, rfl, by go_num, by omega, hes, hown3, hbel2, hlk2, hst2⟩
          case measure => simp [intOf]; omega
    · have hMs : Hid (M = some es) := hide (by
        have h := hfo.out
        rw [restL_past (by rw [hlH.out]; exact hle)] at h
        exact h.symm)
      go_wp2
      refine bodyPost_ret (v := .tuple #[.bool true, .int .i64 a1, .int .i64 a2, .bool fd]) (by simp [results, Tryf.results6, go_sem]) rfl ?_
      unfold MM
      rw [hMM.out, hMs.out]
      exact ⟨ret_mm (o := some es) rfl hlk.out, belW⟩
end Go.Proofs.Qxb6608740aFmt
