/-
  SEAT b6606095aD: the walk of decimal.Parse: it returns 'goParse' of the text's bytes.
-/
import Derived.Test.Qxb6606095aDoorNormal
import Derived.Test.Qxb6606095aDoorLaw
import Derived.Deep.DeepCutAuto
import Derived.Deep.CutBlock
import Derived.Deep.RegionWith
import Derived.Lib.SmallJoins
import Derived.BigQuiet
import Derived.Deep.QuietTactic
namespace Go.Proofs.Qxb6606095aDoor
open Go.RowKit Go.PlainAid

theorem cell_lt {w : World} {a : Addr} {v : Value} (h : w.cell? a = some v) : a.block < w.heap.size := by
  rcases Nat.lt_or_ge a.block w.heap.size with h1 | h1
  · exact h1
  · unfold World.cell? at h
    simp [Array.getElem?_eq_none h1] at h
theorem maxlen_keep {w w' : World} {m : Int} (hm : w.cell? ⟨0, 0, none⟩ = some (.int .i64 m)) (hb : Below w.heap.size w w') : w'.cell? ⟨0, 0, none⟩ = some (.int .i64 m) :=
  (hb.cell (p := ⟨0, 0, none⟩) (cell_lt hm)).trans hm
theorem cut_len (l c : List UInt8) : (Lib.cut l c).1.length ≤ l.length ∧ (Lib.cut l c).2.1.length ≤ l.length := by
  unfold Lib.cut
  split
  · simp only [List.length_take, List.length_drop]; omega
  · simp
theorem cut_any (s : ByteArray) (c : UInt8) (m : Int) (w : World) (hs : (s.size : Int) ≤ 1048576) (hm : w.cell? ⟨0, 0, none⟩ = some (.int .i64 m)) :
    Calls Tryd.prog 22 #[.string s, .string ⟨#[c]⟩] w fun e w' => ∃ (a b : ByteArray) (f : Bool) (n : Nat), e = .returned (.tuple #[.string a, .string b, .bool f]) ∧ w' = w.drewN n ∧ Hid (Lib.cut s.data.toList [c] = (a.data.toList, b.data.toList, f)) ∧ a.size ≤ s.size ∧ b.size ≤ s.size := by
  refine (Tryd.strings_Cut s ⟨#[c]⟩ m w (by omega) hm).mono ?_
  rintro e w' ⟨rfl, n, rfl⟩
  have h := cut_len s.data.toList [c]
  exact ⟨_, _, _, n, rfl, rfl, rfl, h.1, h.2⟩

theorem go_1 {l t : List UInt8} {neg : Bool} (hn : Lib.hasPrefix l [45] = neg) (ht : t = if neg then l.drop 1 else l) : Pl.goParse l = Pl.goMant neg (Pl.goCut t) := by
  unfold Pl.goParse; simp only; rw [hn, ht]
theorem cut_e {t a b : List UInt8} (h : Lib.cut t [101] = (a, b, true)) : Pl.goCut t = (a, b, true) := by
  unfold Pl.goCut; simp only [h]; rfl
theorem cut_E {t a b a' b' : List UInt8} {f : Bool} (h : Lib.cut t [101] = (a, b, false)) (h2 : Lib.cut t [69] = (a', b', f)) : Pl.goCut t = (a', b', f) := by
  unfold Pl.goCut; simp only [h, h2]; rfl
def mBad (wh fr : ByteArray) (pt : Bool) : Bool := !Pl.allDigits wh.data.toList || (pt && !Pl.allDigits fr.data.toList)
theorem mant_eq {neg : Bool} {a b : List UInt8} {wh fr : ByteArray} {f pt : Bool} (h : Lib.cut a [46] = (wh.data.toList, fr.data.toList, pt)) : Pl.goMant neg (a, b, f) = if mBad wh fr pt then Pl.bad else Pl.goTail neg wh.data.toList fr.data.toList b f := by
  unfold Pl.goMant mBad; simp only [h]
theorem bad_1 {wh fr : ByteArray} {pt : Bool} (h1 : Pl.allDigits wh.data.toList = false) : mBad wh fr pt = true := by unfold mBad; rw [h1]; rfl
theorem bad_2 {wh fr : ByteArray} {pt : Bool} (h1 : Pl.allDigits wh.data.toList = true) : mBad wh fr pt = (pt && !Pl.allDigits fr.data.toList) := by unfold mBad; rw [h1]; rfl
def eBad (dd : ByteArray) : Bool := !Pl.allDigits dd.data.toList || decide (9 < (Lib.trimLeftB dd.data.toList 48).length)
theorem tail_no_exp {neg : Bool} {wh fr b : List UInt8} : Pl.goTail neg wh fr b false = Pl.normal neg (Lib.trimLeftB (wh ++ fr) 48) (0 - fr.length) := rfl
theorem tail_exp {neg : Bool} {wh fr b : List UInt8} {dd : ByteArray} (hd : dd.data.toList = Pl.unsign b) : Pl.goTail neg wh fr b true = if eBad dd then Pl.bad else Pl.normal neg (Lib.trimLeftB (wh ++ fr) 48) (Pl.atoiV b - fr.length) := by
  unfold Pl.goTail eBad; rw [hd]; rfl
theorem atoi_small {b : List UInt8} {dd : ByteArray} (hd : dd.data.toList = Pl.unsign b) (h : eBad dd = false) : ∃ v, Lib.atoiAll b = .ok v ∧ Pl.atoiV b = v ∧ -1000000000 ≤ v ∧ v ≤ 1000000000 := by
  unfold eBad at h
  rw [Bool.or_eq_false_iff] at h
  have h1 : Pl.allDigits (Pl.unsign b) = true := by rw [← hd]; simpa using h.1
  have h2 : (Lib.trimLeftB (Pl.unsign b) 48).length ≤ 9 := by rw [← hd]; have := of_decide_eq_false h.2; omega
  have h3 := Pl.atoi_of b h1 h2
  unfold Pl.allDigits at h1
  rw [Bool.and_eq_true] at h1
  have h4 := Pl.valI_small _ h1.1 h2
  refine ⟨_, h3, by unfold Pl.atoiV; rw [h3], ?_, ?_⟩
  · split <;> omega
  · split <;> omega
theorem trimLeft_len (d : List UInt8) : (Lib.trimLeftB d 48).length ≤ d.length := (List.dropWhile_sublist _).length_le
theorem signed_bt (b : ByteArray) : Pl.signed b.data.toList = decide (0 < b.size ∧ (bt b 0 = 43 ∨ bt b 0 = 45)) := by
  rw [B_bt, ← len_size b]
  unfold Pl.signed
  cases b.data.toList with
  | nil => rfl
  | cons c r =>
    rw [Pl.B_cons, Bool.eq_iff_iff]
    simp; omega
theorem empty_bt (b : ByteArray) : b.toList.isEmpty = decide (b.size = 0) := by
  rw [Lib.toList_data, ← len_size b]
  cases b.data.toList with
  | nil => rfl
  | cons c r => rw [List.isEmpty_cons]; exact (decide_eq_false (by simp)).symm
theorem normal_last (neg : Bool) (d : List UInt8) (e : Int) : (Pl.normal neg d e).2.2.2 = true := by
  unfold Pl.normal; simp only; split <;> rfl
theorem normal_res (neg : Bool) (wh fr : ByteArray) (e : Int) (h1 : (wh.size : Int) ≤ 1048576) (h2 : (fr.size : Int) ≤ 1048576) (he1 : -1000000000 ≤ e) (he2 : e ≤ 1000000000) :
    ∃ (D : ByteArray) (r1 : Bool) (r2 : ByteArray) (r3 : Int), Hid ((⟨(Lib.trimLeftB (wh ++ fr).data.toList 48).toArray⟩ : ByteArray) = D) ∧ Hid (Pl.normal neg (Lib.trimLeftB (wh.data.toList ++ fr.data.toList) 48) (e - fr.data.toList.length) = (r1, r2.data.toList, r3, true)) ∧
      Hid (∀ W : World, Calls Tryd.prog 26 #[.bool neg, .string D, .int .i64 (e - fr.size)] W fun ev w' => ev = .returned (.agg #[.bool r1, .string r2, .int .i64 r3]) ∧ Below W.heap.size W w') := by
  have hd : (wh ++ fr).data.toList = wh.data.toList ++ fr.data.toList := Joins.data_append wh fr
  have hl := trimLeft_len (wh.data.toList ++ fr.data.toList)
  rw [List.length_append, len_size, len_size] at hl
  refine ⟨⟨(Lib.trimLeftB (wh.data.toList ++ fr.data.toList) 48).toArray⟩, _, ⟨(Pl.normal neg (Lib.trimLeftB (wh.data.toList ++ fr.data.toList) 48) (e - fr.data.toList.length)).2.1.toArray⟩, _, by rw [hd]; exact hide rfl, hide (Prod.ext rfl (Prod.ext rfl (Prod.ext rfl (normal_last _ _ _)))), hide fun W => ?_⟩
  refine normal_any neg _ (e - fr.size) W ?_ (by omega) (by omega)
  show (((Lib.trimLeftB (wh.data.toList ++ fr.data.toList) 48).length : Nat) : Int) ≤ _
  omega
theorem ret_two {r : Pl.Res} {a : Bool} {b : ByteArray} {c : Int} {d : Bool} (h : r = (a, b.data.toList, c, d)) :
    Ending.returned (.tuple #[.agg #[.bool a, .string b, .int .i64 c], .bool d]) = .returned (.tuple #[.agg #[.bool r.1, .string ⟨r.2.1.toArray⟩, .int .i64 r.2.2.1], .bool r.2.2.2]) := by rw [h]
abbrev zero28 : Obj := .cells #[.bool false, .string ⟨#[]⟩, .int .i64 0] 28

set_option maxRecDepth 100000 in
set_option maxHeartbeats 1000000 in
theorem parse_any (s : ByteArray) (m : Int) (w : World) (hs : (s.size : Int) ≤ 1048576) (hm : w.cell? ⟨0, 0, none⟩ = some (.int .i64 m)) :
    Calls Tryd.prog 16 #[.string s] w fun ev w' => ev = .returned (.tuple #[.agg #[.bool (Pl.goParse s.data.toList).1, .string ⟨(Pl.goParse s.data.toList).2.1.toArray⟩, .int .i64 (Pl.goParse s.data.toList).2.2.1], .bool (Pl.goParse s.data.toList).2.2.2]) ∧ Below w.heap.size w w' := by
  obtain ⟨neg, hneg⟩ : ∃ b, b = Lib.hasPrefix s.data.toList [45] := ⟨_, rfl⟩
  have hnegH := hide hneg.symm
  clear hneg
  go_enter Tryd.func16, Tryd.ntmps16
  go_upto_if 14 with (go_at_call 21; refine (Tryd.strings_HasPrefix _ _ _).mono ?_; rintro ev w' ⟨rfl, rfl⟩; rw [hnegH.out])
  go_cut [0] from 13 to 17 (fun sv w' => ∃ (t : ByteArray) (n : Nat), sv = .string t ∧ w' = ((w.alloc (.cells #[.bool false, .string ⟨#[]⟩, .int .i64 0] 28)).alloc (.cells #[.bool neg, .string ⟨#[]⟩, .int .i64 0] 28)).drewN n ∧ t.size ≤ s.size ∧ Hid (t.data.toList = if neg then s.data.toList.drop 1 else s.data.toList))
  case first =>
    cases neg
    · go_wp2
      go_meet
      case rel => exact ⟨s, 0, rfl, rfl, Nat.le_refl _, hide rfl⟩
    · have h1 : (1 : Int) ≤ s.size := by
        have h2 := hnegH.out
        have h3 := len_size s
        cases hl : s.data.toList with
        | nil => rw [hl] at h2; cases h2
        | cons c r => rw [hl] at h3; simp at h3; omega
      have hx := hide (Lib.extract_from s 1)
      go_wp2
      go_region
      all_goals
        go_wp2
        go_meet
        case rel =>
          refine ⟨_, 1, rfl, rfl, ?_, ?_⟩
          · rw [hx.out]
            have h4 := len_size s
            show (s.data.toList.drop 1).length ≤ _
            rw [List.length_drop]; omega
          · rw [hx.out]; exact hide rfl
  obtain ⟨t, n, rfl, rfl, hts, htl⟩ := hcut
  have hW := ((Below.refl w.heap.size w).alloc (Nat.le_refl _) (.cells #[.bool false, .string ⟨#[]⟩, .int .i64 0] 28)).alloc (by simp) (.cells #[.bool neg, .string ⟨#[]⟩, .int .i64 0] 28)
  go_wp2_with fail
  refine (cut_any t 101 m _ (by omega) (maxlen_keep hm (below_drewN hW n))).mono ?_
  rintro ev w' ⟨a, b, f, n1, rfl, rfl, hcut1, ha, hb⟩
  go_upto_if 25 with fail
  go_cut [5, 6, 7] from 18 to 31 (fun av bv fv w' => ∃ (a b : ByteArray) (f : Bool) (n : Nat), av = .string a ∧ bv = .string b ∧ fv = .bool f ∧ w' = ((w.alloc (.cells #[.bool false, .string ⟨#[]⟩, .int .i64 0] 28)).alloc (.cells #[.bool neg, .string ⟨#[]⟩, .int .i64 0] 28)).drewN n ∧ a.size ≤ s.size ∧ b.size ≤ s.size ∧ Hid (Pl.goParse s.data.toList = Pl.goMant neg (a.data.toList, b.data.toList, f)))
  case first =>
    cases f
    · go_wp2_with fail
      refine (cut_any t 69 m _ (by omega) (maxlen_keep hm (below_drewN hW _))).mono ?_
      rintro ev w' ⟨a2, b2, f2, n2, rfl, rfl, hcut2, ha2, hb2⟩
      have hg : Hid (Pl.goParse s.data.toList = Pl.goMant neg (a2.data.toList, b2.data.toList, f2)) := by
        rw [go_1 hnegH.out htl.out, cut_E hcut1.out hcut2.out]; exact hide rfl
      go_wp2
      go_meet
      case rel => exact ⟨a2, b2, f2, _, rfl, rfl, rfl, rfl, by omega, by omega, hg⟩
    · have hg : Hid (Pl.goParse s.data.toList = Pl.goMant neg (a.data.toList, b.data.toList, true)) := by
        rw [go_1 hnegH.out htl.out, cut_e hcut1.out]; exact hide rfl
      go_wp2
      go_meet
      case rel => exact ⟨a, b, true, _, rfl, rfl, rfl, rfl, by omega, by omega, hg⟩
  clear hcut1 ha hb htl
  obtain ⟨a, b, f, n, rfl, rfl, rfl, rfl, ha, hb, hg⟩ := hcut
  go_wp2_with fail
  refine (cut_any a 46 m _ (by omega) (maxlen_keep hm (below_drewN hW _))).mono ?_
  rintro ev w' ⟨wh, fr, pt, n2, rfl, rfl, hcutp, hwh, hfr⟩
  go_upto_region 8 with fail
  go_cut [48] from 32 to 48 (fun bv w' => w' = ((w.alloc (.cells #[.bool false, .string ⟨#[]⟩, .int .i64 0] 28)).alloc (.cells #[.bool neg, .string ⟨#[]⟩, .int .i64 0] 28)).drewN (n + n2) ∧ bv = .bool (mBad wh fr pt))
  case first =>
    cases hA : Pl.allDigits wh.data.toList
    · have hB := hide (bad_1 (fr := fr) (pt := pt) hA)
      go_wp2_with (go_at_call 23; refine (allDigits_any _ _ (by unfold maxLen; omega)).mono ?_; rintro ev w' ⟨rfl, rfl⟩)
      go_meet
      case rel => exact ⟨rfl, by rw [hB.out]⟩
    · have hB := hide (bad_2 (fr := fr) (pt := pt) hA)
      cases pt
      · go_wp2_with (go_at_call 23; refine (allDigits_any _ _ (by unfold maxLen; omega)).mono ?_; rintro ev w' ⟨rfl, rfl⟩)
        go_meet
        case rel => exact ⟨rfl, by rw [hB.out]; rfl⟩
      · go_wp2_with (go_at_call 23; refine (allDigits_any _ _ (by unfold maxLen; omega)).mono ?_; rintro ev w' ⟨rfl, rfl⟩)
        go_meet
        case rel => exact ⟨rfl, by rw [hB.out]; rfl⟩
  obtain ⟨rfl, rfl⟩ := hcut
  have hg2 := hide (hg.out.trans (mant_eq hcutp.out))
  clear hg hcutp
  cases hbad : mBad wh fr pt
  case true =>
    have hfin : Hid (Pl.goParse s.data.toList = Pl.bad) := hg2.out.trans (if_pos hbad)
    go_wp2
    exact bodyPost_ret (v := .tuple #[.agg #[.bool false, .string ⟨#[]⟩, .int .i64 0], .bool false]) (by simp [results, Tryd.results16, go_sem]) rfl ⟨ret_two (b := ⟨#[]⟩) hfin.out, (((below_drewN hW _).setCell (Nat.le_refl _) _).setCell (Nat.le_refl _) _).setCell (Nat.le_refl _) _⟩
  have hg3 : Hid (Pl.goParse s.data.toList = Pl.goTail neg wh.data.toList fr.data.toList b.data.toList f) := hg2.out.trans (by rw [hbad]; rfl)
  clear hg2
  generalize n + n2 = nn
  go_upto_if 50 with fail
  clear hbad
  have hE0 := empty_bt b
  go_cut [11] from 50 to 80 (fun ev w' => ∃ e : Int, ev = .int .i64 e ∧ -1000000000 ≤ e ∧ e ≤ 1000000000 ∧ Below (w.heap.size + 2) ((w.alloc (.cells #[.bool false, .string ⟨#[]⟩, .int .i64 0] 28)).alloc (.cells #[.bool neg, .string ⟨#[]⟩, .int .i64 0] 28)) w' ∧ Hid (Pl.goParse s.data.toList = Pl.normal neg (Lib.trimLeftB (wh.data.toList ++ fr.data.toList) 48) (e - fr.data.toList.length)))
  case first =>
    cases f
    · go_wp2
      go_meet
      case rel => exact ⟨0, rfl, by omega, by omega, below_drewN (Below.refl _ _) _, hg3⟩
    · have hb0 := get_bt b
      have hb1 := bt_nonneg b
      have hb2 := bt_le b
      go_upto_region 13 with fail
      go_cut [63] from 51 to 63 (fun bv w' => w' = ((w.alloc (.cells #[.bool false, .string ⟨#[]⟩, .int .i64 0] 28)).alloc (.cells #[.bool neg, .string ⟨#[]⟩, .int .i64 0] 28)).drewN nn ∧ bv = .bool (Pl.signed b.data.toList))
      case first =>
        have hS := hide (signed_bt b)
        by_cases h0 : 0 < b.size
        · have hE1 : b.toList.isEmpty = false := by rw [hE0]; exact decide_eq_false (by omega)
          clear hE0
          by_cases h1 : bt b 0 = 43
          · have q1 : (bt b 0 == 43) = true := beq_iff_eq.2 h1
            have hS' : Hid (Pl.signed b.data.toList = true) := hS.out.trans (decide_eq_true ⟨h0, .inl h1⟩)
            clear h1 hS
            go_wp2
            go_meet
            case rel => exact ⟨rfl, by rw [hS'.out]⟩
          · have q1 : (bt b 0 == 43) = false := beq_eq_false_iff_ne.2 h1
            by_cases h2 : bt b 0 = 45
            · have q2 : (bt b 0 == 45) = true := beq_iff_eq.2 h2
              have hS' : Hid (Pl.signed b.data.toList = true) := hS.out.trans (decide_eq_true ⟨h0, .inr h2⟩)
              clear h1 h2 hS
              go_wp2
              go_meet
              case rel => exact ⟨rfl, by rw [hS'.out]⟩
            · have q2 : (bt b 0 == 45) = false := beq_eq_false_iff_ne.2 h2
              have hS' : Hid (Pl.signed b.data.toList = false) := hS.out.trans (decide_eq_false fun h => h.2.elim h1 h2)
              clear h1 h2 hS
              go_wp2
              go_meet
              case rel => exact ⟨rfl, by rw [hS'.out]⟩
        · have hE1 : b.toList.isEmpty = true := by rw [hE0]; exact decide_eq_true (by omega)
          have hS' : Hid (Pl.signed b.data.toList = false) := hS.out.trans (decide_eq_false fun h => h0 h.1)
          clear hS hE0
          go_wp2
          go_meet
          case rel => exact ⟨rfl, by rw [hS'.out]⟩
      obtain ⟨rfl, rfl⟩ := hcut
      clear hE0
      go_upto_if 63 with fail
      go_cut [12] from 51 to 65 (fun dv w' => w' = ((w.alloc (.cells #[.bool false, .string ⟨#[]⟩, .int .i64 0] 28)).alloc (.cells #[.bool neg, .string ⟨#[]⟩, .int .i64 0] 28)).drewN nn ∧ ∃ dd : ByteArray, dv = .string dd ∧ dd.size ≤ b.size ∧ Hid (dd.data.toList = Pl.unsign b.data.toList))
      case first =>
        cases hsg : Pl.signed b.data.toList
        · have hu : Hid (b.data.toList = Pl.unsign b.data.toList) := by unfold Pl.unsign; rw [hsg]; exact hide rfl
          go_wp2
          go_meet
          case rel => exact ⟨rfl, b, rfl, Nat.le_refl _, hu⟩
        · have hu : Hid (b.data.toList.drop 1 = Pl.unsign b.data.toList) := by unfold Pl.unsign; rw [hsg]; exact hide rfl
          have h1 : (1 : Int) ≤ b.size := by
            have := of_decide_eq_true ((signed_bt b).symm.trans hsg)
            omega
          have hx := hide (Lib.extract_from b 1)
          clear hsg
          go_wp2
          go_meet
          case rel =>
            refine ⟨rfl, _, rfl, ?_, ?_⟩
            · rw [hx.out]
              show (b.data.toList.drop 1).length ≤ _
              rw [List.length_drop, len_size]; omega
            · rw [hx.out]; exact hu
      obtain ⟨rfl, dd, rfl, hdd, hdl⟩ := hcut
      clear hb0 hb1 hb2
      have hg4 := hide (hg3.out.trans (tail_exp hdl.out))
      clear hg3
      go_upto_region 15 with fail
      go_cut [74] from 66 to 74 (fun bv w' => w' = ((w.alloc (.cells #[.bool false, .string ⟨#[]⟩, .int .i64 0] 28)).alloc (.cells #[.bool neg, .string ⟨#[]⟩, .int .i64 0] 28)).drewN nn ∧ bv = .bool (eBad dd))
      case first =>
        have hdr : Hid (eBad dd = (!Pl.allDigits dd.data.toList || decide (9 < (Lib.trimLeftB dd.data.toList 48).length))) := rfl
        obtain ⟨tr, htr⟩ : ∃ tr : ByteArray, tr = ⟨(Lib.trimLeftB dd.data.toList 48).toArray⟩ := ⟨_, rfl⟩
        have hts : Hid ((Lib.trimLeftB dd.data.toList 48).length = tr.size) := by rw [htr]; exact hide rfl
        have hts2 : tr.size ≤ dd.size := by rw [← hts.out]; exact trimLeft_len _
        have htrH := hide htr.symm
        clear htr
        cases hA : Pl.allDigits dd.data.toList
        · have hdr' : Hid (eBad dd = true) := by rw [hdr.out, hA]; exact hide rfl
          go_wp2_with (go_at_call 23; refine (allDigits_any _ _ (by unfold maxLen; omega)).mono ?_; rintro ev w' ⟨rfl, rfl⟩)
          go_meet
          case rel => exact ⟨rfl, by rw [hdr'.out]⟩
        · have hdr' : Hid (eBad dd = decide ((9 : Int) < tr.size)) := by
            rw [hdr.out, hA, hts.out]
            exact hide (by rw [Bool.eq_iff_iff]; simp; omega)
          go_wp2_with (first | (go_at_call 23; refine (allDigits_any _ _ (by unfold maxLen; omega)).mono ?_; rintro ev w' ⟨rfl, rfl⟩) | (go_at_call 24; refine (Tryd.strings_TrimLeft_one _ 48 (by decide) _).mono ?_; rintro ev w' ⟨rfl, rfl⟩; rw [htrH.out]))
          go_meet
          case rel => exact ⟨rfl, by rw [hdr'.out]⟩
      obtain ⟨rfl, rfl⟩ := hcut
      cases hbad : eBad dd
      · obtain ⟨v, hv, hv2, hv3, hv4⟩ := atoi_small hdl.out hbad
        have hg5 : Hid (Pl.goParse s.data.toList = Pl.normal neg (Lib.trimLeftB (wh.data.toList ++ fr.data.toList) 48) (v - fr.data.toList.length)) := hg4.out.trans (by rw [hbad, hv2]; rfl)
        have hvH := hide hv
        clear hv hv2 hg4 hdl
        go_wp2_with fail
        refine (Tryd.strconv_Atoi_ok b (by omega) v hvH.out _).mono ?_
        rintro ev w' ⟨rfl, hw'⟩
        have hbw : Below (w.heap.size + 2) ((w.alloc (.cells #[.bool false, .string ⟨#[]⟩, .int .i64 0] 28)).alloc (.cells #[.bool neg, .string ⟨#[]⟩, .int .i64 0] 28)) w' := by
          rcases hw' with rfl | ⟨tt, rfl⟩
          · exact below_drewN (Below.refl _ _) _
          · exact (below_drewN (Below.refl _ _) _).trans ((Lib.bytesWorld_below _ _ _).mono (by simp))
        clear hw'
        go_wp2
        go_meet
        case rel => exact ⟨v, rfl, hv3, hv4, hbw, hg5⟩
      · have hfin : Hid (Pl.goParse s.data.toList = Pl.bad) := hg4.out.trans (if_pos hbad)
        go_wp2
        exact bodyPost_ret (v := .tuple #[.agg #[.bool false, .string ⟨#[]⟩, .int .i64 0], .bool false]) (by simp [results, Tryd.results16, go_sem]) rfl ⟨ret_two (b := ⟨#[]⟩) hfin.out, (((below_drewN hW _).setCell (Nat.le_refl _) _).setCell (Nat.le_refl _) _).setCell (Nat.le_refl _) _⟩
  clear hg3 hE0
  obtain ⟨e, rfl, he1, he2, hbw, hgf⟩ := hcut
  go_upto_region 18 with fail
  obtain ⟨D, r1, r2, r3, hD, hr, hN⟩ := normal_res neg wh fr e (by omega) (by omega) he1 he2
  have hfin := hide (hgf.out.trans hr.out)
  clear hgf hr
  have hsz : w.heap.size + 2 ≤ wc.heap.size := by have := hbw.size; simpa using this
  have hB0 : wc.cell? ⟨w.heap.size + 1, 0, none⟩ = some (.bool neg) := (hbw.cell (p := ⟨w.heap.size + 1, 0, none⟩) (by simp)).trans (by go_simp)
  have hbw0 : Below w.heap.size w wc := hW.trans (hbw.mono (by omega))
  have hA : ∀ w2 : World, Below wc.heap.size wc w2 → (w2.cell? ⟨w.heap.size, 0, none⟩ = some (.bool false) ∧ w2.cell? ⟨w.heap.size, 1, none⟩ = some (.string ⟨#[]⟩) ∧ w2.cell? ⟨w.heap.size, 2, none⟩ = some (.int .i64 0)) ∧ w2.frozen? ⟨w.heap.size, 0, none⟩ = false ∧ w2.frozen? ⟨w.heap.size, 1, none⟩ = false ∧ w2.frozen? ⟨w.heap.size, 2, none⟩ = false := by
    intro w2 h2
    have hb3 := hbw.trans (h2.mono hsz)
    refine ⟨⟨(hb3.cell (p := ⟨w.heap.size, 0, none⟩) (by simp)).trans (by go_simp), (hb3.cell (p := ⟨w.heap.size, 1, none⟩) (by simp)).trans (by go_simp), (hb3.cell (p := ⟨w.heap.size, 2, none⟩) (by simp)).trans (by go_simp)⟩, (hb3.frozen (p := ⟨w.heap.size, 0, none⟩) (by simp)).trans (by go_simp), (hb3.frozen (p := ⟨w.heap.size, 1, none⟩) (by simp)).trans (by go_simp), (hb3.frozen (p := ⟨w.heap.size, 2, none⟩) (by simp)).trans (by go_simp)⟩
  have hAH := hide hA
  clear hA hbw hW
  have hsum : wh.size + fr.size ≤ 2097152 := by omega
  go_region_with (first
    | (go_at_call 24; refine (Tryd.strings_TrimLeft_one _ 48 (by decide) _).mono ?_; rintro ev w' ⟨rfl, rfl⟩; rw [hD.out])
    | (go_at_call 26; refine (hN.out _).mono ?_; rintro ev w2 ⟨rfl, hb2⟩; have hb3 : Below wc.heap.size wc w2 := (Below.drew (Below.refl _ _)).trans hb2; clear hb2; obtain ⟨⟨a0, a1, a2⟩, f0, f1, f2⟩ := hAH.out w2 hb3))
  all_goals
    go_wp2
    refine bodyPost_ret (v := .tuple #[.agg #[.bool r1, .string r2, .int .i64 r3], .bool true]) (by simp [results, Tryd.results16, go_sem, a0, a1, a2]) rfl ⟨ret_two hfin.out, ?_⟩
    exact (((hbw0.trans (hb3.mono (by omega))).setCell (Nat.le_refl _) _).setCell (Nat.le_refl _) _).setCell (Nat.le_refl _) _
end Go.Proofs.Qxb6606095aDoor
