/-
  SEAT b6606095aD: the walk of decimal.normal.
-/
import Derived.Test.Qxb6606095aDoorParts
import Derived.Test.Qxb6606095aDoorShelf
namespace Go.Proofs.Qxb6606095aDoor
open Go.RowKit Go.PlainAid

theorem norm_yes {neg : Bool} {d : List UInt8} {e : Int} (h : (Lib.trimRightB d 48).isEmpty = true) : Pl.normal neg d e = (false, [], 0, true) := by
  unfold Pl.normal; simp only [h]; rfl
theorem norm_no {neg : Bool} {d : List UInt8} {e : Int} (h : (Lib.trimRightB d 48).isEmpty = false) : Pl.normal neg d e = (neg, Lib.trimRightB d 48, e + d.length - (Lib.trimRightB d 48).length, true) := by
  unfold Pl.normal; simp only [h]; rfl
theorem trimRight_len (d : List UInt8) : (Lib.trimRightB d 48).length ≤ d.length := by
  unfold Lib.trimRightB
  have := (List.dropWhile_sublist (p := (· == (48 : UInt8))) (l := d.reverse)).length_le
  simpa using this
theorem ret_dec {r : Pl.Res} {a : Bool} {b : ByteArray} {c : Int} (h : r = (a, b.data.toList, c, true)) :
    Ending.returned (.agg #[.bool a, .string b, .int .i64 c]) = .returned (.agg #[.bool r.1, .string ⟨r.2.1.toArray⟩, .int .i64 r.2.2.1]) := by rw [h]

set_option maxRecDepth 100000 in
set_option maxHeartbeats 1000000 in
theorem normal_any (neg : Bool) (d : ByteArray) (e : Int) (w : World) (hd : (d.size : Int) ≤ 4194304) (he1 : -2000000000 ≤ e) (he2 : e ≤ 2000000000) :
    Calls Tryd.prog 26 #[.bool neg, .string d, .int .i64 e] w fun ev w' => ev = .returned (.agg #[.bool (Pl.normal neg d.data.toList e).1, .string ⟨(Pl.normal neg d.data.toList e).2.1.toArray⟩, .int .i64 (Pl.normal neg d.data.toList e).2.2.1]) ∧ Below w.heap.size w w' := by
  obtain ⟨tr, htr⟩ : ∃ tr : ByteArray, tr = ⟨(Lib.trimRightB d.data.toList 48).toArray⟩ := ⟨_, rfl⟩
  have htl : Hid (tr.data.toList = Lib.trimRightB d.data.toList 48) := by rw [htr]; exact rfl
  have htrH := hide htr.symm
  clear htr
  have hts : tr.size ≤ d.size := by
    have h1 := trimRight_len d.data.toList
    rw [← htl.out, len_size, len_size] at h1
    exact h1
  cases hE : tr.toList.isEmpty
  · have hN := hide (norm_no (neg := neg) (d := d.data.toList) (e := e) (by rw [← htl.out, ← Lib.toList_data]; exact hE))
    have hfin : Hid (Pl.normal neg d.data.toList e = (neg, tr.data.toList, e + d.size - tr.size, true)) := by
      rw [hN.out, ← htl.out, len_size, len_size]; exact rfl
    clear hN
    go_enter Tryd.func26, Tryd.ntmps26
    go_wp2_with (go_at_call 38; refine (Tryd.strings_TrimRight_one _ 48 (by decide) _ (by omega)).mono ?_; rintro ev w' ⟨rfl, rfl⟩; rw [htrH.out])
    exact bodyPost_ret (v := .agg #[.bool neg, .string tr, .int .i64 (e + d.size - tr.size)]) (by simp [results, Tryd.results26, go_sem]) rfl ⟨ret_dec hfin.out, (Below.refl _ _).alloc (Nat.le_refl _) _⟩
  · have hfin := hide (norm_yes (neg := neg) (d := d.data.toList) (e := e) (by rw [← htl.out, ← Lib.toList_data]; exact hE))
    go_enter Tryd.func26, Tryd.ntmps26
    go_wp2_with (go_at_call 38; refine (Tryd.strings_TrimRight_one _ 48 (by decide) _ (by omega)).mono ?_; rintro ev w' ⟨rfl, rfl⟩; rw [htrH.out])
    exact bodyPost_ret (v := .agg #[.bool false, .string ⟨#[]⟩, .int .i64 0]) (by simp [results, Tryd.results26, go_sem]) rfl ⟨ret_dec (b := ⟨#[]⟩) hfin.out, (Below.refl _ _).alloc (Nat.le_refl _) _⟩
end Go.Proofs.Qxb6606095aDoor
