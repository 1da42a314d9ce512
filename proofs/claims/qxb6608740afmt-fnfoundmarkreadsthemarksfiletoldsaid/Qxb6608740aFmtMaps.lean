/-
  THE MAP OF MARKS: how an element reads; what the map that parseMarks fills holds, in the words of the plain law.
-/
import Derived.Test.Qxb6608740aFmtRange
namespace Go.Proofs.Qxb6608740aFmt
open Go.RowKit Go.PlainAid Go.Maps

/-- A mark's two numbers. -/
def mkD (a b : Int) : DataW Unit := .agg [.lit (.int .i64 a), .lit (.int .i64 b)]
def mkElem (v : Value) : Option (DataW Unit × List MemPlace) := match v with
  | .agg xs => (match xs.toList with
    | [.int .i64 a, .int .i64 b] => some (mkD a b, [])
    | _ => none)
  | _ => none
theorem mkElem_mk (a b : Int) : mkElem (.agg #[.int .i64 a, .int .i64 b]) = some (mkD a b, []) := rfl
theorem mkElem_inv {v : Value} {z : DataW Unit × List MemPlace} (h : mkElem v = some z) : ∃ a b, v = .agg #[.int .i64 a, .int .i64 b] ∧ z = (mkD a b, []) := by
  unfold mkElem at h
  split at h
  · rename_i xs
    split at h
    · rename_i a b e
      cases h
      refine ⟨a, b, ?_, rfl⟩
      congr 1
      rw [← Array.toArray_toList (xs := xs), e]
    · cases h
  · cases h
theorem mkD_inj {a b c d : Int} (h : mkD a b = mkD c d) : a = c ∧ b = d := by
  unfold mkD at h
  injection h with h
  injection h with h1 h
  injection h with h2 _
  injection h1 with h1
  injection h2 with h2
  injection h1 with _ h1
  injection h2 with _ h2
  exact ⟨h1, h2⟩

def dFrom (es : List Pl.Ent) (m : DataW Unit) : DataW Unit := es.foldl (fun d e => d.put (.string e.1) (mkD e.2.1 e.2.2)) m
def dOf (es : List Pl.Ent) : DataW Unit := dFrom es (.map [])
theorem dOf_snoc (es : List Pl.Ent) (e : Pl.Ent) : dOf (es ++ [e]) = (dOf es).put (.string e.1) (mkD e.2.1 e.2.2) := by unfold dOf dFrom; simp
theorem isKey (l : List UInt8) : WideAt.IsKeyLit (.string l) := trivial
theorem has_from (nm : List UInt8) : ∀ (es : List Pl.Ent) (m : DataW Unit), IsMap m → has (dFrom es m) (.string nm) = (has m (.string nm) || decide (nm ∈ Pl.names es)) := by
  intro es
  induction es with
  | nil => intro m _; simp [dFrom, Pl.names]
  | cons e t ih =>
    intro m hm
    have hd : dFrom (e :: t) m = dFrom t (m.put (.string e.1) (mkD e.2.1 e.2.2)) := rfl
    rw [hd, ih _ (hm.put _ _)]
    by_cases h : nm = e.1
    · subst h
      rw [has_put_same hm (isKey _)]
      simp [Pl.names]
    · rw [has_put_other (fun e' => h (by injection e'))]
      congr 1
      rw [Bool.eq_iff_iff, decide_eq_true_eq, decide_eq_true_eq]
      unfold Pl.names
      simp [h]
theorem at_from (nm : List UInt8) (z : DataW Unit) : ∀ (es : List Pl.Ent) (m : DataW Unit), IsMap m → (Pl.names es).Nodup → (dFrom es m).atKey (.string nm) z = (match es.find? (fun e => e.1 == nm) with
    | some e => mkD e.2.1 e.2.2
    | none => m.atKey (.string nm) z) := by
  intro es
  induction es with
  | nil => intro m _ _; rfl
  | cons e t ih =>
    intro m hm hn
    have hd : dFrom (e :: t) m = dFrom t (m.put (.string e.1) (mkD e.2.1 e.2.2)) := rfl
    have hn2 : e.1 ∉ Pl.names t ∧ (Pl.names t).Nodup := List.nodup_cons.1 hn
    rw [hd, ih _ (hm.put _ _) hn2.2]
    by_cases h : e.1 = nm
    · subst h
      rw [(Pl.find_none t e.1).2 hn2.1, List.find?_cons_of_pos (by simp)]
      exact atKey_put_same hm (isKey _) _ _
    · rw [List.find?_cons_of_neg (by simpa using h)]
      cases t.find? (fun e => e.1 == nm) with
      | some e' => rfl
      | none => exact atKey_put_other (fun e' => h (by injection e' with e'; exact e'.symm)) _ _
theorem has_dOf (es : List Pl.Ent) (nm : List UInt8) : has (dOf es) (.string nm) = (Pl.look es nm).2.2 := by
  unfold dOf
  rw [has_from nm es _ isMap_empty, Bool.eq_iff_iff, Pl.look_has]
  simp [has]
theorem at_dOf (es : List Pl.Ent) (nm : List UInt8) (hn : (Pl.names es).Nodup) : (dOf es).atKey (.string nm) (mkD 0 0) = mkD (Pl.look es nm).1 (Pl.look es nm).2.1 := by
  unfold dOf
  rw [at_from nm _ es _ isMap_empty hn]
  unfold Pl.look
  cases es.find? (fun e => e.1 == nm) with
  | some e => rfl
  | none => rfl
end Go.Proofs.Qxb6608740aFmt
