/-
  PLAIN LAW (no Go in sight): the lines of a marks file, what parseMarks reads of them ('marks'), what a look-up finds ('look'), and what a line that is put in does.
-/
import Derived.Test.Qxb6608740aFmtPlain
namespace Go.Proofs.Qxb6608740aFmt.Pl
open Go
set_option linter.unusedSimpArgs false
/-! ### the lines of a marks file -/
def lines : List UInt8 → List (List UInt8)
  | [] => [[]]
  | c :: r => if c = 10 then [] :: lines r else match lines r with
    | [] => [[c]]
    | a :: t => (c :: a) :: t
theorem lines_ne (l : List UInt8) : lines l ≠ [] := by
  induction l with
  | nil => simp [lines]
  | cons c r ih =>
    rw [lines]
    split
    · simp
    · split <;> simp
theorem lines_none (l : List UInt8) (h : (10 : UInt8) ∉ l) : lines l = [l] := by
  induction l with
  | nil => rfl
  | cons c r ih =>
    rw [List.mem_cons, not_or] at h
    rw [lines, if_neg (fun e => h.1 e.symm), ih h.2]
theorem lines_app (a b : List UInt8) : lines (a ++ 10 :: b) = lines a ++ lines b := by
  induction a with
  | nil => simp [lines]
  | cons c r ih =>
    rw [List.cons_append, lines, lines, ih]
    split
    · rfl
    · cases hr : lines r with
      | nil => exact absurd hr (lines_ne r)
      | cons x t => rfl

abbrev Ent : Type := List UInt8 × Int × Int
def ent (x : List UInt8) : Ent := ((pm x).1, (pm x).2.1, (pm x).2.2.1)
def okL (x : List UInt8) : Bool := (pm x).2.2.2
def names (es : List Ent) : List (List UInt8) := es.map (·.1)
def fold : List (List UInt8) → List Ent → Option (List Ent)
  | [], acc => some acc
  | x :: t, acc => if okL x = true ∧ (pm x).1 ∉ names acc then fold t (acc ++ [ent x]) else none
def lnsO (d : List UInt8) : Option (List (List UInt8)) := if d.getLast? = some 10 then some (lines d.dropLast) else none
def marks (d : List UInt8) : Option (List Ent) := match lnsO d with
  | none => none
  | some xs => fold xs []
def look (es : List Ent) (nm : List UInt8) : Int × Int × Bool := match es.find? (fun e => e.1 == nm) with
  | none => (0, 0, false)
  | some e => (e.2.1, e.2.2, true)

def good (xs : List (List UInt8)) : Prop := (∀ x ∈ xs, okL x = true) ∧ (names (xs.map ent)).Nodup
theorem names_app (a b : List Ent) : names (a ++ b) = names a ++ names b := by unfold names; simp
theorem fold_eq (xs : List (List UInt8)) : ∀ acc : List Ent, (names acc).Nodup → (fold xs acc = some (acc ++ xs.map ent) ∧ (∀ x ∈ xs, okL x = true) ∧ (names (acc ++ xs.map ent)).Nodup) ∨ (fold xs acc = none ∧ ¬ ((∀ x ∈ xs, okL x = true) ∧ (names (acc ++ xs.map ent)).Nodup)) := by
  induction xs with
  | nil => intro acc h; left; simpa [fold] using h
  | cons x t ih =>
    intro acc h
    rw [fold]
    by_cases hc : okL x = true ∧ (pm x).1 ∉ names acc
    · rw [if_pos hc]
      have hn : (names (acc ++ [ent x])).Nodup := by
        rw [names_app, List.nodup_append]
        refine ⟨h, by simp [names], ?_⟩
        intro a ha b hb e
        simp [names, ent] at hb
        subst hb e
        exact hc.2 ha
      have e : acc ++ (x :: t).map ent = acc ++ [ent x] ++ t.map ent := by simp
      rw [e]
      rcases ih (acc ++ [ent x]) hn with ⟨h1, h2, h3⟩ | ⟨h1, h2⟩
      · left
        refine ⟨h1, ?_, h3⟩
        intro y hy
        rcases List.mem_cons.1 hy with rfl | hy
        · exact hc.1
        · exact h2 y hy
      · right
        exact ⟨h1, fun hh => h2 ⟨fun y hy => hh.1 y (List.mem_cons_of_mem _ hy), hh.2⟩⟩
    · rw [if_neg hc]
      right
      refine ⟨rfl, fun hh => hc ⟨hh.1 x List.mem_cons_self, fun hm => ?_⟩⟩
      have := hh.2
      rw [names_app, List.nodup_append] at this
      exact this.2.2 _ hm _ (by simp [names, ent]) rfl
theorem fold_good (xs : List (List UInt8)) : (fold xs [] = some (xs.map ent) ∧ good xs) ∨ (fold xs [] = none ∧ ¬ good xs) := by
  rcases fold_eq xs [] (by simp [names]) with ⟨h1, h2, h3⟩ | ⟨h1, h2⟩
  · exact .inl ⟨by simpa using h1, h2, by simpa using h3⟩
  · exact .inr ⟨h1, fun h => h2 ⟨h.1, by simpa using h.2⟩⟩
theorem good_mid (A B : List (List UInt8)) (x : List UInt8) (hx : okL x = true) : good (A ++ x :: B) ↔ good (A ++ B) ∧ (pm x).1 ∉ names ((A ++ B).map ent) := by
  have hp : (A ++ x :: B).Perm (x :: (A ++ B)) := List.perm_middle
  unfold good
  have hp2 : (names ((A ++ x :: B).map ent)).Perm (names ((x :: (A ++ B)).map ent)) := by unfold names; exact (hp.map ent).map _
  rw [hp2.nodup_iff]
  have e : names ((x :: (A ++ B)).map ent) = (pm x).1 :: names ((A ++ B).map ent) := rfl
  rw [e, List.nodup_cons]
  constructor
  · rintro ⟨h1, h2, h3⟩
    exact ⟨⟨fun y hy => h1 y (hp.mem_iff.2 (List.mem_cons_of_mem _ hy)), h3⟩, h2⟩
  · rintro ⟨⟨h1, h3⟩, h2⟩
    refine ⟨fun y hy => ?_, h2, h3⟩
    rcases List.mem_cons.1 (hp.mem_iff.1 hy) with rfl | hy
    · exact hx
    · exact h1 y hy
theorem find_none (es : List Ent) (nm : List UInt8) : es.find? (fun e => e.1 == nm) = none ↔ nm ∉ names es := by
  rw [List.find?_eq_none]
  unfold names
  constructor
  · intro h hm
    obtain ⟨e, he, rfl⟩ := List.mem_map.1 hm
    exact h e he (by simp)
  · intro h e he hh
    exact h (List.mem_map.2 ⟨e, he, by simpa using hh⟩)
theorem look_has (es : List Ent) (nm : List UInt8) : (look es nm).2.2 = true ↔ nm ∈ names es := by
  unfold look
  cases h : es.find? (fun e => e.1 == nm) with
  | none => simp; exact (find_none es nm).1 h
  | some e =>
    simp
    have h1 := List.mem_of_find?_eq_some h
    have h2 := List.find?_some h
    exact List.mem_map.2 ⟨e, h1, by simpa using h2⟩
theorem look_mid_same (A B : List Ent) (x : Ent) (h : x.1 ∉ names A) : look (A ++ x :: B) x.1 = (x.2.1, x.2.2, true) := by
  unfold look
  rw [List.find?_append, (find_none A x.1).2 h, List.find?_cons_of_pos (by simp)]; rfl
theorem look_mid_other (A B : List Ent) (x : Ent) (nm : List UInt8) (h : x.1 ≠ nm) : look (A ++ x :: B) nm = look (A ++ B) nm := by
  unfold look
  rw [List.find?_append, List.find?_append, List.find?_cons_of_neg (by simpa using h)]

theorem last_app (a b : List UInt8) (h : b ≠ []) : (a ++ b).getLast? = b.getLast? := by
  cases b with
  | nil => exact absurd rfl h
  | cons c r => rw [List.getLast?_append]; cases hh : (c :: r).getLast? with
    | none => simp at hh
    | some x => rfl
theorem last_split {q : List UInt8} (h : q.getLast? = some 10) : ∃ q', q = q' ++ [10] := by
  have hne : q ≠ [] := fun e => by subst e; simp at h
  refine ⟨q.dropLast, ?_⟩
  have := List.dropLast_concat_getLast hne
  rw [List.getLast?_eq_some_getLast hne] at h
  injection h with h
  rw [h] at this
  exact this.symm
theorem lnsO_snoc (b : List UInt8) : lnsO (b ++ [10]) = some (lines b) := by
  unfold lnsO
  rw [List.getLast?_concat, if_pos rfl, List.dropLast_concat]
/-- What a line that is put in at a line's start does to the lines. -/
theorem added (p q x : List UInt8) (hp : p = [] ∨ ∃ p', p = p' ++ [10]) (hx : (10 : UInt8) ∉ x) :
    (p ++ q = [] ∧ lnsO (p ++ (x ++ 10 :: q)) = some [x]) ∨ (p ++ q ≠ [] ∧ lnsO (p ++ q) = none ∧ lnsO (p ++ (x ++ 10 :: q)) = none) ∨ ∃ A B, p ++ q ≠ [] ∧ lnsO (p ++ q) = some (A ++ B) ∧ lnsO (p ++ (x ++ 10 :: q)) = some (A ++ x :: B) := by
  have hx1 := lines_none x hx
  by_cases hq : q = []
  · subst hq
    rcases hp with rfl | ⟨p', rfl⟩
    · left
      refine ⟨rfl, ?_⟩
      rw [List.nil_append, lnsO_snoc, hx1]
    · right; right
      refine ⟨lines p', [], by simp, by rw [List.append_nil, List.append_nil, lnsO_snoc], ?_⟩
      have e : p' ++ [10] ++ (x ++ [10]) = (p' ++ 10 :: x) ++ [10] := by simp
      rw [e, lnsO_snoc, lines_app, hx1]
  · right
    have hne : p ++ q ≠ [] := by simp [hq]
    have hl : (p ++ q).getLast? = q.getLast? := last_app p q hq
    have hl2 : (p ++ (x ++ 10 :: q)).getLast? = q.getLast? := by
      have e : p ++ (x ++ 10 :: q) = (p ++ x ++ [10]) ++ q := by simp
      rw [e]; exact last_app _ q hq
    by_cases h10 : q.getLast? = some 10
    · right
      obtain ⟨q', rfl⟩ := last_split h10
      rcases hp with rfl | ⟨p', rfl⟩
      · refine ⟨[], lines q', hne, by rw [List.nil_append, lnsO_snoc]; rfl, ?_⟩
        have e : [] ++ (x ++ 10 :: (q' ++ [10])) = (x ++ 10 :: q') ++ [10] := by simp
        rw [e, lnsO_snoc, lines_app, hx1]; rfl
      · refine ⟨lines p', lines q', hne, ?_, ?_⟩
        · have e : p' ++ [10] ++ (q' ++ [10]) = (p' ++ 10 :: q') ++ [10] := by simp
          rw [e, lnsO_snoc, lines_app]
        · have e : p' ++ [10] ++ (x ++ 10 :: (q' ++ [10])) = (p' ++ 10 :: (x ++ 10 :: q')) ++ [10] := by simp
          rw [e, lnsO_snoc, lines_app, lines_app, hx1]; simp
    · left
      refine ⟨hne, ?_, ?_⟩ <;> unfold lnsO
      · rw [hl, if_neg h10]
      · rw [hl2, if_neg h10]
def lookO (o : Option (List Ent)) (nm : List UInt8) : Int × Int × Bool := match o with
  | none => (0, 0, false)
  | some es => look es nm
/-- ████ A LINE THAT IS PUT IN IS SEEN ████ -/
theorem added_law (p q x nm other : List UInt8) (st sq : Int) (hp : p = [] ∨ ∃ p', p = p' ++ [10]) (hx : (10 : UInt8) ∉ x) (hpm : pm x = (nm, st, sq, true)) (ho : other ≠ nm) :
    (if p ++ q = [] ∨ (marks (p ++ q) ≠ none ∧ (lookO (marks (p ++ q)) nm).2.2 = false) then ∃ es, marks (p ++ (x ++ 10 :: q)) = some es ∧ look es nm = (st, sq, true) ∧ look es other = lookO (marks (p ++ q)) other
     else marks (p ++ (x ++ 10 :: q)) = none) := by
  have hok : okL x = true := by unfold okL; rw [hpm]
  have hent : ent x = (nm, st, sq) := by unfold ent; rw [hpm]
  have hnm : (pm x).1 = nm := by rw [hpm]
  rcases added p q x hp hx with ⟨h0, h1⟩ | ⟨h0, h1, h2⟩ | ⟨A, B, h0, h1, h2⟩
  · rw [if_pos (.inl h0)]
    refine ⟨[(nm, st, sq)], ?_, ?_, ?_⟩
    · unfold marks; rw [h1]; simp only
      rw [fold, if_pos ⟨hok, by simp [names]⟩, hent]; rfl
    · exact look_mid_same [] [] (nm, st, sq) (by simp [names])
    · rw [h0]
      have := look_mid_other [] [] (nm, st, sq) other (fun e => ho e.symm)
      exact this.trans rfl
  · have e : marks (p ++ q) = none := by unfold marks; rw [h1]
    rw [if_neg (by rw [e]; simp; exact fun h h' => h0 (by rw [h, h']; rfl))]
    unfold marks; rw [h2]
  · have e1 : marks (p ++ q) = fold (A ++ B) [] := by unfold marks; rw [h1]
    have e2 : marks (p ++ (x ++ 10 :: q)) = fold (A ++ x :: B) [] := by unfold marks; rw [h2]
    rw [e1, e2]
    rcases fold_good (A ++ x :: B) with ⟨g1, g2⟩ | ⟨g1, g2⟩
    · rw [good_mid A B x hok, hnm] at g2
      rcases fold_good (A ++ B) with ⟨k1, k2⟩ | ⟨k1, k2⟩
      · rw [k1, g1]
        have hno : (lookO (some ((A ++ B).map ent)) nm).2.2 = false := by
          rw [← Bool.not_eq_true]; exact fun h => g2.2 ((look_has _ _).1 h)
        rw [if_pos (.inr ⟨by simp, hno⟩)]
        have e3 : (A ++ x :: B).map ent = A.map ent ++ (nm, st, sq) :: B.map ent := by simp [hent]
        have e4 : (A ++ B).map ent = A.map ent ++ B.map ent := by simp
        refine ⟨_, rfl, ?_, ?_⟩
        · rw [e3]
          refine look_mid_same _ _ (nm, st, sq) fun h => g2.2 ?_
          rw [e4, names_app]; exact List.mem_append_left _ h
        · rw [e3, look_mid_other _ _ (nm, st, sq) other (fun e => ho e.symm), ← e4]; rfl
      · exact absurd g2.1 k2
    · rw [good_mid A B x hok, hnm] at g2
      rw [g1, if_neg]
      rintro (h | ⟨h, h'⟩)
      · exact h0 h
      · rcases fold_good (A ++ B) with ⟨k1, k2⟩ | ⟨k1, k2⟩
        · refine g2 ⟨k2, fun hm => ?_⟩
          rw [k1] at h'
          have := (look_has _ _).2 hm
          unfold lookO at h'
          rw [this] at h'; cases h'
        · exact h k1
end Go.Proofs.Qxb6608740aFmt.Pl
