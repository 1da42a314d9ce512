/-
  PLAIN LAW of seat b6606095aD, its proof: 'mparse l = goParse l' for every list of bytes.
-/
import Derived.Test.Qxb6606095aDoorPlain
namespace Go.Proofs.Qxb6606095aDoor.Pl
open Go
set_option linter.unusedSimpArgs false

/-! ### strings.Cut at one byte -/
theorem occ_one (s : List UInt8) (c : UInt8) (j : Nat) : Lib.occAt s [c] j = decide (s[j]? = some c) := by
  unfold Lib.occAt
  rw [← List.head?_drop]
  cases s.drop j with
  | nil => simp
  | cons x r =>
    rw [Bool.eq_iff_iff]
    simp only [List.isPrefixOf, Bool.and_true, beq_iff_eq, List.head?_cons, Option.some.injEq, decide_eq_true_eq]
    exact eq_comm

theorem cut_none {l : List UInt8} {c : UInt8} (h : c ∉ l) : Lib.cut l [c] = (l, [], false) := by
  have hi : Lib.index l [c] = -1 := by
    refine Lib.index_none fun j _ => ?_
    rw [occ_one, decide_eq_false_iff_not]
    intro e
    exact h (List.mem_of_getElem? e)
  unfold Lib.cut
  rw [if_neg (by rw [hi]; omega)]

theorem cut_some {p q : List UInt8} {c : UInt8} (h : c ∉ p) : Lib.cut (p ++ c :: q) [c] = (p, q, true) := by
  have hi : Lib.index (p ++ c :: q) [c] = p.length := by
    refine Lib.index_first (by simp) ?_ ?_
    · rw [occ_one, decide_eq_true_eq]; simp
    · intro j hj
      rw [occ_one, decide_eq_false_iff_not, List.getElem?_append_left hj]
      intro e
      exact h (List.mem_of_getElem? e)
  unfold Lib.cut
  rw [if_pos (by rw [hi]; omega), hi]
  simp only [Int.toNat_natCast, List.take_left', List.length_cons, List.length_nil]
  have e : (p ++ c :: q) = (p ++ [c]) ++ q := by simp
  have hl : p.length + (0 + 1) = (p ++ [c]).length := by simp
  rw [e, hl, List.drop_left' rfl]

theorem cut_pre {p r : List UInt8} {c y : UInt8} (h : c ∉ p) (hy : y ≠ c) : ∃ u, (Lib.cut (p ++ y :: r) [c]).1 = p ++ y :: u := by
  by_cases hr : c ∈ r
  · obtain ⟨a, b, rfl, ha⟩ := List.eq_append_cons_of_mem hr
    have e : p ++ y :: (a ++ c :: b) = (p ++ y :: a) ++ c :: b := by simp
    rw [e, cut_some (by simp only [List.mem_append, List.mem_cons, not_or]; exact ⟨h, fun e => hy e.symm, ha⟩)]
    exact ⟨a, rfl⟩
  · rw [cut_none (by simp only [List.mem_append, List.mem_cons, not_or]; exact ⟨h, fun e => hy e.symm, hr⟩)]
    exact ⟨r, rfl⟩

/-! ### digits -/
theorem dig_ne {c x : UInt8} (h : dig c = true) (hx : dig x = false) : c ≠ x := fun e => by rw [e, hx] at h; cases h
theorem dig48 : dig 48 = true := by decide
theorem not_mem_dig {w : List UInt8} {x : UInt8} (h : w.all dig = true) (hx : dig x = false) : x ∉ w := fun hm => by
  have := List.all_eq_true.1 h x hm
  rw [hx] at this; cases this
theorem allDigits_bad {p u : List UInt8} {y : UInt8} (h : dig y = false) : allDigits (p ++ y :: u) = false := by
  unfold allDigits; simp [h]
theorem allDigits_of {w : List UInt8} (h : w.all dig = true) (hn : w ≠ []) : allDigits w = true := by
  unfold allDigits; rw [h]; cases w <;> simp_all
theorem takeWhile_all {w r : List UInt8} (h : w.all dig = true) (hr : ∀ x u, r = x :: u → dig x = false) : (w ++ r).takeWhile dig = w := by
  induction w with
  | nil =>
    cases r with
    | nil => rfl
    | cons x u => simp [List.takeWhile_cons, hr x u rfl]
  | cons c w ih =>
    simp only [List.all_cons, Bool.and_eq_true] at h
    simp [List.takeWhile_cons, h.1, ih h.2]
theorem span_dig (t : List UInt8) : ∃ w r, t = w ++ r ∧ w.all dig = true ∧ ∀ x u, r = x :: u → dig x = false := by
  refine ⟨t.takeWhile dig, t.dropWhile dig, List.takeWhile_append_dropWhile.symm, List.all_takeWhile, ?_⟩
  intro x u e
  have := List.head?_dropWhile_not dig t
  rw [e] at this
  simpa using this

/-! ### the loops over lists -/
def nzL : List UInt8 → Nat → Int → Int → Int × Int
  | [], _, f, t => (f, t)
  | c :: d, k, f, t => if (c.toNat : Int) = 48 then nzL d (k + 1) f t else nzL d (k + 1) (if f < 0 then (k : Int) else f) k
def sigL : List UInt8 → Int → Int → Option Int
  | [], _, e => some e
  | c :: d, sig, e => if sig = 0 ∧ (c.toNat : Int) = 48 then sigL d sig e else if 9 < sig + 1 then none else sigL d (sig + 1) (e * 10 + ((c.toNat : Int) - 48))

theorem B_mid (p q : List UInt8) (c : UInt8) : B (p ++ c :: q) p.length = c.toNat := by rw [B_at, B_cons]
theorem snoc (p d q : List UInt8) (c : UInt8) : p ++ c :: d ++ q = (p ++ [c]) ++ d ++ q := by simp
theorem nz_list (q : List UInt8) : ∀ (d p : List UInt8) (f t : Int), nzGo (p ++ d ++ q) d.length p.length f t = nzL d p.length f t := by
  intro d
  induction d with
  | nil => intro p f t; rfl
  | cons c d ih =>
    intro p f t
    have hb : B (p ++ c :: d ++ q) p.length = c.toNat := by
      rw [List.append_assoc, List.cons_append]; exact B_mid p (d ++ q) c
    have ih' := ih (p ++ [c])
    rw [List.length_append, List.length_singleton] at ih'
    rw [List.length_cons, nzGo, nzL, hb, snoc, ih', ih']
theorem sig_list (q : List UInt8) : ∀ (d p : List UInt8) (s e : Int), sigGo (p ++ d ++ q) d.length p.length s e = sigL d s e := by
  intro d
  induction d with
  | nil => intro p s e; rfl
  | cons c d ih =>
    intro p s e
    have hb : B (p ++ c :: d ++ q) p.length = c.toNat := by
      rw [List.append_assoc, List.cons_append]; exact B_mid p (d ++ q) c
    have ih' := ih (p ++ [c])
    rw [List.length_append, List.length_singleton] at ih'
    rw [List.length_cons, sigGo, sigL, hb, snoc, ih', ih']
theorem getD_mid (p q : List UInt8) (c : UInt8) : (p ++ c :: q).getD p.length 0 = c := by
  rw [List.getD_eq_getElem?_getD]; simp
theorem buf_list (q : List UInt8) : ∀ (d p : List UInt8), bufGo (p ++ d ++ q) d.length p.length = d.filter (fun c => !(c == 46)) := by
  intro d
  induction d with
  | nil => intro p; rfl
  | cons c d ih =>
    intro p
    have hb : B (p ++ c :: d ++ q) p.length = c.toNat := by
      rw [List.append_assoc, List.cons_append]; exact B_mid p (d ++ q) c
    have hg : (p ++ c :: d ++ q).getD p.length 0 = c := by
      rw [List.append_assoc, List.cons_append]; exact getD_mid p (d ++ q) c
    have ih' := ih (p ++ [c])
    rw [List.length_append, List.length_singleton] at ih'
    rw [List.length_cons, bufGo, hb, hg, snoc, ih']
    by_cases h : c = 46
    · subst h; simp
    · have h2 : ¬ (c.toNat : Int) = 46 := by
        intro e
        exact h (UInt8.toNat_inj.1 (by simp; omega))
      rw [if_neg h2, List.filter_cons_of_pos (by simpa using h)]

/-! ### zeros in front and behind -/
def zeros (z : List UInt8) : Prop := ∀ c ∈ z, c = 48
theorem nz_zeros : ∀ (z : List UInt8) (k : Nat) (f t : Int), zeros z → nzL z k f t = (f, t) := by
  intro z
  induction z with
  | nil => intros; rfl
  | cons c z ih =>
    intro k f t h
    have hc : c = 48 := h c (List.mem_cons_self ..)
    subst hc
    rw [nzL, if_pos (by rfl)]
    exact ih _ _ _ fun x hx => h x (List.mem_cons_of_mem _ hx)
theorem nz_append : ∀ (a b : List UInt8) (k : Nat) (f t : Int), nzL (a ++ b) k f t = nzL b (k + a.length) (nzL a k f t).1 (nzL a k f t).2 := by
  intro a
  induction a with
  | nil => intros; rfl
  | cons c a ih =>
    intro b k f t
    rw [List.cons_append, nzL, nzL]
    split
    · rw [ih, List.length_cons]; congr 1; omega
    · rw [ih, List.length_cons]; congr 1; omega
theorem nz_keeps : ∀ (a : List UInt8) (k : Nat) (f t : Int), 0 ≤ f → (nzL a k f t).1 = f := by
  intro a
  induction a with
  | nil => intros; rfl
  | cons c a ih =>
    intro k f t h
    rw [nzL]
    split
    · exact ih _ _ _ h
    · rw [if_neg (by omega)]; exact ih _ _ _ h
theorem ne48 {y : UInt8} (h : y ≠ 48) : ¬ (y.toNat : Int) = 48 := fun e => h (UInt8.toNat_inj.1 (by simp; omega))
theorem nz_first (z b : List UInt8) (y : UInt8) (k : Nat) (f t : Int) (hz : zeros z) (hy : y ≠ 48) : (nzL (z ++ y :: b) k f t).1 = if f < 0 then (k + z.length : Int) else f := by
  rw [nz_append, nz_zeros z _ _ _ hz, nzL, if_neg (ne48 hy)]
  by_cases hf : f < 0
  · rw [if_pos hf, if_pos hf, nz_keeps _ _ _ _ (by omega)]; omega
  · rw [if_neg hf, if_neg hf, nz_keeps _ _ _ _ (by omega)]
theorem nz_last (a z : List UInt8) (x : UInt8) (k : Nat) (f t : Int) (hz : zeros z) (hx : x ≠ 48) : (nzL (a ++ x :: z) k f t).2 = (k + a.length : Int) := by
  rw [nz_append, nzL, if_neg (ne48 hx), nz_zeros z _ _ _ hz]
  simp

theorem drop_zeros (z b : List UInt8) (y : UInt8) (hz : zeros z) (hy : y ≠ 48) : Lib.trimLeftB (z ++ y :: b) 48 = y :: b := by
  unfold Lib.trimLeftB
  induction z with
  | nil => simp [hy]
  | cons c z ih =>
    have hc : c = 48 := hz c (List.mem_cons_self ..)
    subst hc
    simp only [List.cons_append, List.dropWhile_cons, beq_self_eq_true, if_true]
    exact ih fun x hx => hz x (List.mem_cons_of_mem _ hx)
theorem drop_all_zeros (z : List UInt8) (hz : zeros z) : Lib.trimLeftB z 48 = [] := by
  unfold Lib.trimLeftB
  induction z with
  | nil => rfl
  | cons c z ih =>
    have hc : c = 48 := hz c (List.mem_cons_self ..)
    subst hc
    simp only [List.dropWhile_cons, beq_self_eq_true, if_true]
    exact ih fun x hx => hz x (List.mem_cons_of_mem _ hx)
theorem drop_back (a z : List UInt8) (x : UInt8) (hz : zeros z) (hx : x ≠ 48) : Lib.trimRightB (a ++ x :: z) 48 = a ++ [x] := by
  have hr : zeros z.reverse := fun c hc => hz c (List.mem_reverse.1 hc)
  have := drop_zeros z.reverse a.reverse x hr hx
  unfold Lib.trimLeftB at this
  unfold Lib.trimRightB
  have e : (a ++ x :: z).reverse = z.reverse ++ x :: a.reverse := by simp
  rw [e, this]; simp
theorem split_front (d : List UInt8) : zeros d ∨ ∃ z y b, d = z ++ y :: b ∧ zeros z ∧ y ≠ 48 := by
  induction d with
  | nil => exact .inl fun c hc => by cases hc
  | cons c d ih =>
    by_cases hc : c = 48
    · subst hc
      rcases ih with h | ⟨z, y, b, rfl, hz, hy⟩
      · exact .inl fun x hx => by rcases List.mem_cons.1 hx with rfl | hx; · rfl
                                  exact h x hx
      · refine .inr ⟨48 :: z, y, b, rfl, fun x hx => ?_, hy⟩
        rcases List.mem_cons.1 hx with rfl | hx
        · rfl
        · exact hz x hx
    · exact .inr ⟨[], c, d, rfl, (fun x hx => by cases hx), hc⟩
/-- zeros; or zeros, a piece that begins and ends otherwise, zeros. -/
theorem split_both (d : List UInt8) : zeros d ∨ ∃ z1 m z2 y b a x, d = z1 ++ m ++ z2 ∧ zeros z1 ∧ zeros z2 ∧ m = y :: b ∧ m = a ++ [x] ∧ y ≠ 48 ∧ x ≠ 48 := by
  rcases split_front d with h | ⟨z, y, b, rfl, hz, hy⟩
  · exact .inl h
  · right
    rcases split_front (y :: b).reverse with h | ⟨z', x, a, he, hz', hx⟩
    · exact absurd (h y (by simp)) hy
    · have e2 : y :: b = a.reverse ++ x :: z'.reverse := by
        have := congrArg List.reverse he
        rw [List.reverse_reverse] at this
        rw [this]; simp
      have hr : zeros z'.reverse := fun c hc => hz' c (List.mem_reverse.1 hc)
      cases ha : a.reverse with
      | nil =>
        rw [ha, List.nil_append] at e2
        injection e2 with e3 e4
        subst e3 e4
        exact ⟨z, [y], z'.reverse, y, [], [], y, by simp, hz, hr, rfl, rfl, hy, hx⟩
      | cons c a' =>
        rw [ha, List.cons_append] at e2
        injection e2 with e3 e4
        subst e3 e4
        exact ⟨z, y :: (a' ++ [x]), z'.reverse, y, a' ++ [x], y :: a', x, by simp, hz, hr, rfl, rfl, hy, hx⟩

theorem filter_digits {m : List UInt8} (h : m.all dig = true) : m.filter (fun c => !(c == 46)) = m := by
  rw [List.filter_eq_self]
  intro c hc
  have := dig_ne (List.all_eq_true.1 h c hc) (by decide : dig 46 = false)
  simpa using this

/-! ### the tail of both -/
theorem zeros_append {a b : List UInt8} (ha : zeros a) (hb : zeros b) : zeros (a ++ b) := fun c hc => by
  rcases List.mem_append.1 hc with h | h
  · exact ha c h
  · exact hb c h
theorem norm_zero (neg : Bool) (e : Int) : normal neg [] e = (false, [], 0, true) := rfl
theorem norm_of (neg : Bool) (a z : List UInt8) (x : UInt8) (e : Int) (hz : zeros z) (hx : x ≠ 48) :
    normal neg (a ++ x :: z) e = (neg, a ++ [x], e + z.length, true) := by
  unfold normal
  rw [drop_back a z x hz hx]
  simp only
  have hne : (a ++ [x]).isEmpty = false := by cases a <;> rfl
  rw [hne]
  simp
  omega

/-- The scanner's tail at a text that has been read to its end: sign, digits, a point (or none), digits. -/
theorem tail_list (neg : Bool) (sg w dt f ex : List UInt8) (e : Int) (hw : w.all dig = true) (hf : f.all dig = true) (hdt : dt = [46] ∨ (dt = [] ∧ f = [])) :
    tail (sg ++ w ++ dt ++ f ++ ex) neg sg.length (sg ++ w).length (sg ++ w ++ dt).length (sg ++ w ++ dt ++ f).length e (sg ++ w ++ dt ++ f ++ ex).length
      = normal neg (Lib.trimLeftB (w ++ f) 48) (e - f.length) := by
  unfold tail
  rw [if_neg (by simp)]
  have l1 : (sg ++ w).length - sg.length = w.length := by simp
  have l2 : (sg ++ w ++ dt ++ f).length - (sg ++ w ++ dt).length = f.length := by simp; omega
  have n1 : ∀ a b, nzGo (sg ++ w ++ dt ++ f ++ ex) w.length sg.length a b = nzL w sg.length a b := fun a b => by
    have := nz_list (dt ++ f ++ ex) w sg a b
    simpa using this
  have n2 : ∀ a b, nzGo (sg ++ w ++ dt ++ f ++ ex) f.length (sg ++ w ++ dt).length a b = nzL f (sg ++ w ++ dt).length a b := fun a b => by
    exact nz_list ex f (sg ++ w ++ dt) a b
  simp only [l1, l2, n1, n2]
  have ewe : (((sg ++ w).length : Nat) : Int) = sg.length + w.length := by simp
  have efs : (((sg ++ w ++ dt).length : Nat) : Int) = sg.length + w.length + dt.length := by simp only [List.length_append]; omega
  rcases split_both w with zw | ⟨z1, m, z2, y, b, a, x, hwe, hz1, hz2, hm1, hm2, hy, hx⟩
  · rw [nz_zeros w _ _ _ zw]
    rcases split_both f with zf | ⟨z1, m, z2, y, b, a, x, hfe, hz1, hz2, hm1, hm2, hy, hx⟩
    · rw [nz_zeros f _ _ _ zf, drop_all_zeros _ (zeros_append zw zf), norm_zero]
      simp
    · have h1 : (nzL f (sg ++ w ++ dt).length (-1) (-1)).1 = ((sg ++ w ++ dt).length + z1.length : Int) := by
        rw [hfe, hm1, List.append_assoc, List.cons_append, nz_first z1 (b ++ z2) y _ _ _ hz1 hy, if_pos (by omega)]
      have h2 : (nzL f (sg ++ w ++ dt).length (-1) (-1)).2 = ((sg ++ w ++ dt).length + (z1 ++ a).length : Int) := by
        have ef : f = (z1 ++ a) ++ x :: z2 := by rw [hfe, hm2]; simp
        rw [ef, nz_last (z1 ++ a) z2 x _ _ _ hz2 hx]
      have hml : m.length = a.length + 1 := by rw [hm2]; simp
      have hL : Lib.trimLeftB (w ++ f) 48 = a ++ x :: z2 := by
        have e1 : w ++ f = (w ++ z1) ++ y :: (b ++ z2) := by rw [hfe, hm1]; simp
        have e2 : y :: (b ++ z2) = a ++ x :: z2 := by
          have : y :: b = a ++ [x] := by rw [← hm1, hm2]
          rw [← List.cons_append, this]; simp
        rw [e1, drop_zeros _ _ _ (zeros_append zw hz1) hy, e2]
      rw [hL, norm_of neg a z2 x _ hz2 hx]
      simp only [h1, h2]
      have hfl : f.length = z1.length + m.length + z2.length := by rw [hfe]; simp only [List.length_append]
      have hma : m.all dig = true := by
        rw [hfe] at hf; simp only [List.all_append, Bool.and_eq_true] at hf; exact hf.1.2
      have hb := buf_list (z2 ++ ex) m (sg ++ w ++ dt ++ z1)
      have el : sg ++ w ++ dt ++ z1 ++ m ++ (z2 ++ ex) = sg ++ w ++ dt ++ f ++ ex := by rw [hfe]; simp
      rw [el, filter_digits hma] at hb
      have c1 : ((((sg ++ w ++ dt).length : Nat) : Int) + (((z1 ++ a).length : Nat) : Int) - ((((sg ++ w ++ dt).length : Nat) : Int) + z1.length) + 1).toNat = m.length := by
        simp only [List.length_append]; omega
      have c2 : ((((sg ++ w ++ dt).length : Nat) : Int) + (z1.length : Int)).toNat = (sg ++ w ++ dt ++ z1).length := by
        simp only [List.length_append]; omega
      rw [if_neg (by omega), c1, c2, hb, if_neg (by simp only [List.length_append]; omega), hm2]
      refine Prod.ext rfl (Prod.ext rfl (Prod.ext ?_ rfl))
      simp only [List.length_append]
      omega
  · have h1 : (nzL w sg.length (-1) (-1)).1 = (sg.length + z1.length : Int) := by
      rw [hwe, hm1, List.append_assoc, List.cons_append, nz_first z1 (b ++ z2) y _ _ _ hz1 hy, if_pos (by omega)]
    have h2 : (nzL w sg.length (-1) (-1)).2 = (sg.length + (z1 ++ a).length : Int) := by
      have ef : w = (z1 ++ a) ++ x :: z2 := by rw [hwe, hm2]; simp
      rw [ef, nz_last (z1 ++ a) z2 x _ _ _ hz2 hx]
    have hml : m.length = a.length + 1 := by rw [hm2]; simp
    have hwl : w.length = z1.length + m.length + z2.length := by rw [hwe]; simp only [List.length_append]
    have hma : m.all dig = true ∧ z2.all dig = true := by
      rw [hwe] at hw; simp only [List.all_append, Bool.and_eq_true] at hw; exact ⟨hw.1.2, hw.2⟩
    rcases split_both f with zf | ⟨z1', m', z2', y', b', a', x', hfe, hz1', hz2', hm1', hm2', hy', hx'⟩
    · rw [nz_zeros f _ _ _ zf]
      have hL : Lib.trimLeftB (w ++ f) 48 = a ++ x :: (z2 ++ f) := by
        have e1 : w ++ f = z1 ++ y :: (b ++ (z2 ++ f)) := by rw [hwe, hm1]; simp
        have e2 : y :: (b ++ (z2 ++ f)) = a ++ x :: (z2 ++ f) := by
          have : y :: b = a ++ [x] := by rw [← hm1, hm2]
          rw [← List.cons_append, this]; simp
        rw [e1, drop_zeros _ _ _ hz1 hy, e2]
      rw [hL, norm_of neg a (z2 ++ f) x _ (zeros_append hz2 zf) hx]
      simp only [h1, h2]
      have hb := buf_list (z2 ++ dt ++ f ++ ex) m (sg ++ z1)
      have el : sg ++ z1 ++ m ++ (z2 ++ dt ++ f ++ ex) = sg ++ w ++ dt ++ f ++ ex := by rw [hwe]; simp
      rw [el, filter_digits hma.1] at hb
      have c1 : ((sg.length : Int) + (((z1 ++ a).length : Nat) : Int) - ((sg.length : Int) + z1.length) + 1).toNat = m.length := by
        simp only [List.length_append]; omega
      have c2 : ((sg.length : Int) + (z1.length : Int)).toNat = (sg ++ z1).length := by
        simp only [List.length_append]; omega
      rw [if_neg (by omega), c1, c2, hb, if_pos (by simp only [List.length_append]; omega), hm2]
      refine Prod.ext rfl (Prod.ext rfl (Prod.ext ?_ rfl))
      simp only [List.length_append]
      omega
    · have g1 : ∀ t, (nzL f (sg ++ w ++ dt).length (sg.length + z1.length) t).1 = (sg.length + z1.length : Int) := fun t => nz_keeps _ _ _ _ (by omega)
      have g2 : ∀ s t, (nzL f (sg ++ w ++ dt).length s t).2 = ((sg ++ w ++ dt).length + (z1' ++ a').length : Int) := fun s t => by
        have ef : f = (z1' ++ a') ++ x' :: z2' := by rw [hfe, hm2']; simp
        rw [ef, nz_last (z1' ++ a') z2' x' _ _ _ hz2' hx']
      have hml' : m'.length = a'.length + 1 := by rw [hm2']; simp
      have hfl : f.length = z1'.length + m'.length + z2'.length := by rw [hfe]; simp only [List.length_append]
      have hma' : z1'.all dig = true ∧ m'.all dig = true := by
        rw [hfe] at hf; simp only [List.all_append, Bool.and_eq_true] at hf; exact ⟨hf.1.1, hf.1.2⟩
      have hL : Lib.trimLeftB (w ++ f) 48 = (m ++ z2 ++ z1' ++ a') ++ x' :: z2' := by
        have e1 : w ++ f = z1 ++ y :: (b ++ (z2 ++ f)) := by rw [hwe, hm1]; simp
        have e2 : y :: (b ++ (z2 ++ f)) = (m ++ z2 ++ z1' ++ a') ++ x' :: z2' := by
          rw [hfe, hm1, hm2']; simp
        rw [e1, drop_zeros _ _ _ hz1 hy, e2]
      rw [hL, norm_of neg (m ++ z2 ++ z1' ++ a') z2' x' _ hz2' hx']
      simp only [h1, g1, g2]
      have hdl : dt = [46] := by
        rcases hdt with h | ⟨_, h⟩
        · exact h
        · rw [h] at hfl; simp at hfl; omega
      have hb := buf_list (z2' ++ ex) (m ++ z2 ++ dt ++ z1' ++ m') (sg ++ z1)
      have el : sg ++ z1 ++ (m ++ z2 ++ dt ++ z1' ++ m') ++ (z2' ++ ex) = sg ++ w ++ dt ++ f ++ ex := by rw [hwe, hfe]; simp
      have ef : (m ++ z2 ++ dt ++ z1' ++ m').filter (fun c => !(c == 46)) = m ++ z2 ++ z1' ++ m' := by
        rw [hdl]
        simp only [List.filter_append, filter_digits hma.1, filter_digits hma.2, filter_digits hma'.1, filter_digits hma'.2]
        simp
      rw [el, ef] at hb
      have c1 : ((((sg ++ w ++ dt).length : Nat) : Int) + (((z1' ++ a').length : Nat) : Int) - ((sg.length : Int) + z1.length) + 1).toNat = (m ++ z2 ++ dt ++ z1' ++ m').length := by
        simp only [List.length_append]; omega
      have c2 : ((sg.length : Int) + (z1.length : Int)).toNat = (sg ++ z1).length := by
        simp only [List.length_append]; omega
      rw [if_neg (by omega), c1, c2, hb, if_neg (by simp only [List.length_append]; omega), hm2']
      refine Prod.ext rfl (Prod.ext (by simp) (Prod.ext ?_ rfl))
      simp only [List.length_append]
      omega

/-! ### the exponent -/
def valI : List UInt8 → Int → Int
  | [], e => e
  | c :: d, e => valI d (e * 10 + ((c.toNat : Int) - 48))
theorem dig_range {c : UInt8} (h : dig c = true) : 48 ≤ c.toNat ∧ c.toNat ≤ 57 := of_decide_eq_true h
theorem valI_bd : ∀ (d : List UInt8) (e : Int), d.all dig = true → 0 ≤ e → e ≤ valI d e ∧ valI d e < (e + 1) * 10 ^ d.length := by
  intro d
  induction d with
  | nil => intro e _ h; simp [valI]; omega
  | cons c d ih =>
    intro e h he
    simp only [List.all_cons, Bool.and_eq_true] at h
    have hc := dig_range h.1
    have := ih (e * 10 + ((c.toNat : Int) - 48)) h.2 (by omega)
    rw [valI]
    refine ⟨by omega, Int.lt_of_lt_of_le this.2 ?_⟩
    rw [List.length_cons, Int.pow_succ, Int.mul_comm (10 ^ d.length) 10, ← Int.mul_assoc]
    exact Int.mul_le_mul_of_nonneg_right (by omega) (Int.pow_nonneg (by omega))
theorem valI_zeros : ∀ (z d : List UInt8), zeros z → valI (z ++ d) 0 = valI d 0 := by
  intro z
  induction z with
  | nil => intros; rfl
  | cons c z ih =>
    intro d h
    have hc : c = 48 := h c (List.mem_cons_self ..)
    subst hc
    rw [List.cons_append, valI]
    exact ih d fun x hx => h x (List.mem_cons_of_mem _ hx)
theorem sigL_go : ∀ (d : List UInt8) (s e : Int), 1 ≤ s → s ≤ 9 → sigL d s e = if 9 < s + d.length then none else some (valI d e) := by
  intro d
  induction d with
  | nil => intro s e h1 h2; rw [if_neg (by simp; omega)]; rfl
  | cons c d ih =>
    intro s e h1 h2
    rw [sigL, if_neg (by omega)]
    by_cases h : 9 < s + 1
    · rw [if_pos h, if_pos (by simp; omega)]
    · rw [if_neg h, ih _ _ (by omega) (by omega), List.length_cons, valI]
      by_cases h9 : 9 < s + 1 + (d.length : Int)
      · rw [if_pos h9, if_pos (by omega)]
      · rw [if_neg h9, if_neg (by omega)]
theorem sigL_zeros : ∀ (z d : List UInt8) (e : Int), zeros z → sigL (z ++ d) 0 e = sigL d 0 e := by
  intro z
  induction z with
  | nil => intros; rfl
  | cons c z ih =>
    intro d e h
    have hc : c = 48 := h c (List.mem_cons_self ..)
    subst hc
    rw [List.cons_append, sigL, if_pos ⟨rfl, rfl⟩]
    exact ih d e fun x hx => h x (List.mem_cons_of_mem _ hx)
theorem sigL_all (d : List UInt8) : sigL d 0 0 = if 9 < (Lib.trimLeftB d 48).length then none else some (valI d 0) := by
  rcases split_front d with h | ⟨z, y, b, rfl, hz, hy⟩
  · rw [drop_all_zeros d h, if_neg (by simp)]
    have e1 := sigL_zeros d [] 0 h
    have e2 := valI_zeros d [] h
    rw [List.append_nil] at e1 e2
    rw [e1, e2]; rfl
  · rw [sigL_zeros z _ 0 hz, valI_zeros z _ hz, drop_zeros z b y hz hy, sigL, if_neg (fun h => ne48 hy h.2), if_neg (by omega), sigL_go _ _ _ (by omega) (by omega), List.length_cons]
    by_cases h9 : 9 < b.length + 1
    · rw [if_pos h9, if_pos (by omega)]
    · rw [if_neg h9, if_neg (by omega)]; rfl
theorem valI_small (d : List UInt8) (hd : d.all dig = true) (h : (Lib.trimLeftB d 48).length ≤ 9) : 0 ≤ valI d 0 ∧ valI d 0 < 10 ^ 9 := by
  rcases split_front d with hz | ⟨z, y, b, rfl, hz, hy⟩
  · have e2 := valI_zeros d [] hz
    rw [List.append_nil] at e2
    rw [e2]; simp [valI]
  · rw [valI_zeros z _ hz]
    rw [drop_zeros z b y hz hy] at h
    simp only [List.all_append, Bool.and_eq_true] at hd
    have := valI_bd (y :: b) 0 hd.2 (by omega)
    refine ⟨this.1, Int.lt_of_lt_of_le this.2 ?_⟩
    have hp : (10 : Int) ^ (y :: b).length ≤ 10 ^ 9 := by
      have := Nat.pow_le_pow_right (n := 10) (by omega) h
      exact_mod_cast this
    omega
theorem parse_digits : ∀ (d : List UInt8) (acc : Nat), d.all dig = true → valI d acc < 10 ^ 18 → Lib.parseUint10 acc d = .ok (valI d acc).toNat := by
  intro d
  induction d with
  | nil => intro acc _ _; simp [Lib.parseUint10, valI]
  | cons c d ih =>
    intro acc h hv
    simp only [List.all_cons, Bool.and_eq_true] at h
    have hc := dig_range h.1
    rw [valI] at hv
    have e : ((acc * 10 + (c.toNat - 48) : Nat) : Int) = (acc : Int) * 10 + ((c.toNat : Int) - 48) := by omega
    have hb := (valI_bd d ((acc : Int) * 10 + ((c.toNat : Int) - 48)) h.2 (by omega)).1
    have hs : (acc : Int) * 10 + ((c.toNat : Int) - 48) < 10 ^ 18 := Int.lt_of_le_of_lt hb hv
    rw [Lib.parseUint10, if_pos hc, if_neg (by omega), if_neg (by omega), ih _ h.2 (by rw [e]; exact hv), valI, e]

def unsign (x : List UInt8) : List UInt8 := if signed x then x.drop 1 else x
def minus (x : List UInt8) : Bool := match x with
  | [] => false
  | c :: _ => c.toNat == 45
theorem atoi_of (x : List UInt8) (hd : allDigits (unsign x) = true) (h9 : (Lib.trimLeftB (unsign x) 48).length ≤ 9) : Lib.atoiAll x = .ok (if minus x then - valI (unsign x) 0 else valI (unsign x) 0) := by
  unfold allDigits at hd
  simp only [Bool.and_eq_true, Bool.not_eq_true', List.isEmpty_eq_false_iff] at hd
  have hv := valI_small _ hd.1 h9
  have hp := parse_digits (unsign x) 0 hd.1 (by have := hv.2; simp only [Int.ofNat_zero] at *; omega)
  cases x with
  | nil => simp [unsign, signed] at hd
  | cons c r =>
    have eu : unsign (c :: r) = if c.toNat = 43 ∨ c.toNat = 45 then r else c :: r := by
      unfold unsign signed
      by_cases h : c.toNat = 43 ∨ c.toNat = 45
      · rw [if_pos h, if_pos (by simpa using h)]; rfl
      · rw [if_neg h, if_neg (by simpa using h)]
    unfold Lib.atoiAll
    simp only
    rw [← eu]
    unfold Lib.parseMag
    rw [if_neg hd.2, hp]
    simp only [Int.ofNat_zero]
    have hm : minus (c :: r) = decide (c.toNat = 45) := by unfold minus; rw [Bool.eq_iff_iff]; simp
    rw [hm]
    by_cases h45 : c.toNat = 45
    · rw [if_neg (by omega), if_neg (by omega)]
      simp [h45]; omega
    · rw [if_neg (by omega), if_neg (by omega)]
      simp [h45]; omega

/-- The scanner behind the mantissa, at a text 'p ++ ex', p read. -/
theorem expo_nil (p : List UInt8) (neg : Bool) (ws we fs : Nat) : expo p neg ws we fs p.length = tail p neg ws we fs p.length 0 p.length := by
  unfold expo
  rw [if_neg (by omega)]
theorem tail_bad {l : List UInt8} {neg : Bool} {ws we fs fe i : Nat} {e : Int} (h : i ≠ l.length) : tail l neg ws we fs fe e i = bad := by
  unfold tail; rw [if_pos h]
theorem expo_other (p r : List UInt8) (x : UInt8) (neg : Bool) (ws we fs : Nat) (h1 : x ≠ 101) (h2 : x ≠ 69) : expo (p ++ x :: r) neg ws we fs p.length = bad := by
  unfold expo
  have hb : B (p ++ x :: r) p.length = x.toNat := B_mid p r x
  have n1 : ¬ (x.toNat : Int) = 101 := fun e => h1 (UInt8.toNat_inj.1 (by simp; omega))
  have n2 : ¬ (x.toNat : Int) = 69 := fun e => h2 (UInt8.toNat_inj.1 (by simp; omega))
  rw [if_neg (by rw [hb]; simp [n1, n2]), tail_bad (by simp)]
theorem expo_e (p r : List UInt8) (x : UInt8) (neg : Bool) (ws we fs : Nat) (hx : x = 101 ∨ x = 69) :
    expo (p ++ x :: r) neg ws we fs p.length = if allDigits (unsign r) then (if 9 < (Lib.trimLeftB (unsign r) 48).length then bad else tail (p ++ x :: r) neg ws we fs p.length (if minus r then - valI (unsign r) 0 else valI (unsign r) 0) (p ++ x :: r).length) else bad := by
  have hb : B (p ++ x :: r) p.length = x.toNat := B_mid p r x
  have hcond : p.length < (p ++ x :: r).length ∧ (B (p ++ x :: r) p.length = 101 ∨ B (p ++ x :: r) p.length = 69) := by
    rw [hb]
    refine ⟨by simp, ?_⟩
    rcases hx with rfl | rfl
    · left; rfl
    · right; rfl
  unfold expo
  rw [if_pos hcond]
  simp only
  have hb1 : B (p ++ x :: r) (p.length + 1) = B r 0 := by
    have e : p ++ x :: r = (p ++ [x]) ++ r := by simp
    have l : p.length + 1 = (p ++ [x]).length := by simp
    rw [e, l]; exact B_at _ _
  have hlen : p.length + 1 < (p ++ x :: r).length ↔ r ≠ [] := by
    cases r with
    | nil => simp
    | cons c r => simp
  -- the sign
  obtain ⟨sx, hsx, hun, hmi⟩ : ∃ sx : List UInt8, r = sx ++ unsign r ∧ (if p.length + 1 < (p ++ x :: r).length ∧ (B (p ++ x :: r) (p.length + 1) = 43 ∨ B (p ++ x :: r) (p.length + 1) = 45) then p.length + 1 + 1 else p.length + 1) = (p ++ [x] ++ sx).length ∧ decide (p.length + 1 < (p ++ x :: r).length ∧ B (p ++ x :: r) (p.length + 1) = 45) = minus r := by
    rw [hb1]
    simp only [hlen]
    clear hb hcond hb1 hlen
    cases r with
    | nil => exact ⟨[], by simp [unsign, signed], by simp, by simp [minus]⟩
    | cons c r =>
      have hm : decide ((c :: r : List UInt8) ≠ [] ∧ B (c :: r) 0 = 45) = minus (c :: r) := by
        simp only [ne_eq, reduceCtorEq, not_false_eq_true, true_and, B_cons, minus]
        rw [Bool.eq_iff_iff]; simp; omega
      by_cases h : c.toNat = 43 ∨ c.toNat = 45
      · have hs : signed (c :: r) = true := by unfold signed; simpa using h
        refine ⟨[c], by simp [unsign, hs], ?_, hm⟩
        rw [if_pos ⟨by simp, by rw [B_cons]; omega⟩]; simp
      · have hs : signed (c :: r) = false := by unfold signed; simpa using h
        refine ⟨[], by simp [unsign, hs], ?_, hm⟩
        rw [if_neg (by rw [B_cons]; omega)]; simp
  rw [hun, hmi]
  obtain ⟨d, q, hdq, hd, hq⟩ := span_dig (unsign r)
  have el : p ++ x :: r = (p ++ [x] ++ sx) ++ d ++ q := by
    have : p ++ x :: r = p ++ [x] ++ r := by simp
    rw [this]
    conv => lhs; rw [hsx, hdq]
    simp
  have hsc : scan (p ++ x :: r) (p ++ [x] ++ sx).length = (p ++ [x] ++ sx).length + d.length := by
    rw [el, List.append_assoc _ d q, scan_at, takeWhile_all hd hq]
  rw [hsc]
  have hsg : sigGo (p ++ x :: r) d.length (p ++ [x] ++ sx).length 0 0 = sigL d 0 0 := by
    rw [el]; exact sig_list q d _ 0 0
  have hsub : (p ++ [x] ++ sx).length + d.length - (p ++ [x] ++ sx).length = d.length := by omega
  rw [hsub, hsg, sigL_all]
  by_cases hall : allDigits (unsign r) = true
  · rw [if_pos hall]
    have hq0 : q = [] := by
      cases q with
      | nil => rfl
      | cons y u =>
        rw [hdq, allDigits_bad (hq y u rfl)] at hall
        cases hall
    subst hq0
    rw [List.append_nil] at hdq
    rw [hdq] at hall
    have hd0 : d ≠ [] := by rintro rfl; simp [allDigits] at hall
    have hl0 : 0 < d.length := List.length_pos_iff.2 hd0
    rw [if_neg (by omega), hdq]
    by_cases h9 : 9 < (Lib.trimLeftB d 48).length
    · rw [if_pos h9, if_pos h9]
    · rw [if_neg h9, if_neg h9]
      have hl : (p ++ [x] ++ sx).length + d.length = (p ++ x :: r).length := by rw [el]; simp; omega
      rw [hl]
  · rw [if_neg hall]
    by_cases hd0 : d = []
    · rw [if_pos (by rw [hd0]; rfl)]
    · have hl0 : 0 < d.length := List.length_pos_iff.2 hd0
      rw [if_neg (by omega)]
      have hq0 : q ≠ [] := by
        rintro rfl
        rw [List.append_nil] at hdq
        rw [hdq, allDigits_of hd hd0] at hall
        exact hall rfl
      have hql : 0 < q.length := List.length_pos_iff.2 hq0
      split
      · rfl
      · exact tail_bad (by rw [el]; simp; omega)

/-! ### the two readers -/
theorem not_mem_snoc {w : List UInt8} {x c : UInt8} (h : c ∉ w) (hx : x ≠ c) : c ∉ w ++ [x] := by
  simp only [List.mem_append, List.mem_singleton, not_or]; exact ⟨h, fun e => hx e.symm⟩
theorem goCut_none {t : List UInt8} (h1 : 101 ∉ t) (h2 : 69 ∉ t) : goCut t = (t, [], false) := by
  unfold goCut; rw [cut_none h1]; simp only; rw [cut_none h2]; rfl
theorem goCut_e {p r : List UInt8} (h1 : 101 ∉ p) : goCut (p ++ 101 :: r) = (p, r, true) := by
  unfold goCut; rw [cut_some h1]; rfl
theorem goCut_E {p r : List UInt8} (h1 : 101 ∉ p) (h2 : 69 ∉ p) (h3 : 101 ∉ r) : goCut (p ++ 69 :: r) = (p, r, true) := by
  unfold goCut
  have : 101 ∉ p ++ 69 :: r := by
    simp only [List.mem_append, List.mem_cons, not_or]
    exact ⟨h1, by decide, h3⟩
  rw [cut_none this]; simp only; rw [cut_some h2]; rfl
theorem goCut_Ee {p a b : List UInt8} (h1 : 101 ∉ p) (h3 : 101 ∉ a) : goCut (p ++ 69 :: (a ++ 101 :: b)) = (p ++ 69 :: a, b, true) := by
  have e : p ++ 69 :: (a ++ 101 :: b) = (p ++ 69 :: a) ++ 101 :: b := by simp
  rw [e]
  refine goCut_e ?_
  simp only [List.mem_append, List.mem_cons, not_or]
  exact ⟨h1, by decide, h3⟩
theorem goCut_pre {p r : List UInt8} {y : UInt8} (h1 : 101 ∉ p) (h2 : 69 ∉ p) (hy1 : y ≠ 101) (hy2 : y ≠ 69) : ∃ u, (goCut (p ++ y :: r)).1 = p ++ y :: u := by
  unfold goCut
  simp only
  split
  · exact cut_pre h1 hy1
  · exact cut_pre h2 hy2
/-- digits, then a byte that is no digit, no point: refused. -/
theorem goMant_whole {neg : Bool} {c : List UInt8 × List UInt8 × Bool} {w u : List UInt8} {y : UInt8} (h : c.1 = w ++ y :: u) (hw : w.all dig = true) (hy : dig y = false) (hp : y ≠ 46) : goMant neg c = bad := by
  unfold goMant
  obtain ⟨u', hu⟩ := cut_pre (r := u) (not_mem_dig hw (by decide : dig 46 = false)) hp
  simp only
  rw [h, hu, allDigits_bad hy]; rfl
/-- digits, a point, digits, then a byte that is no digit: refused. -/
theorem goMant_frac {neg : Bool} {c : List UInt8 × List UInt8 × Bool} {w f u : List UInt8} {y : UInt8} (h : c.1 = w ++ 46 :: (f ++ y :: u)) (hw : w.all dig = true) (hy : dig y = false) : goMant neg c = bad := by
  unfold goMant
  simp only
  rw [h, cut_some (not_mem_dig hw (by decide : dig 46 = false)), allDigits_bad hy]
  simp
theorem goMant_no {neg : Bool} {ex : List UInt8} {hx : Bool} {w : List UInt8} (hw : w.all dig = true) (hn : w ≠ []) : goMant neg (w, ex, hx) = goTail neg w [] ex hx := by
  unfold goMant
  simp only
  rw [cut_none (not_mem_dig hw (by decide : dig 46 = false)), allDigits_of hw hn]; rfl
theorem goMant_pt {neg : Bool} {ex : List UInt8} {hx : Bool} {w f : List UInt8} (hw : w.all dig = true) (hn : w ≠ []) (hf : f.all dig = true) (hfn : f ≠ []) : goMant neg (w ++ 46 :: f, ex, hx) = goTail neg w f ex hx := by
  unfold goMant
  simp only
  rw [cut_some (not_mem_dig hw (by decide : dig 46 = false)), allDigits_of hw hn, allDigits_of hf hfn]; rfl
theorem goMant_pt0 {neg : Bool} {ex u : List UInt8} {hx : Bool} {w : List UInt8} (hw : w.all dig = true) (hu : allDigits u = false) : goMant neg (w ++ 46 :: u, ex, hx) = bad := by
  unfold goMant
  simp only
  rw [cut_some (not_mem_dig hw (by decide : dig 46 = false)), hu]
  simp
/-- a digit reader that finds no digit: refused. -/
theorem goMant_nil {neg : Bool} {c : List UInt8 × List UInt8 × Bool} (h : c.1 = [] ∨ ∃ u, c.1 = 46 :: u) : goMant neg c = bad := by
  unfold goMant
  simp only
  rcases h with h | ⟨u, h⟩
  · rw [h, cut_none (by simp)]; rfl
  · rw [h]
    have := cut_some (p := []) (q := u) (c := 46) (by simp)
    rw [List.nil_append] at this
    rw [this]; rfl

theorem goTail_exp (neg : Bool) (w f ex : List UInt8) : goTail neg w f ex true = if allDigits (unsign ex) then (if 9 < (Lib.trimLeftB (unsign ex) 48).length then bad else normal neg (Lib.trimLeftB (w ++ f) 48) ((if minus ex then - valI (unsign ex) 0 else valI (unsign ex) 0) - f.length)) else bad := by
  unfold goTail
  rw [if_pos rfl]
  simp only
  have eu : (if signed ex = true then List.drop 1 ex else ex) = unsign ex := rfl
  rw [eu]
  by_cases hd : allDigits (unsign ex) = true
  · rw [if_pos hd, hd]
    by_cases h9 : 9 < (Lib.trimLeftB (unsign ex) 48).length
    · rw [if_pos h9, if_pos (by simpa using h9)]
    · rw [if_neg h9, if_neg (by simpa using h9)]
      unfold atoiV
      rw [atoi_of ex hd (by omega)]
  · rw [if_neg hd, if_pos (by simp [hd])]
theorem unsign_E {r : List UInt8} (h : (101 : UInt8) ∈ r) : allDigits (unsign r) = false := by
  have hm : (101 : UInt8) ∈ unsign r := by
    unfold unsign
    split
    · cases r with
      | nil => cases h
      | cons c r =>
        rcases List.mem_cons.1 h with e | h
        · subst e; rename_i hs; simp [signed] at hs
        · exact h
    · exact h
  obtain ⟨a, b, e⟩ := List.append_of_mem hm
  rw [e]
  exact allDigits_bad (by decide)

/-- BEHIND THE MANTISSA 'sg ++ w ++ dt ++ f' (its cut in hand): both readers answer alike. -/
theorem behind (neg : Bool) (sg w dt f ex : List UInt8) (hw : w.all dig = true) (hf : f.all dig = true) (hdt : dt = [46] ∨ (dt = [] ∧ f = []))
    (hq : ∀ x u, ex = x :: u → dig x = false)
    (hg : ∀ r hx, goMant neg (w ++ dt ++ f, r, hx) = goTail neg w f r hx)
    (hbad : ∀ c : List UInt8 × List UInt8 × Bool, (∃ y u, c.1 = w ++ dt ++ f ++ y :: u ∧ dig y = false ∧ (dt = [] → y ≠ 46)) → goMant neg c = bad)
    (hpt : dt = [] → ∀ u, ex ≠ 46 :: u) :
    expo (sg ++ w ++ dt ++ f ++ ex) neg sg.length (sg ++ w).length (sg ++ w ++ dt).length (sg ++ w ++ dt ++ f).length = goMant neg (goCut (w ++ dt ++ f ++ ex)) := by
  have m1 : (101 : UInt8) ∉ w ++ dt ++ f := by
    simp only [List.mem_append, not_or]
    refine ⟨⟨not_mem_dig hw (by decide), ?_⟩, not_mem_dig hf (by decide)⟩
    rcases hdt with h | ⟨h, _⟩ <;> rw [h] <;> decide
  have m2 : (69 : UInt8) ∉ w ++ dt ++ f := by
    simp only [List.mem_append, not_or]
    refine ⟨⟨not_mem_dig hw (by decide), ?_⟩, not_mem_dig hf (by decide)⟩
    rcases hdt with h | ⟨h, _⟩ <;> rw [h] <;> decide
  have tl : ∀ e, tail (sg ++ w ++ dt ++ f ++ ex) neg sg.length (sg ++ w).length (sg ++ w ++ dt).length (sg ++ w ++ dt ++ f).length e (sg ++ w ++ dt ++ f ++ ex).length = normal neg (Lib.trimLeftB (w ++ f) 48) (e - f.length) := fun e => tail_list neg sg w dt f ex e hw hf hdt
  cases ex with
  | nil =>
    rw [List.append_nil] at tl ⊢
    rw [expo_nil, List.append_nil, goCut_none m1 m2, hg, tl]
    rfl
  | cons x r =>
    have hx := hq x r rfl
    by_cases h1 : x = 101
    · subst h1
      rw [goCut_e m1, hg, expo_e _ r 101 neg _ _ _ (.inl rfl), goTail_exp, tl]
    · by_cases h2 : x = 69
      · subst h2
        by_cases hr : (101 : UInt8) ∈ r
        · obtain ⟨a, b, hab, ha⟩ := List.eq_append_cons_of_mem hr
          rw [expo_e _ r 69 neg _ _ _ (.inr rfl), unsign_E hr, if_neg (by simp), hab, goCut_Ee m1 ha]
          exact (hbad _ ⟨69, a, rfl, by decide, fun _ => by decide⟩).symm
        · rw [goCut_E m1 m2 hr, hg, expo_e _ r 69 neg _ _ _ (.inr rfl), goTail_exp, tl]
      · rw [expo_other _ r x neg _ _ _ h1 h2]
        obtain ⟨u, hu⟩ := goCut_pre (r := r) m1 m2 h1 h2
        exact (hbad _ ⟨x, u, hu, hx, fun hd e => hpt hd r (by rw [e])⟩).symm

theorem readers_t (neg : Bool) (sg t : List UInt8) :
    (if scan (sg ++ t) sg.length = sg.length then bad else
      if scan (sg ++ t) sg.length < (sg ++ t).length ∧ B (sg ++ t) (scan (sg ++ t) sg.length) = 46 then
        if scan (sg ++ t) (scan (sg ++ t) sg.length + 1) = scan (sg ++ t) sg.length + 1 then bad
        else expo (sg ++ t) neg sg.length (scan (sg ++ t) sg.length) (scan (sg ++ t) sg.length + 1) (scan (sg ++ t) (scan (sg ++ t) sg.length + 1))
      else expo (sg ++ t) neg sg.length (scan (sg ++ t) sg.length) (scan (sg ++ t) sg.length) (scan (sg ++ t) sg.length)) = goMant neg (goCut t) := by
  obtain ⟨w, r1, rfl, hw, hr1⟩ := span_dig t
  have hsc : scan (sg ++ (w ++ r1)) sg.length = (sg ++ w).length := by rw [scan_at, takeWhile_all hw hr1]; simp
  rw [hsc]
  by_cases hw0 : w = []
  · subst hw0
    rw [if_pos (by simp), List.nil_append]
    symm
    cases r1 with
    | nil => exact goMant_nil (.inl (by rw [goCut_none (by simp) (by simp)]))
    | cons x r =>
      have hx := hr1 x r rfl
      by_cases h1 : x = 101
      · subst h1
        have := goCut_e (p := []) (r := r) (by simp)
        rw [List.nil_append] at this
        exact goMant_nil (.inl (by rw [this]))
      · by_cases h2 : x = 69
        · subst h2
          by_cases hr : (101 : UInt8) ∈ r
          · obtain ⟨a, b, rfl, ha⟩ := List.eq_append_cons_of_mem hr
            have := goCut_Ee (p := []) (b := b) (by simp) ha
            rw [List.nil_append, List.nil_append] at this
            rw [this]
            exact goMant_whole (w := []) (y := 69) (u := a) rfl rfl (by decide) (by decide)
          · have := goCut_E (p := []) (by simp) (by simp) hr
            rw [List.nil_append] at this
            exact goMant_nil (.inl (by rw [this]))
        · obtain ⟨u, hu⟩ := goCut_pre (p := []) (r := r) (by simp) (by simp) h1 h2
          rw [List.nil_append, List.nil_append] at hu
          by_cases h3 : x = 46
          · subst h3
            exact goMant_nil (.inr ⟨u, hu⟩)
          · exact goMant_whole (w := []) hu rfl hx h3
  · have hwl : 0 < w.length := List.length_pos_iff.2 hw0
    rw [if_neg (by simp; exact hw0)]
    have hB : B (sg ++ (w ++ r1)) (sg ++ w).length = B r1 0 := by rw [← List.append_assoc]; exact B_at _ _
    by_cases hdot : ∃ r, r1 = 46 :: r
    · obtain ⟨r, rfl⟩ := hdot
      rw [hB, if_pos ⟨by simp, rfl⟩]
      obtain ⟨f, r2, rfl, hf, hr2⟩ := span_dig r
      have e1 : sg ++ (w ++ 46 :: (f ++ r2)) = (sg ++ w ++ [46]) ++ (f ++ r2) := by simp
      have l1 : (sg ++ w).length + 1 = (sg ++ w ++ [46]).length := by simp; omega
      have hsc2 : scan (sg ++ (w ++ 46 :: (f ++ r2))) ((sg ++ w).length + 1) = (sg ++ w ++ [46] ++ f).length := by
        rw [e1, l1, scan_at, takeWhile_all hf hr2]; simp; omega
      rw [hsc2, l1]
      have e2 : w ++ 46 :: (f ++ r2) = w ++ [46] ++ f ++ r2 := by simp
      by_cases hf0 : f = []
      · subst hf0
        rw [if_pos (by simp)]
        symm
        rw [List.nil_append]
        -- the point is followed by no digit
        have key : ∀ c : List UInt8 × List UInt8 × Bool, (c.1 = w ++ 46 :: [] ∨ ∃ y u, c.1 = w ++ 46 :: y :: u ∧ dig y = false) → goMant neg c = bad := by
          intro c hc
          obtain ⟨c1, c2, c3⟩ := c
          rcases hc with h | ⟨y, u, h, hy⟩
          · simp only at h; rw [h]; exact goMant_pt0 hw rfl
          · simp only at h; rw [h]
            refine goMant_pt0 hw ?_
            have := allDigits_bad (p := []) (u := u) hy
            simpa using this
        have m1 : (101 : UInt8) ∉ w ++ [46] := not_mem_snoc (not_mem_dig hw (by decide)) (by decide)
        have m2 : (69 : UInt8) ∉ w ++ [46] := not_mem_snoc (not_mem_dig hw (by decide)) (by decide)
        refine key _ ?_
        cases r2 with
        | nil => exact .inl (by rw [goCut_none m1 m2])
        | cons x u =>
          have ex : w ++ 46 :: x :: u = (w ++ [46]) ++ x :: u := by simp
          rw [ex]
          by_cases h1 : x = 101
          · subst h1; rw [goCut_e m1]; exact .inl rfl
          · by_cases h2 : x = 69
            · subst h2
              by_cases hr : (101 : UInt8) ∈ u
              · obtain ⟨a, b, rfl, ha⟩ := List.eq_append_cons_of_mem hr
                rw [goCut_Ee m1 ha]
                exact .inr ⟨69, a, by simp, by decide⟩
              · rw [goCut_E m1 m2 hr]; exact .inl rfl
            · obtain ⟨v, hv⟩ := goCut_pre (r := u) m1 m2 h1 h2
              exact .inr ⟨x, v, by rw [hv]; simp, hr2 x u rfl⟩
      · rw [if_neg (by simp; exact hf0), e2]
        have e3 : sg ++ (w ++ [46] ++ f ++ r2) = sg ++ w ++ [46] ++ f ++ r2 := by simp
        rw [e3]
        refine behind neg sg w [46] f r2 hw hf (.inl rfl) hr2 ?_ ?_ (fun h => by cases h)
        · intro r hx
          have e4 : w ++ [46] ++ f = w ++ 46 :: f := by simp
          rw [e4]; exact goMant_pt hw hw0 hf hf0
        · rintro c ⟨y, u, hc, hy, _⟩
          refine goMant_frac (w := w) (f := f) (y := y) (u := u) ?_ hw hy
          rw [hc]; simp
    · have hn : ¬ ((sg ++ w).length < (sg ++ (w ++ r1)).length ∧ B (sg ++ (w ++ r1)) (sg ++ w).length = 46) := by
        rw [hB]
        rintro ⟨h1, h2⟩
        cases r1 with
        | nil => simp at h1
        | cons x r =>
          rw [B_cons] at h2
          have : x = 46 := UInt8.toNat_inj.1 (by simp; omega)
          exact hdot ⟨r, by rw [this]⟩
      rw [if_neg hn]
      have := behind neg sg w [] [] r1 hw rfl (.inr ⟨rfl, rfl⟩) hr1 (by
        intro r hx
        rw [List.append_nil, List.append_nil]; exact goMant_no hw hw0) (by
        rintro c ⟨y, u, hc, hy, h46⟩
        refine goMant_whole (w := w) (y := y) (u := u) ?_ hw hy (h46 rfl)
        rw [hc]; simp) (fun _ u e => hdot ⟨u, e⟩)
      simpa using this

/-- ████ THE PLAIN LAW ████ -/
theorem readers (l : List UInt8) : mparse l = goParse l := by
  unfold mparse goParse
  simp only
  have hneg : decide (0 < l.length ∧ B l 0 = 45) = Lib.hasPrefix l [45] := by
    unfold Lib.hasPrefix
    cases l with
    | nil => rfl
    | cons c r =>
      rw [Bool.eq_iff_iff, B_cons]
      simp only [List.length_cons, decide_eq_true_eq, List.isPrefixOf, Bool.and_true, beq_iff_eq]
      constructor
      · rintro ⟨_, h⟩; exact UInt8.toNat_inj.1 (by simp; omega)
      · rintro rfl; exact ⟨by omega, rfl⟩
  rw [hneg]
  cases hp : Lib.hasPrefix l [45] with
  | false =>
    have := readers_t false [] l
    simpa using this
  | true =>
    cases l with
    | nil => cases hp
    | cons c r =>
      have hc : c = 45 := by
        unfold Lib.hasPrefix at hp
        simp only [List.isPrefixOf, Bool.and_true, beq_iff_eq] at hp
        exact hp.symm
      subst hc
      have := readers_t true [45] r
      simpa using this

end Go.Proofs.Qxb6606095aDoor.Pl
