/-
  PLAIN AND JOINED: the blanks; the text of the number; what the readers find in it.
-/
import Derived.Test.Qxb6606304aDoorMs
import Derived.Test.Qxb6606304aDoorFp
import Derived.Test.Qxb6606304aDoorRd
namespace Go.Proofs.Qxb6606304aDoor
open Go.RowKit Go.PlainAid
set_option linter.unusedSimpArgs false

/-- k blanks stand at the beginning of s, and no more. -/
structure Blk (s : ByteArray) (k : Nat) : Prop where
  le : k ≤ s.size
  b : ∀ j, j < k → blank (bt s j) = true
  stop : k < s.size → blank (bt s k) = false
theorem Blk.any (s : ByteArray) : ∃ k, Blk s k := by
  have : ∀ m, m ≤ s.size → (∀ j, j < m → blank (bt s j) = true) ∨ ∃ k, Blk s k := by
    intro m
    induction m with
    | zero => intro _; left; intro j hj; omega
    | succ m ih =>
      intro hm
      rcases ih (by omega) with h | h
      · cases hd : blank (bt s m)
        · right
          exact ⟨m, by omega, h, fun _ => hd⟩
        · left
          intro j hj
          by_cases e : j = m
          · subst e; exact hd
          · exact h j (by omega)
      · exact .inr h
  rcases this s.size (Nat.le_refl _) with h | h
  · exact ⟨s.size, Nat.le_refl _, h, fun h2 => by omega⟩
  · exact h
theorem dropWhile_drop {α : Type} (p : α → Bool) : ∀ (l : List α) (k : Nat), k ≤ l.length → (∀ j, j < k → ∀ x, l[j]? = some x → p x = true) → (∀ x, l[k]? = some x → p x = false) → l.dropWhile p = l.drop k := by
  intro l
  induction l with
  | nil => intro k hk _ _; simp at hk; subst hk; rfl
  | cons c t ih =>
    intro k hk h1 h2
    cases k with
    | zero =>
      have := h2 c rfl
      rw [List.dropWhile_cons, this]; simp
    | succ k =>
      have := h1 0 (by omega) c rfl
      rw [List.dropWhile_cons, this]
      simp only [if_true, List.drop_succ_cons]
      exact ih k (by simpa using hk) (fun j hj x hx => h1 (j + 1) (by omega) x (by simpa using hx)) (fun x hx => h2 x (by simpa using hx))
theorem blank_of (c : UInt8) : [32, 9, 10, 13].contains c = blank (c.toNat : Int) := by
  have e : ∀ d : UInt8, (c == d) = ((c.toNat : Int) == (d.toNat : Int)) := fun d => by
    by_cases h : c = d
    · subst h; simp
    · rw [beq_eq_false_iff_ne.2 h, beq_eq_false_iff_ne.2]
      intro h2
      exact h (UInt8.toNat_inj.1 (by omega))
  unfold blank
  simp only [List.contains_cons, List.contains_nil, Bool.or_false]
  rw [e 32, e 9, e 10, e 13]
  simp [Bool.or_assoc]
theorem trim_eq {s : ByteArray} {k : Nat} (h : Blk s k) : s.extract k s.size = ⟨(Lib.trimLeftS s.data.toList [32, 9, 10, 13]).toArray⟩ := by
  have hg : ∀ j x, s.data.toList[j]? = some x → (x.toNat : Int) = bt s j := fun j x hx => by
    obtain ⟨hj, rfl⟩ := List.getElem?_eq_some_iff.1 hx
    rw [B_bt, B_get _ _ hj]
  have hd : s.data.toList.dropWhile ([32, 9, 10, 13].contains ·) = s.data.toList.drop k := by
    refine dropWhile_drop _ _ k h.le (fun j hj x hx => ?_) (fun x hx => ?_)
    · rw [blank_of, hg j x hx]; exact h.b j hj
    · rw [blank_of, hg k x hx]
      refine h.stop ?_
      have := (List.getElem?_eq_some_iff.1 hx).1
      exact this
  unfold Lib.trimLeftS
  rw [hd, Lib.extract_from]

/-- No byte of a number's makes an 'x'. -/
theorem no_x {c : Int} (h : (48 ≤ c ∧ c ≤ 57) ∨ c = 46 ∨ c = 101 ∨ c = 69) : (bits .or .u8 c 32 == 120) = false := by
  have : c = 48 ∨ c = 49 ∨ c = 50 ∨ c = 51 ∨ c = 52 ∨ c = 53 ∨ c = 54 ∨ c = 55 ∨ c = 56 ∨ c = 57 ∨ c = 46 ∨ c = 101 ∨ c = 69 := by omega
  rcases this with rfl | rfl | rfl | rfl | rfl | rfl | rfl | rfl | rfl | rfl | rfl | rfl | rfl <;> decide
def DvT (T : ByteArray) (ps na : Nat) (j : Nat) : Int := if j < na then bt T (ps + j) else bt T (ps + na + 1 + (j - na))
def EvT (T : ByteArray) (pe : Nat) (k : Nat) : Int := bt T (pe + k)
theorem PF.dv {T : ByteArray} {ps na nf q pe ne en : Nat} {neg dot ee xe eneg : Bool} (h : PF T ps na nf q pe ne en neg dot ee xe eneg) : ∀ j, j < na + nf → 48 ≤ DvT T ps na j ∧ DvT T ps na j ≤ 57 := by
  intro j hj
  unfold DvT
  split
  · exact h.i.d j (by omega)
  · rcases h.pt with ⟨_, _, _, h4⟩ | ⟨_, h2, _⟩
    · exact h4.d (j - na) (by omega)
    · omega

/-- The number's text, read. -/
theorem reads_of {T : ByteArray} {ps na nf q pe ne en : Nat} {neg dot ee xe eneg : Bool} (h : PF T ps na nf q pe ne en neg dot ee xe eneg) (hS : Sfn (DvT T ps na) (na + nf) ≤ 16) (hM : Mfn (DvT T ps na) (na + nf) ≤ 9007199254740992) (hX : xe = true → Sfn (EvT T pe) ne ≤ 5) (ev : Int) (hev : ev = if xe then (if eneg then -(Mfn (EvT T pe) ne : Int) else (Mfn (EvT T pe) ne : Int)) else 0) (w : World) :
    Reads (T.extract 0 en) w (Mfn (DvT T ps na) (na + nf)) (if Mfn (DvT T ps na) (na + nf) = 0 then 0 else ev - nf) neg ∧ (T.extract 0 en).size = en := by
  have hle := h.i.le
  have hsz := h.sz
  have hf := h.found
  have hps : ps ≤ 1 := by rcases h.sg with ⟨h, _⟩ | ⟨h, _⟩ | ⟨h, _⟩ <;> omega
  have hqv : (dot = true ∧ q = ps + na + 1 + nf ∧ q ≤ T.size ∧ bt T (ps + na) = 46) ∨ (dot = false ∧ nf = 0 ∧ q = ps + na) := by
    rcases h.pt with ⟨g1, g2, g3, g4⟩ | ⟨g1, g2, g3⟩
    · left
      have := g4.le
      refine ⟨g1, ?_, ?_, g3⟩
      · rw [h.hq, g1]; simp; omega
      · rw [h.hq, g1]; simp; omega
    · right; exact ⟨g1, g2, by rw [h.hq, g1]; simp⟩
  have hqn : q ≤ T.size := by rcases hqv with ⟨_, _, h, _⟩ | ⟨_, _, h⟩ <;> omega
  have hxv : (xe = false ∧ en = q) ∨ (xe = true ∧ en = pe + ne ∧ q + 1 ≤ pe ∧ 0 < ne ∧ en ≤ T.size ∧ (bt T q = 101 ∨ bt T q = 69) ∧ Sgn T (q + 1) pe eneg ∧ Run T pe ne) := by
    rcases h.ex with ⟨k1, k2, k3, _⟩ | ⟨k1, k2, k3, k4, k5, k6⟩
    · exact .inl ⟨k2, k3⟩
    · rcases k6 with ⟨m1, m2, m3⟩ | ⟨m1, m2, m3⟩
      · right
        have := k5.le
        refine ⟨m2, m3, ?_, m1, by omega, k3, k4, k5⟩
        rcases k4 with ⟨h, _⟩ | ⟨h, _⟩ | ⟨h, _⟩ <;> omega
      · exact .inl ⟨m2, m3⟩
  have hen : en ≤ T.size := by rcases hxv with ⟨_, h⟩ | ⟨_, _, _, _, h, _⟩ <;> omega
  have hqen : q ≤ en := by rcases hxv with ⟨_, h⟩ | ⟨_, h, _⟩ <;> omega
  have hq0 : ps + 1 ≤ q := by rcases hqv with ⟨_, h, _⟩ | ⟨_, h0, h⟩ <;> omega
  obtain ⟨tx, htx⟩ : ∃ x, T.extract 0 en = x := ⟨_, rfl⟩
  have hts : tx.size = en := by rw [← htx, size_ext _ _ _ hen]; omega
  have hbt : ∀ k, k < en → bt tx k = bt T k := fun k hk => by
    rw [← htx, bt_ext _ _ _ _ (by omega)]; congr 1; omega
  rw [htx]
  have hdv := h.dv
  -- the first place behind the sign
  have hfirst : 46 ≤ bt T ps ∧ bt T ps ≤ 57 := by
    by_cases hna : 0 < na
    · have := h.i.d 0 hna
      rw [Nat.add_zero] at this
      omega
    · rcases hqv with ⟨_, _, _, h46⟩ | ⟨_, h0, _⟩
      · rw [show ps + na = ps by omega] at h46; omega
      · omega
  refine ⟨⟨?_, ?_⟩, hts⟩
  · rcases h.sg with ⟨g1, _, _⟩ | ⟨g1, _, g2, g3⟩ | ⟨g1, _, g2, g3⟩
    · subst g1
      exact special_digit tx w (by omega) (by omega) (by rw [hbt 0 (by omega)]; exact hfirst.1) (by rw [hbt 0 (by omega)]; exact hfirst.2)
    · subst g1
      exact special_sign tx w (by omega) (by omega) (by rw [hbt 1 (by omega)]; exact hfirst.1) (by rw [hbt 1 (by omega)]; exact hfirst.2) (.inl (by rw [hbt 0 (by omega)]; exact g3))
    · subst g1
      exact special_sign tx w (by omega) (by omega) (by rw [hbt 1 (by omega)]; exact hfirst.1) (by rw [hbt 1 (by omega)]; exact hfirst.2) (.inr (by rw [hbt 0 (by omega)]; exact g3))
  · rw [hts]
    refine readFloat_any tx w en ps na nf q neg dot (DvT T ps na) (Mfn (DvT T ps na)) (Sfn (DvT T ps na)) pe ne eneg (EvT T pe) (Mfn (EvT T pe)) ev hts (by omega) ?_ ?_ hf (by rcases hqv with ⟨_, h, _⟩ | ⟨_, h, _⟩ <;> omega) ?_ h.hq (by omega) ?_ ?_ ?_ (digs_of hdv hS hM) ?_
    · rcases h.sg with ⟨g1, g2, g3⟩ | ⟨g1, g2, g3, g4⟩ | ⟨g1, g2, g3, g4⟩
      · left
        rw [hbt 0 (by omega)]
        exact ⟨g1, g2, g3 (by omega)⟩
      · right; left
        rw [hbt 0 (by omega)]
        exact ⟨g1, g2, g4⟩
      · right; right
        rw [hbt 0 (by omega)]
        exact ⟨g1, g2, g4⟩
    · intro hlt
      rw [hbt _ hlt]
      refine no_x ?_
      by_cases h1 : 1 < na
      · exact .inl (h.i.d 1 h1)
      · by_cases h2 : na = 1
        · rcases hqv with ⟨_, _, _, h46⟩ | ⟨_, h0, hq⟩
          · right; left; rw [← h46, h2]
          · rcases hxv with ⟨_, he⟩ | ⟨_, he, _, _, _, hee, _⟩
            · omega
            · right; right; rw [show ps + 1 = q by omega]; exact hee
        · left
          have := hdv 0 (by omega)
          unfold DvT at this
          rw [if_neg (by omega), show ps + na + 1 + (0 - na) = ps + 1 by omega] at this
          exact this
    · intro hd
      rcases hqv with ⟨h1, _⟩ | ⟨_, h2, _⟩
      · rw [hd] at h1; cases h1
      · exact h2
    · intro j hj
      rw [hbt _ (by omega)]
      unfold DvT
      rw [if_pos hj]
    · intro hd
      rcases hqv with ⟨_, _, _, h1⟩ | ⟨h1, _⟩
      · rw [hbt _ (by omega)]; exact h1
      · rw [hd] at h1; cases h1
    · intro j h1 h2
      rcases hqv with ⟨_, h3, _⟩ | ⟨_, h3, _⟩
      · rw [hbt _ (by omega)]
        unfold DvT
        rw [if_neg (by omega)]
        congr 1
        omega
      · omega
    · rcases hxv with ⟨h1, h2⟩ | ⟨h1, h2, h3, h4, h5, h6, h7, h8⟩
      · left
        exact ⟨h2.symm, by rw [hev, h1]; rfl⟩
      · right
        have hd5 : ∀ j, j < ne → 48 ≤ EvT T pe j ∧ EvT T pe j ≤ 57 := fun j hj => h8.d j hj
        obtain ⟨f1, f2⟩ := five hd5 (hX h1)
        refine ⟨⟨⟨by omega, by rw [hbt q (by omega)]; exact h6⟩, ?_, ⟨h2.symm, h4⟩, fun k hk => ?_, rfl, fun k hk => ⟨Mfn_step _ k (hd5 k hk).1, f1 k hk⟩, f2⟩, by rw [hev, h1]; rfl⟩
        · rcases h7 with ⟨g1, g2, g3⟩ | ⟨g1, g2, g3, g4⟩ | ⟨g1, g2, g3, g4⟩
          · left
            rw [hbt (q + 1) (by omega)]
            exact ⟨g1, g2, g3 (by omega)⟩
          · right; left
            rw [hbt (q + 1) (by omega)]
            exact ⟨by omega, g2, g4⟩
          · right; right
            rw [hbt (q + 1) (by omega)]
            exact ⟨by omega, g2, g4⟩
        · rw [hbt _ (by omega)]
          exact ⟨rfl, hd5 k hk⟩
end Go.Proofs.Qxb6606304aDoor
