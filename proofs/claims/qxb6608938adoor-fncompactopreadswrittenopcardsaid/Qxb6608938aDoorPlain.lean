/-
  PLAIN LAW (no Go in sight): what datatype.CompactArgLen and compactOp compute of a text's bytes ('argLen', 'cop'); that a written op is read back, and that a written op cut short is refused.
-/
import Derived.Lib.ValidAsc
import Derived.Lib.Strings
namespace Go.Proofs.Qxb6608938aDoor.Pl
open Go
set_option linter.unusedSimpArgs false

/-! ### bytes -/
def dig (c : UInt8) : Bool := decide (48 ≤ c.toNat ∧ c.toNat ≤ 57)
def nameByte (c : UInt8) : Bool := decide (97 ≤ c.toNat ∧ c.toNat ≤ 122 ∨ 65 ≤ c.toNat ∧ c.toNat ≤ 90 ∨ 48 ≤ c.toNat ∧ c.toNat ≤ 57 ∨ c.toNat = 45 ∨ c.toNat = 95)
def strByte (c : UInt8) : Bool := decide (32 ≤ c.toNat ∧ c.toNat ≠ 34 ∧ c.toNat ≠ 92)
def B (l : List UInt8) (k : Nat) : Int := ((l.getD k 0).toNat : Int)
theorem B_nonneg (l : List UInt8) (k : Nat) : 0 ≤ B l k := by unfold B; omega
theorem B_le (l : List UInt8) (k : Nat) : B l k ≤ 255 := by
  unfold B; have := (l.getD k 0).toNat_lt; omega
theorem B_right (p q : List UInt8) (k : Nat) : B (p ++ q) (p.length + k) = B q k := by
  unfold B
  rw [List.getD_eq_getElem?_getD, List.getD_eq_getElem?_getD, List.getElem?_append_right (by omega)]
  congr 4
  omega
theorem B_left (p q : List UInt8) (k : Nat) (h : k < p.length) : B (p ++ q) k = B p k := by
  unfold B
  rw [List.getD_eq_getElem?_getD, List.getD_eq_getElem?_getD, List.getElem?_append_left h]
theorem B_cons (c : UInt8) (q : List UInt8) : B (c :: q) 0 = (c.toNat : Int) := rfl
theorem B_succ (c : UInt8) (q : List UInt8) (k : Nat) : B (c :: q) (k + 1) = B q k := by
  unfold B; simp [List.getD_eq_getElem?_getD]
theorem B_get (l : List UInt8) (k : Nat) (h : k < l.length) : B l k = (l[k].toNat : Int) := by
  unfold B
  rw [List.getD_eq_getElem?_getD, List.getElem?_eq_getElem h]; rfl
theorem B_drop (l : List UInt8) (a k : Nat) : B (l.drop a) k = B l (a + k) := by
  unfold B
  rw [List.getD_eq_getElem?_getD, List.getD_eq_getElem?_getD, List.getElem?_drop]
theorem all_B (p : UInt8 → Bool) (q : Int → Prop) (hq : ∀ c : UInt8, p c = true ↔ q c.toNat) (l : List UInt8) : l.all p = true ↔ ∀ k, k < l.length → q (B l k) := by
  rw [List.all_eq_true]
  constructor
  · intro h k hk
    rw [B_get l k hk]
    exact (hq _).1 (h _ (List.getElem_mem hk))
  · intro h c hc
    obtain ⟨k, hk, rfl⟩ := List.getElem_of_mem hc
    have := h k hk
    rw [B_get l k hk] at this
    exact (hq _).2 this
def nameI (c : Int) : Prop := 97 ≤ c ∧ c ≤ 122 ∨ 65 ≤ c ∧ c ≤ 90 ∨ 48 ≤ c ∧ c ≤ 57 ∨ c = 45 ∨ c = 95
theorem dig_iff (c : UInt8) : dig c = true ↔ (48 ≤ (c.toNat : Int) ∧ (c.toNat : Int) ≤ 57) := by
  unfold dig; rw [decide_eq_true_eq]; omega
theorem name_iff (c : UInt8) : nameByte c = true ↔ nameI (c.toNat : Int) := by
  unfold nameByte nameI; rw [decide_eq_true_eq]; omega
theorem str_iff (c : UInt8) : strByte c = true ↔ (32 ≤ (c.toNat : Int) ∧ (c.toNat : Int) ≠ 34 ∧ (c.toNat : Int) ≠ 92) := by
  unfold strByte; rw [decide_eq_true_eq]; omega

/-- How many bytes in front pass p. -/
def run (p : UInt8 → Bool) : List UInt8 → Nat
  | [] => 0
  | c :: r => if p c then run p r + 1 else 0
theorem run_all (p : UInt8 → Bool) (a : List UInt8) (h : a.all p = true) : run p a = a.length := by
  induction a with
  | nil => rfl
  | cons c r ih =>
    rw [List.all_cons, Bool.and_eq_true] at h
    rw [run, if_pos h.1, ih h.2]; rfl
theorem run_stop (p : UInt8 → Bool) (a : List UInt8) (c : UInt8) (r : List UInt8) (h : a.all p = true) (hc : p c = false) : run p (a ++ c :: r) = a.length := by
  induction a with
  | nil => simp [run, hc]
  | cons d t ih =>
    rw [List.all_cons, Bool.and_eq_true] at h
    rw [List.cons_append, run, if_pos h.1, ih h.2]; rfl
/-- The loop's fact: the first n pass; the n-th does not, or there is none. -/
theorem run_at (p : UInt8 → Bool) (l : List UInt8) (n : Nat) (hn : n ≤ l.length) (h : ∀ k, k < n → p (l.getD k 0) = true) (hs : n = l.length ∨ p (l.getD n 0) = false) : run p l = n := by
  induction l generalizing n with
  | nil => simp at hn; subst hn; rfl
  | cons c r ih =>
    cases n with
    | zero =>
      rcases hs with hs | hs
      · simp at hs
      · simp at hs; rw [run, hs]; rfl
    | succ n =>
      have h0 := h 0 (by omega)
      simp only [List.getD_cons_zero] at h0
      rw [run, if_pos h0, ih n (by simpa using hn) (fun k hk => by simpa using h (k + 1) (by omega)) (by
        rcases hs with hs | hs
        · exact .inl (by simpa using hs)
        · exact .inr (by simpa using hs))]

/-- Behind the opening quote: the closing quote's place and one more, or 0. -/
def strLen : List UInt8 → Nat
  | [] => 0
  | c :: r => if c.toNat = 34 then 1 else if strByte c then (if strLen r = 0 then 0 else strLen r + 1) else 0
theorem strLen_good (m : List UInt8) (r : List UInt8) (h : m.all strByte = true) : strLen (m ++ 34 :: r) = m.length + 1 := by
  induction m with
  | nil => rfl
  | cons c t ih =>
    rw [List.all_cons, Bool.and_eq_true] at h
    have hc := (str_iff c).1 h.1
    rw [List.cons_append, strLen, if_neg (by omega), if_pos h.1, ih h.2, if_neg (by omega)]; rfl
theorem strLen_open (m : List UInt8) (h : m.all strByte = true) : strLen m = 0 := by
  induction m with
  | nil => rfl
  | cons c t ih =>
    rw [List.all_cons, Bool.and_eq_true] at h
    have hc := (str_iff c).1 h.1
    rw [strLen, if_neg (by omega), if_pos h.1, if_pos (ih h.2)]
/-- The scan's facts: n good bytes, then ... -/
theorem strLen_quote (l : List UInt8) (n : Nat) (hn : n < l.length) (h : ∀ k, k < n → strByte (l.getD k 0) = true) (hq : (l.getD n 0).toNat = 34) : strLen l = n + 1 := by
  induction l generalizing n with
  | nil => simp at hn
  | cons c r ih =>
    cases n with
    | zero => simp at hq; rw [strLen, if_pos hq]
    | succ n =>
      have h0 := h 0 (by omega)
      simp only [List.getD_cons_zero] at h0
      have hc := (str_iff c).1 h0
      rw [strLen, if_neg (by omega), if_pos h0, ih n (by simpa using hn) (fun k hk => by simpa using h (k + 1) (by omega)) (by simpa using hq), if_neg (by omega)]
theorem strLen_bad (l : List UInt8) (n : Nat) (hn : n < l.length) (h : ∀ k, k < n → strByte (l.getD k 0) = true) (hq : (l.getD n 0).toNat ≠ 34) (hb : strByte (l.getD n 0) = false) : strLen l = 0 := by
  induction l generalizing n with
  | nil => simp at hn
  | cons c r ih =>
    cases n with
    | zero => simp at hq hb; rw [strLen, if_neg hq, hb]; rfl
    | succ n =>
      have h0 := h 0 (by omega)
      simp only [List.getD_cons_zero] at h0
      have hc := (str_iff c).1 h0
      rw [strLen, if_neg (by omega), if_pos h0, ih n (by simpa using hn) (fun k hk => by simpa using h (k + 1) (by omega)) (by simpa using hq) (by simpa using hb), if_pos rfl]

/-- datatype.CompactArgLen. -/
def numLen (i : Nat) (l : List UInt8) : Nat := if l.length ≤ i ∨ dig (l.getD i 0) = false then 0 else if (l.getD i 0).toNat = 48 then i + 1 else i + run dig (l.drop i)
def argLen (l : List UInt8) : Nat :=
  if l ≠ [] ∧ (l.getD 0 0).toNat = 34 then (if strLen (l.drop 1) = 0 then 0 else strLen (l.drop 1) + 1)
  else if l ≠ [] ∧ (l.getD 0 0).toNat = 45 then numLen 1 l else numLen 0 l

def head : List UInt8 := [123, 34, 111, 112, 34, 58, 34]
def karg : List UInt8 := [44, 34, 97, 114, 103, 34, 58]

/-- What compactOp reads: the name's length, and the argument's. -/
def copT (t : List UInt8) (n : Nat) : Option (Nat × Option Nat) := if argLen t = 0 ∨ argLen t = t.length ∨ (t.getD (argLen t) 0).toNat ≠ 125 then none else some (n, some (argLen t))
def copS (s : List UInt8) (n : Nat) : Option (Nat × Option Nat) :=
  if s ≠ [] ∧ (s.getD 0 0).toNat = 125 then some (n, none)
  else if karg.isPrefixOf s then copT (s.drop 7) n else none
def copR (r : List UInt8) : Option (Nat × Option Nat) :=
  if run nameByte r = 0 ∨ run nameByte r = r.length ∨ (r.getD (run nameByte r) 0).toNat ≠ 34 then none else copS (r.drop (run nameByte r + 1)) (run nameByte r)
def cop (l : List UInt8) : Option (Nat × Option Nat) := if head.isPrefixOf l then copR (l.drop 7) else none

/-- The arguments that may be written. -/
def jint (x : List UInt8) : Prop := ∃ sg d, x = sg ++ d ∧ (sg = [] ∨ sg = [45]) ∧ (d = [48] ∨ ∃ c r, d = c :: r ∧ 49 ≤ c.toNat ∧ c.toNat ≤ 57 ∧ r.all dig = true)
def pstr (x : List UInt8) : Prop := ∃ m, x = 34 :: (m ++ [34]) ∧ m.all strByte = true ∧ Lib.validD x = true

theorem numLen_int (sg d r : List UInt8) (i : Nat) (hi : sg.length = i) (hd : d = [48] ∨ ∃ c q, d = c :: q ∧ 49 ≤ c.toNat ∧ c.toNat ≤ 57 ∧ q.all dig = true) : numLen i (sg ++ (d ++ 125 :: r)) = i + d.length := by
  subst hi
  have hg : ∀ c (q : List UInt8), (sg ++ (c :: q)).getD sg.length 0 = c := fun c q => by
    rw [List.getD_eq_getElem?_getD, List.getElem?_append_right (Nat.le_refl _)]; simp
  rcases hd with rfl | ⟨c, q, rfl, h1, h2, h3⟩
  · unfold numLen
    rw [List.cons_append, hg, if_neg (by simp; decide), if_pos (by decide)]; rfl
  · have hc : dig c = true := by rw [dig_iff]; omega
    unfold numLen
    rw [List.cons_append, hg, if_neg (by rw [hc]; simp), if_neg (by omega), List.drop_left, ← List.cons_append, run_stop dig (c :: q) 125 r (by rw [List.all_cons, hc, h3]; rfl) (by decide)]
theorem argLen_int (x r : List UInt8) (h : jint x) : argLen (x ++ 125 :: r) = x.length := by
  obtain ⟨sg, d, rfl, hs, hd⟩ := h
  have h0 : ∃ c q, d = c :: q ∧ 48 ≤ c.toNat ∧ c.toNat ≤ 57 := by
    rcases hd with rfl | ⟨c, q, rfl, h1, h2, _⟩
    · exact ⟨48, [], rfl, by decide, by decide⟩
    · exact ⟨c, q, rfl, by omega, h2⟩
  unfold argLen
  rcases hs with rfl | rfl
  · have := numLen_int [] d r 0 rfl hd
    obtain ⟨c, q, rfl, h1, h2⟩ := h0
    rw [if_neg (by simp; omega), if_neg (by simp; omega)]
    simpa using this
  · have := numLen_int [45] d r 1 rfl hd
    rw [if_neg (by simp), if_pos (by simp)]
    rw [List.append_assoc, this]
    simp; omega
theorem argLen_str (x r : List UInt8) (h : pstr x) : argLen (x ++ 125 :: r) = x.length := by
  obtain ⟨m, rfl, hm, _⟩ := h
  unfold argLen
  have e : (34 :: (m ++ [34]) ++ 125 :: r).drop 1 = m ++ 34 :: (125 :: r) := by simp
  rw [if_pos ⟨by simp, by simp⟩, e, strLen_good m _ hm, if_neg (by omega)]
  simp

theorem numLen_cut (i : Nat) (sg d : List UInt8) (hi : sg.length = i) (hd : d = [] ∨ d = [48] ∨ ∃ c q, d = c :: q ∧ 49 ≤ c.toNat ∧ c.toNat ≤ 57 ∧ q.all dig = true) : numLen i (sg ++ d) = 0 ∨ numLen i (sg ++ d) = (sg ++ d).length := by
  subst hi
  have hg : ∀ c (q : List UInt8), (sg ++ (c :: q)).getD sg.length 0 = c := fun c q => by
    rw [List.getD_eq_getElem?_getD, List.getElem?_append_right (Nat.le_refl _)]; simp
  rcases hd with rfl | rfl | ⟨c, q, rfl, h1, h2, h3⟩
  · left; unfold numLen; rw [if_pos (by simp)]
  · right; unfold numLen
    rw [hg, if_neg (by simp; decide), if_pos (by decide)]; simp
  · right
    have hc : dig c = true := by rw [dig_iff]; omega
    unfold numLen
    rw [hg, if_neg (by rw [hc]; simp), if_neg (by omega), List.drop_left, run_all dig (c :: q) (by rw [List.all_cons, hc, h3]; rfl)]
    simp
theorem all_take (p : UInt8 → Bool) (l : List UInt8) (k : Nat) (h : l.all p = true) : (l.take k).all p = true := by
  rw [List.all_eq_true] at h ⊢
  exact fun c hc => h c (List.mem_of_mem_take hc)
theorem argLen_int_cut (x : List UInt8) (k : Nat) (h : jint x) : argLen (x.take k) = 0 ∨ argLen (x.take k) = (x.take k).length := by
  obtain ⟨sg, d, rfl, hs, hd⟩ := h
  have hdt : ∀ j, d.take j = [] ∨ d.take j = [48] ∨ ∃ c q, d.take j = c :: q ∧ 49 ≤ c.toNat ∧ c.toNat ≤ 57 ∧ q.all dig = true := fun j => by
    rcases hd with rfl | ⟨c, q, rfl, h1, h2, h3⟩
    · cases j with
      | zero => exact .inl rfl
      | succ j => right; left; simp
    · cases j with
      | zero => exact .inl rfl
      | succ j => right; right; exact ⟨c, q.take j, by simp, h1, h2, all_take dig q j h3⟩
  rcases hs with rfl | rfl
  · have h1 := numLen_cut 0 [] (d.take k) rfl (hdt k)
    simp only [List.nil_append] at h1 ⊢
    unfold argLen
    rcases hdt k with h | h | ⟨c, q, h, h2, h3, _⟩
    · rw [h] at h1 ⊢; rw [if_neg (by simp), if_neg (by simp)]; exact h1
    · rw [h] at h1 ⊢; rw [if_neg (by simp), if_neg (by simp)]; exact h1
    · rw [h] at h1 ⊢; rw [if_neg (by simp; omega), if_neg (by simp; omega)]; exact h1
  · cases k with
    | zero => left; rfl
    | succ k =>
      have h1 := numLen_cut 1 [45] (d.take k) rfl (hdt k)
      have e : ([45] ++ d).take (k + 1) = [45] ++ d.take k := by simp
      rw [e]
      unfold argLen
      rw [if_neg (by simp), if_pos (by simp)]
      exact h1
theorem argLen_str_cut (x : List UInt8) (k : Nat) (h : pstr x) : argLen (x.take k) = 0 ∨ argLen (x.take k) = (x.take k).length := by
  obtain ⟨m, rfl, hm, _⟩ := h
  cases k with
  | zero => left; rfl
  | succ k =>
    have e : (34 :: (m ++ [34])).take (k + 1) = 34 :: (m ++ [34]).take k := by simp
    rw [e]
    unfold argLen
    rw [if_pos ⟨by simp, by simp⟩]
    by_cases hk : k ≤ m.length
    · have e2 : (m ++ [34]).take k = m.take k := by rw [List.take_append_of_le_length hk]
      left
      have e3 : (34 :: (m ++ [34]).take k).drop 1 = m.take k := by rw [e2]; rfl
      rw [e3, strLen_open _ (all_take _ _ _ hm), if_pos rfl]
    · right
      have e2 : (m ++ [34]).take k = m ++ [34] := List.take_of_length_le (by simp; omega)
      have e3 : (34 :: (m ++ [34]).take k).drop 1 = m ++ 34 :: [] := by rw [e2]; rfl
      rw [e3, strLen_good m [] hm, if_neg (by omega), e2]; simp

def okArg (a : List UInt8) : Prop := a = [] ∨ jint a ∨ pstr a
def mid (a : List UInt8) : List UInt8 := if a = [] then [] else karg ++ a
/-- The written op. -/
def wr (nm a : List UInt8) : List UInt8 := head ++ (nm ++ 34 :: mid a)

theorem isP_self (p q : List UInt8) : p.isPrefixOf (p ++ q) = true := by
  rw [List.isPrefixOf_iff_prefix]; exact List.prefix_append p q
theorem isP_short (p q : List UInt8) (h : q.length < p.length) : p.isPrefixOf q = false := by
  cases hp : p.isPrefixOf q with
  | false => rfl
  | true =>
    rw [List.isPrefixOf_iff_prefix] at hp
    have := hp.length_le
    omega
theorem name34 : nameByte 34 = false := by decide
theorem jint_ne {x : List UInt8} (h : jint x) : x ≠ [] := by
  obtain ⟨sg, d, rfl, _, hd⟩ := h
  rcases hd with rfl | ⟨c, q, rfl, _⟩ <;> simp
theorem pstr_ne {x : List UInt8} (h : pstr x) : x ≠ [] := by
  obtain ⟨m, rfl, _⟩ := h; simp
theorem getD_mid (p : List UInt8) (c : UInt8) (q : List UInt8) : (p ++ c :: q).getD p.length 0 = c := by
  rw [List.getD_eq_getElem?_getD, List.getElem?_append_right (Nat.le_refl _)]; simp

theorem copR_name (nm s : List UInt8) (hn : nm ≠ []) (ha : nm.all nameByte = true) : copR (nm ++ 34 :: s) = copS s nm.length := by
  have hr := run_stop nameByte nm 34 s ha name34
  have hl : 0 < nm.length := List.length_pos_iff.2 hn
  unfold copR
  rw [hr, getD_mid, if_neg (by simp; exact hn)]
  congr 1
  rw [show nm ++ 34 :: s = (nm ++ [34]) ++ s by simp, List.drop_left' (by simp)]

theorem cop_whole (nm a rest : List UInt8) (hn : nm ≠ []) (ha : nm.all nameByte = true) (hk : okArg a) :
    cop (wr nm a ++ 125 :: rest) = some (nm.length, if a = [] then none else some a.length) := by
  unfold cop wr
  have e : head ++ (nm ++ 34 :: mid a) ++ 125 :: rest = head ++ (nm ++ 34 :: (mid a ++ 125 :: rest)) := by simp
  rw [e, if_pos (isP_self _ _), List.drop_left' (by rfl), copR_name nm _ hn ha]
  unfold copS mid
  by_cases h0 : a = []
  · rw [if_pos h0, if_pos h0, if_pos ⟨by simp, by simp⟩]
  · rw [if_neg h0, if_neg h0]
    have e2 : karg ++ a ++ 125 :: rest = karg ++ (a ++ 125 :: rest) := by simp
    rw [e2, if_neg (by simp [karg]), if_pos (isP_self _ _), List.drop_left' (by rfl)]
    have hlen : argLen (a ++ 125 :: rest) = a.length := by
      rcases hk with h | h | h
      · exact absurd h h0
      · exact argLen_int a rest h
      · exact argLen_str a rest h
    have hl : 0 < a.length := List.length_pos_iff.2 h0
    unfold copT
    rw [hlen, getD_mid, if_neg (by simp; exact h0)]

theorem cop_cut (nm a : List UInt8) (k : Nat) (hn : nm ≠ []) (ha : nm.all nameByte = true) (hk : okArg a) : cop ((wr nm a).take k) = none := by
  unfold cop
  by_cases h7 : k < 7
  · rw [isP_short]
    · rfl
    · rw [List.length_take]; show min k _ < 7; omega
  · obtain ⟨j, rfl⟩ : ∃ j, k = 7 + j := ⟨k - 7, by omega⟩
    have e : (wr nm a).take (7 + j) = head ++ (nm ++ 34 :: mid a).take j := by
      unfold wr
      rw [List.take_append, List.take_of_length_le (by show 7 ≤ 7 + j; omega)]
      congr 2
      show 7 + j - 7 = j; omega
    rw [e, if_pos (isP_self _ _), List.drop_left' (by rfl)]
    by_cases hj : j ≤ nm.length
    · rw [List.take_append_of_le_length hj]
      have hr := run_all nameByte (nm.take j) (all_take _ _ _ ha)
      unfold copR
      rw [hr, if_pos (by simp)]
    · obtain ⟨i, rfl⟩ : ∃ i, j = nm.length + (1 + i) := ⟨j - nm.length - 1, by omega⟩
      have e2 : (nm ++ 34 :: mid a).take (nm.length + (1 + i)) = nm ++ 34 :: (mid a).take i := by
        rw [List.take_append, List.take_of_length_le (by omega)]
        congr 1
        rw [show nm.length + (1 + i) - nm.length = i + 1 by omega]; rfl
      rw [e2, copR_name nm _ hn ha]
      unfold copS mid
      by_cases h0 : a = []
      · rw [if_pos h0]; simp [karg]
      · rw [if_neg h0]
        by_cases hi : i < 7
        · rw [if_neg (by
            intro ⟨h1, h2⟩
            cases i with
            | zero => exact h1 rfl
            | succ i => simp [karg] at h2), isP_short]
          · rfl
          · rw [List.length_take]; show min i _ < 7; omega
        · obtain ⟨q, rfl⟩ : ∃ q, i = 7 + q := ⟨i - 7, by omega⟩
          have e3 : (karg ++ a).take (7 + q) = karg ++ a.take q := by
            rw [List.take_append, List.take_of_length_le (by show 7 ≤ 7 + q; omega)]
            congr 2
            show 7 + q - 7 = q; omega
          rw [e3, if_neg (by simp [karg]), if_pos (isP_self _ _), List.drop_left' (by rfl)]
          have hc : argLen (a.take q) = 0 ∨ argLen (a.take q) = (a.take q).length := by
            rcases hk with h | h | h
            · exact absurd h h0
            · exact argLen_int_cut a q h
            · exact argLen_str_cut a q h
          unfold copT
          rw [if_pos]
          rcases hc with h | h
          · exact .inl h
          · exact .inr (.inl h)
/-- What the argument's bytes are. -/
theorem valid_int {x : List UInt8} (h : jint x) : Lib.validD x = true := by
  have hall : ∀ b ∈ x, b.toNat < 128 := by
    obtain ⟨sg, d, rfl, hs, hd⟩ := h
    intro b hb
    rcases List.mem_append.1 hb with hb | hb
    · rcases hs with rfl | rfl
      · cases hb
      · simp at hb; subst hb; decide
    · rcases hd with rfl | ⟨c, q, rfl, h1, h2, h3⟩
      · simp at hb; subst hb; decide
      · rcases List.mem_cons.1 hb with rfl | hb
        · omega
        · have := (dig_iff b).1 (List.all_eq_true.1 h3 b hb); omega
  rw [Lib.validD_ascii x.length x (by rw [List.take_length]; exact hall), List.drop_length]; rfl
theorem valid_ok {x : List UInt8} (h : okArg x) : Lib.validD x = true := by
  rcases h with rfl | h | h
  · rfl
  · exact valid_int h
  · obtain ⟨_, _, _, h⟩ := h; exact h
end Go.Proofs.Qxb6608938aDoor.Pl
