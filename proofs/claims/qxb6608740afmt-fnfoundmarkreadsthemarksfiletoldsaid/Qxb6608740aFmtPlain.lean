/-
  PLAIN LAW (no Go in sight): what timeid.parseMark computes of a line's bytes ('pm'), what zzAppendInt writes ('dec'), and that a written line is read back.
-/
import Derived.Lib.IndexBytes
import Derived.Lib.ParseIntB
namespace Go.Proofs.Qxb6608740aFmt.Pl
open Go
set_option linter.unusedSimpArgs false

/-! ### bytes -/
def dig (c : UInt8) : Bool := decide (48 ≤ c.toNat ∧ c.toNat ≤ 57)
def nameByte (c : UInt8) : Bool := decide (33 ≤ c.toNat ∧ c.toNat ≤ 126)
def B (l : List UInt8) (k : Nat) : Int := ((l.getD k 0).toNat : Int)
theorem B_nonneg (l : List UInt8) (k : Nat) : 0 ≤ B l k := by unfold B; omega
theorem B_le (l : List UInt8) (k : Nat) : B l k ≤ 255 := by
  unfold B; have := (l.getD k 0).toNat_lt; omega
theorem B_right (p q : List UInt8) (k : Nat) : B (p ++ q) (p.length + k) = B q k := by
  unfold B
  rw [List.getD_eq_getElem?_getD, List.getD_eq_getElem?_getD, List.getElem?_append_right (by omega)]
  congr 4
  omega
theorem B_left (p q : List UInt8) (k : Nat) (h : k < p.length) : B (p ++ q) k = B p k := by
  unfold B
  rw [List.getD_eq_getElem?_getD, List.getD_eq_getElem?_getD, List.getElem?_append_left h]
theorem B_cons (c : UInt8) (q : List UInt8) : B (c :: q) 0 = (c.toNat : Int) := rfl
theorem B_succ (c : UInt8) (q : List UInt8) (k : Nat) : B (c :: q) (k + 1) = B q k := by
  unfold B; simp [List.getD_eq_getElem?_getD]
theorem B_get (l : List UInt8) (k : Nat) (h : k < l.length) : B l k = (l[k].toNat : Int) := by
  unfold B
  rw [List.getD_eq_getElem?_getD, List.getElem?_eq_getElem h]; rfl
theorem all_B (p : UInt8 → Bool) (q : Int → Prop) (hq : ∀ c : UInt8, p c = true ↔ q c.toNat) (l : List UInt8) : l.all p = true ↔ ∀ k, k < l.length → q (B l k) := by
  rw [List.all_eq_true]
  constructor
  · intro h k hk
    rw [B_get l k hk]
    exact (hq _).1 (h _ (List.getElem_mem hk))
  · intro h c hc
    obtain ⟨k, hk, rfl⟩ := List.getElem_of_mem hc
    have := h k hk
    rw [B_get l k hk] at this
    exact (hq _).2 this
theorem dig_iff (c : UInt8) : dig c = true ↔ (48 ≤ (c.toNat : Int) ∧ (c.toNat : Int) ≤ 57) := by
  unfold dig; rw [decide_eq_true_eq]; omega
theorem name_iff (c : UInt8) : nameByte c = true ↔ (33 ≤ (c.toNat : Int) ∧ (c.toNat : Int) ≤ 126) := by
  unfold nameByte; rw [decide_eq_true_eq]; omega

def validName (l : List UInt8) : Bool := !l.isEmpty && l.all nameByte
def allDig (l : List UInt8) : Bool := !l.isEmpty && l.all dig

/-! ### numerals -/
def valN : List UInt8 → Nat → Nat
  | [], e => e
  | c :: d, e => valN d (e * 10 + (c.toNat - 48))
def big : Nat := 9223372036854775808
def pd (d : List UInt8) : Option Nat := if allDig d then (if valN d 0 < big then some (valN d 0) else none) else none

theorem valN_le : ∀ (d : List UInt8) (e : Nat), e ≤ valN d e := by
  intro d
  induction d with
  | nil => intro e; exact Nat.le_refl _
  | cons c d ih =>
    intro e
    rw [valN]
    have := ih (e * 10 + (c.toNat - 48))
    omega
theorem valN_snoc : ∀ (d : List UInt8) (c : UInt8) (e : Nat), valN (d ++ [c]) e = valN d e * 10 + (c.toNat - 48) := by
  intro d
  induction d with
  | nil => intros; rfl
  | cons a d ih => intro c e; rw [List.cons_append, valN, ih, valN]
theorem parseU : ∀ (d : List UInt8) (e : Nat), d.all dig = true → e ≤ 18446744073709551615 → Lib.parseUintM 18446744073709551615 e d = if valN d e ≤ 18446744073709551615 then .ok (valN d e) else .range := by
  intro d
  induction d with
  | nil => intro e _ h; rw [valN, if_pos h]; rfl
  | cons c d ih =>
    intro e h he
    simp only [List.all_cons, Bool.and_eq_true] at h
    have hc : 48 ≤ c.toNat ∧ c.toNat ≤ 57 := of_decide_eq_true h.1
    have hv := valN_le d (e * 10 + (c.toNat - 48))
    rw [Lib.parseUintM, if_pos hc, valN]
    by_cases h1 : 1844674407370955162 ≤ e
    · rw [if_pos h1, if_neg (by omega)]
    · rw [if_neg h1]
      by_cases h2 : 18446744073709551615 < e * 10 + (c.toNat - 48)
      · rw [if_pos h2, if_neg (by omega)]
      · rw [if_neg h2, ih _ h.2 (by omega)]
theorem allDig_parts {d : List UInt8} (h : allDig d = true) : d ≠ [] ∧ d.all dig = true := by
  unfold allDig at h
  rw [Bool.and_eq_true, Bool.not_eq_true', List.isEmpty_eq_false_iff] at h
  exact h
theorem parseI {d : List UInt8} (h : allDig d = true) : Lib.parseIntB 64 d = if valN d 0 < big then .ok ((valN d 0 : Nat) : Int) else .range := by
  obtain ⟨hn, ha⟩ := allDig_parts h
  cases d with
  | nil => exact absurd rfl hn
  | cons c r =>
    have hc : 48 ≤ c.toNat ∧ c.toNat ≤ 57 := by
      simp only [List.all_cons, Bool.and_eq_true] at ha
      exact of_decide_eq_true ha.1
    unfold Lib.parseIntB
    simp only
    rw [if_neg (by omega)]
    unfold Lib.parseUintB
    rw [if_neg hn]
    have e : (2 : Nat) ^ 64 - 1 = 18446744073709551615 := by decide
    have e2 : (2 : Nat) ^ (64 - 1) = 9223372036854775808 := by decide
    rw [e, parseU _ 0 ha (by omega), e2]
    unfold big
    by_cases h1 : valN (c :: r) 0 ≤ 18446744073709551615
    · rw [if_pos h1]
      simp only
      by_cases h2 : valN (c :: r) 0 < 9223372036854775808
      · rw [if_neg (by omega), if_neg (by omega), if_pos h2, if_neg (by omega)]
      · rw [if_pos (by omega), if_neg h2]
    · rw [if_neg h1, if_neg (by omega)]

/-! ### what zzAppendInt writes -/
def decF : Nat → Nat → List UInt8
  | 0, _ => []
  | f + 1, n => (if n / 10 = 0 then [] else decF f (n / 10)) ++ [UInt8.ofNat (48 + n % 10)]
def dec (v : Int) : List UInt8 := if v < 0 then 45 :: decF 20 (-v).toNat else decF 20 v.toNat

theorem digByte (n : Nat) : (UInt8.ofNat (48 + n % 10)).toNat = 48 + n % 10 := by
  rw [UInt8.toNat_ofNat']; omega
theorem decF_all : ∀ (f n : Nat), (decF f n).all dig = true := by
  intro f
  induction f with
  | zero => intro n; rfl
  | succ f ih =>
    intro n
    rw [decF, List.all_append, Bool.and_eq_true]
    refine ⟨?_, ?_⟩
    · split
      · rfl
      · exact ih _
    · rw [List.all_cons, List.all_nil, Bool.and_true]
      exact decide_eq_true (by rw [digByte]; omega)
theorem decF_ne (f n : Nat) : decF (f + 1) n ≠ [] := by rw [decF]; simp
theorem decF_val : ∀ (f n : Nat), n < 10 ^ f → 1 ≤ f → valN (decF f n) 0 = n := by
  intro f
  induction f with
  | zero => intro n _ h; omega
  | succ f ih =>
    intro n hn _
    rw [decF, valN_snoc, digByte]
    by_cases h : n / 10 = 0
    · rw [if_pos h, valN]; omega
    · rw [if_neg h]
      have hf : 1 ≤ f := by
        rcases Nat.eq_zero_or_pos f with e | e
        · subst e; simp at hn; omega
        · exact e
      rw [ih (n / 10) (by rw [Nat.pow_succ] at hn; omega) hf]
      omega
theorem decF_len : ∀ (f n : Nat), (decF f n).length ≤ f := by
  intro f
  induction f with
  | zero => intro n; simp [decF]
  | succ f ih =>
    intro n
    rw [decF]
    have := ih (n / 10)
    split <;> simp <;> omega
theorem dec_len (v : Int) : (dec v).length ≤ 21 := by
  unfold dec
  have h1 := decF_len 20 (-v).toNat
  have h2 := decF_len 20 v.toNat
  split <;> simp <;> omega
theorem allDig_of {d : List UInt8} (h1 : d ≠ []) (h2 : d.all dig = true) : allDig d = true := by
  unfold allDig; rw [h2]; cases d <;> simp_all
theorem pow20 : (10 : Nat) ^ 20 = 100000000000000000000 := by decide
theorem pd_decF (n : Nat) (h : n < 18446744073709551616) : pd (decF 20 n) = if n < big then some n else none := by
  unfold pd
  rw [if_pos (allDig_of (decF_ne 19 n) (decF_all 20 n)), decF_val 20 n (by rw [pow20]; omega) (by omega)]
theorem no_mem_all {l : List UInt8} {p : UInt8 → Bool} {x : UInt8} (h : l.all p = true) (hx : p x = false) : x ∉ l := fun hm => by
  have := List.all_eq_true.1 h x hm
  rw [hx] at this; cases this
theorem dec_no32 (v : Int) : (32 : UInt8) ∉ dec v := by
  unfold dec
  have h : ∀ n, (32 : UInt8) ∉ decF 20 n := fun n => no_mem_all (decF_all 20 n) (by decide)
  split
  · rw [List.mem_cons, not_or]; exact ⟨by decide, h _⟩
  · exact h _

/-! ### what parseMark computes -/
def sp : List UInt8 → Option (List UInt8 × List UInt8)
  | [] => none
  | c :: r => if c = 32 then some ([], r) else match sp r with
    | none => none
    | some (a, b) => some (c :: a, b)
def minus (b : List UInt8) : Bool := match b with
  | [] => false
  | c :: _ => c == 45
def strip (b : List UInt8) : List UInt8 := if minus b then b.drop 1 else b
abbrev Mk : Type := List UInt8 × Int × Int × Bool
def bad : Mk := ([], 0, 0, false)
def pm3 (a b c : List UInt8) : Mk :=
  if validName a then (match pd (strip b) with
    | none => bad
    | some st => match pd c with
      | none => bad
      | some sq => (a, if minus b then -(st : Int) else st, sq, true))
  else bad
def pm (l : List UInt8) : Mk := match sp l with
  | none => bad
  | some (a, r) => match sp r with
    | none => bad
    | some (b, c) => if c.contains 32 then bad else pm3 a b c

theorem sp_mk : ∀ (a r : List UInt8), (32 : UInt8) ∉ a → sp (a ++ 32 :: r) = some (a, r) := by
  intro a
  induction a with
  | nil => intro r _; rw [List.nil_append, sp, if_pos rfl]
  | cons c a ih =>
    intro r h
    rw [List.mem_cons, not_or] at h
    rw [List.cons_append, sp, if_neg (fun e => h.1 e.symm), ih r h.2]
theorem sp_none : ∀ (l : List UInt8), (32 : UInt8) ∉ l → sp l = none := by
  intro l
  induction l with
  | nil => intro _; rfl
  | cons c l ih =>
    intro h
    rw [List.mem_cons, not_or] at h
    rw [sp, if_neg (fun e => h.1 e.symm), ih h.2]
theorem three_or (l : List UInt8) : (∃ a b c, l = a ++ 32 :: (b ++ 32 :: c) ∧ (32 : UInt8) ∉ a ∧ (32 : UInt8) ∉ b ∧ (32 : UInt8) ∉ c ∧ pm l = pm3 a b c) ∨ (l.count 32 ≠ 2 ∧ pm l = bad) := by
  by_cases h : (32 : UInt8) ∈ l
  · obtain ⟨a, r, rfl, ha⟩ := List.eq_append_cons_of_mem h
    have ca : a.count (32 : UInt8) = 0 := List.count_eq_zero.2 ha
    by_cases h2 : (32 : UInt8) ∈ r
    · obtain ⟨b, c, rfl, hb⟩ := List.eq_append_cons_of_mem h2
      have cb : b.count (32 : UInt8) = 0 := List.count_eq_zero.2 hb
      by_cases h3 : (32 : UInt8) ∈ c
      · right
        have cc : 0 < c.count (32 : UInt8) := List.count_pos_iff.2 h3
        refine ⟨by simp only [List.count_append, List.count_cons, ca, cb]; simp; omega, ?_⟩
        unfold pm
        rw [sp_mk _ _ ha]
        simp only
        rw [sp_mk _ _ hb]
        simp only
        rw [if_pos (by simpa using h3)]
      · left
        refine ⟨a, b, c, rfl, ha, hb, h3, ?_⟩
        unfold pm
        rw [sp_mk _ _ ha]
        simp only
        rw [sp_mk _ _ hb]
        simp only
        rw [if_neg (by simpa using h3)]
    · right
      have cr : r.count (32 : UInt8) = 0 := List.count_eq_zero.2 h2
      refine ⟨by simp only [List.count_append, List.count_cons, ca, cr]; simp, ?_⟩
      unfold pm
      rw [sp_mk _ _ ha]
      simp only
      rw [sp_none _ h2]
  · right
    have cl : l.count (32 : UInt8) = 0 := List.count_eq_zero.2 h
    refine ⟨by omega, ?_⟩
    unfold pm
    rw [sp_none _ h]
theorem count3 {a b c : List UInt8} (ha : (32 : UInt8) ∉ a) (hb : (32 : UInt8) ∉ b) (hc : (32 : UInt8) ∉ c) : (a ++ 32 :: (b ++ 32 :: c)).count 32 = 2 := by
  simp only [List.count_append, List.count_cons, List.count_eq_zero.2 ha, List.count_eq_zero.2 hb, List.count_eq_zero.2 hc]; simp
theorem valid_no32 {a : List UInt8} (h : (32 : UInt8) ∈ a) : validName a = false := by
  unfold validName
  rw [Bool.and_eq_false_iff]
  right
  rw [Bool.eq_false_iff, Ne, List.all_eq_true]
  intro hh
  have := hh 32 h
  revert this; decide
theorem three_pm {a b c : List UInt8} (ha : (32 : UInt8) ∉ a) (hb : (32 : UInt8) ∉ b) (hc : (32 : UInt8) ∉ c) : pm (a ++ 32 :: (b ++ 32 :: c)) = pm3 a b c := by
  unfold pm
  rw [sp_mk _ _ ha]
  simp only
  rw [sp_mk _ _ hb]
  simp only
  rw [if_neg (by simpa using hc)]

/-- ████ A WRITTEN LINE IS READ BACK ████ -/
theorem written (name : List UInt8) (st sq : Int) (h1 : -9223372036854775808 ≤ st) (h2 : st ≤ 9223372036854775807) (h3 : -9223372036854775808 ≤ sq) (h4 : sq ≤ 9223372036854775807) :
    pm (name ++ 32 :: (dec st ++ 32 :: dec sq)) = if validName name = true ∧ st ≠ -9223372036854775808 ∧ 0 ≤ sq then (name, st, sq, true) else bad := by
  by_cases hn : (32 : UInt8) ∈ name
  · rw [if_neg (fun h => by rw [valid_no32 hn] at h; cases h.1)]
    rcases three_or (name ++ 32 :: (dec st ++ 32 :: dec sq)) with ⟨a, b, c, e, ha, hb, hc, _⟩ | ⟨_, h⟩
    · exfalso
      have h5 := congrArg (List.count (32 : UInt8)) e
      rw [count3 ha hb hc] at h5
      have h6 : 0 < name.count (32 : UInt8) := List.count_pos_iff.2 hn
      simp only [List.count_append, List.count_cons] at h5
      simp at h5
      omega
    · exact h
  · rw [three_pm hn (dec_no32 st) (dec_no32 sq)]
    unfold pm3
    by_cases hv : validName name = true
    · rw [if_pos hv]
      have hb : pd (strip (dec st)) = (if st ≠ -9223372036854775808 then some st.natAbs else none) ∧ minus (dec st) = decide (st < 0) := by
        unfold dec
        by_cases hs : st < 0
        · rw [if_pos hs]
          have hm : minus (45 :: decF 20 (-st).toNat) = true := rfl
          refine ⟨?_, by rw [hm]; exact (decide_eq_true hs).symm⟩
          unfold strip
          rw [if_pos hm]
          have hd : List.drop 1 (45 :: decF 20 (-st).toNat) = decF 20 (-st).toNat := rfl
          rw [hd, pd_decF _ (by omega)]
          have e : (-st).toNat = st.natAbs := by omega
          rw [e]
          unfold big
          by_cases hq : st = -9223372036854775808
          · rw [if_neg (by omega), if_neg (by omega)]
          · rw [if_pos (by omega), if_pos hq]
        · rw [if_neg hs]
          have hm : minus (decF 20 st.toNat) = false := by
            have ha := decF_all 20 st.toNat
            cases hd : decF 20 st.toNat with
            | nil => rfl
            | cons c r =>
              rw [hd, List.all_cons, Bool.and_eq_true] at ha
              unfold minus
              simp only
              rw [beq_eq_false_iff_ne]
              rintro rfl
              exact absurd ha.1 (by decide)
          refine ⟨?_, by rw [hm]; exact (decide_eq_false hs).symm⟩
          unfold strip
          rw [if_neg (by rw [hm]; simp), pd_decF _ (by omega)]
          have e : st.toNat = st.natAbs := by omega
          rw [e]
          unfold big
          rw [if_pos (by omega), if_pos (by omega)]
      rw [hb.1, hb.2]
      by_cases hq : st = -9223372036854775808
      · rw [if_neg (by omega), if_neg (fun h => h.2.1 hq)]
      · rw [if_pos hq]
        simp only
        by_cases hsq : 0 ≤ sq
        · have hc : pd (dec sq) = some sq.toNat := by
            unfold dec
            rw [if_neg (by omega), pd_decF _ (by omega)]
            unfold big
            rw [if_pos (by omega)]
          rw [hc, show (if validName name = true ∧ st ≠ -9223372036854775808 ∧ 0 ≤ sq then (name, st, sq, true) else bad) = (name, st, sq, true) from if_pos ⟨hv, hq, hsq⟩]
          simp only
          refine Prod.ext rfl (Prod.ext ?_ (Prod.ext ?_ rfl))
          · simp only
            by_cases hs : st < 0
            · rw [if_pos (decide_eq_true hs)]; omega
            · rw [if_neg (by simpa using hs)]; omega
          · simp only; omega
        · have hc : pd (dec sq) = none := by
            unfold dec
            rw [if_pos (by omega)]
            unfold pd allDig
            rw [if_neg]
            simp [dig]
          rw [hc, show (if validName name = true ∧ st ≠ -9223372036854775808 ∧ 0 ≤ sq then (name, st, sq, true) else bad) = bad from if_neg (fun h => hsq h.2.2)]
    · rw [if_neg hv, if_neg (fun h => hv h.1)]

end Go.Proofs.Qxb6608740aFmt.Pl
