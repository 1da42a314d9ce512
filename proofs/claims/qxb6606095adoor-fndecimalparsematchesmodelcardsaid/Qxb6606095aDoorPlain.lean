/-
  PLAIN LAW of seat b6606095aD (no Go in sight): what decimal.Parse computes ('goParse', over the shelf's list functions) and what the
  one-pass scanner zzDecB1ModelParse computes ('mparse', by places) are the same, for every list of bytes.
-/
import Derived.Lib.IndexBytes
import Derived.Lib.IndexMore
import Derived.Lib.TrimByte
import Derived.Lib.AtoiAll
namespace Go.Proofs.Qxb6606095aDoor.Pl
open Go

/-! ### bytes, digits, places -/
def dig (c : UInt8) : Bool := decide (48 ≤ c.toNat ∧ c.toNat ≤ 57)
def B (l : List UInt8) (k : Nat) : Int := ((l.getD k 0).toNat : Int)
def isDigB (z : Int) : Bool := decide (48 ≤ z ∧ z ≤ 57)

theorem B_nonneg (l : List UInt8) (k : Nat) : 0 ≤ B l k := by unfold B; omega
theorem B_le (l : List UInt8) (k : Nat) : B l k ≤ 255 := by
  unfold B; have := (l.getD k 0).toNat_lt; omega
theorem B_right (p q : List UInt8) (k : Nat) : B (p ++ q) (p.length + k) = B q k := by
  unfold B
  rw [List.getD_eq_getElem?_getD, List.getD_eq_getElem?_getD, List.getElem?_append_right (by omega)]
  congr 4
  omega
theorem B_at (p q : List UInt8) : B (p ++ q) p.length = B q 0 := B_right p q 0
theorem B_cons (c : UInt8) (q : List UInt8) : B (c :: q) 0 = (c.toNat : Int) := rfl
theorem B_succ (c : UInt8) (q : List UInt8) (k : Nat) : B (c :: q) (k + 1) = B q k := by
  unfold B; simp [List.getD_eq_getElem?_getD]

def scan (l : List UInt8) (i : Nat) : Nat := i + ((l.drop i).takeWhile dig).length

theorem drop_cons {l : List UInt8} {i : Nat} (h : i < l.length) : l.drop i = l.getD i 0 :: l.drop (i + 1) := by
  rw [List.drop_eq_getElem_cons h]
  congr 1
  rw [List.getD_eq_getElem?_getD, List.getElem?_eq_getElem h]; rfl

theorem scan_step {l : List UInt8} {i : Nat} (h : i < l.length) (h1 : 48 ≤ B l i) (h2 : B l i ≤ 57) : scan l i = scan l (i + 1) := by
  unfold scan
  rw [drop_cons h, List.takeWhile_cons_of_pos]
  · simp; omega
  · unfold B at h1 h2
    unfold dig
    exact decide_eq_true ⟨by omega, by omega⟩
theorem scan_end {l : List UInt8} {i : Nat} (h : l.length ≤ i) : scan l i = i := by
  unfold scan; rw [List.drop_eq_nil_of_le h]; rfl
theorem scan_stop {l : List UInt8} {i : Nat} (h : i < l.length) (h1 : ¬ (48 ≤ B l i ∧ B l i ≤ 57)) : scan l i = i := by
  unfold scan
  rw [drop_cons h, List.takeWhile_cons_of_neg]
  · rfl
  · unfold B at h1
    unfold dig
    simp only [decide_eq_true_eq]
    omega
theorem scan_ge (l : List UInt8) (i : Nat) : i ≤ scan l i := Nat.le_add_right _ _
theorem scan_le {l : List UInt8} {i : Nat} (h : i ≤ l.length) : scan l i ≤ l.length := by
  unfold scan
  have := (List.takeWhile_prefix (p := dig) (l := l.drop i)).length_le
  simp at this; omega
theorem scan_dig {l : List UInt8} {i k : Nat} (h1 : i ≤ k) (h2 : k < scan l i) : 48 ≤ B l k ∧ B l k ≤ 57 := by
  unfold scan at h2
  have hm : k - i < ((l.drop i).takeWhile dig).length := by omega
  have hpre := List.takeWhile_prefix (p := dig) (l := l.drop i)
  have hd : dig (((l.drop i).takeWhile dig)[k - i]) = true := by
    have := List.all_eq_true.1 (List.all_takeWhile (p := dig) (l := l.drop i)) _ (List.getElem_mem hm)
    exact this
  have hlen := hpre.length_le
  have he : ((l.drop i).takeWhile dig)[k - i] = (l.drop i)[k - i]'(by omega) := hpre.getElem hm
  rw [he, List.getElem_drop] at hd
  have hk : i + (k - i) = k := by omega
  unfold dig at hd
  simp only [hk, decide_eq_true_eq] at hd
  unfold B
  rw [List.getD_eq_getElem?_getD, List.getElem?_eq_getElem (by simp at hlen; omega)]
  simp only [Option.getD_some]
  omega
theorem scan_at (p q : List UInt8) : scan (p ++ q) p.length = p.length + (q.takeWhile dig).length := by
  unfold scan; simp

/-! ### the loops of the scanner, as what is still to be done -/
def nzGo (l : List UInt8) : Nat → Nat → Int → Int → Int × Int
  | 0, _, f, t => (f, t)
  | m + 1, k, f, t => if B l k = 48 then nzGo l m (k + 1) f t else nzGo l m (k + 1) (if f < 0 then (k : Int) else f) k

def sigGo (l : List UInt8) : Nat → Nat → Int → Int → Option Int
  | 0, _, _, e => some e
  | m + 1, k, sig, e =>
    if sig = 0 ∧ B l k = 48 then sigGo l m (k + 1) sig e
    else if 9 < sig + 1 then none else sigGo l m (k + 1) (sig + 1) (e * 10 + (B l k - 48))

def bufGo (l : List UInt8) : Nat → Nat → List UInt8
  | 0, _ => []
  | m + 1, k => if B l k = 46 then bufGo l m (k + 1) else l.getD k 0 :: bufGo l m (k + 1)

abbrev Res : Type := Bool × List UInt8 × Int × Bool
def bad : Res := (false, [], 0, false)

def tail (l : List UInt8) (neg : Bool) (ws we fs fe : Nat) (e : Int) (i : Nat) : Res :=
  if i ≠ l.length then bad else
  let a := nzGo l (we - ws) ws (-1) (-1)
  let b := nzGo l (fe - fs) fs a.1 a.2
  if b.1 < 0 then (false, [], 0, true)
  else (neg, bufGo l (b.2 - b.1 + 1).toNat b.1.toNat, (if b.2 < we then (we : Int) - 1 - b.2 + e else e - (b.2 - fs + 1)), true)

def expo (l : List UInt8) (neg : Bool) (ws we fs fe : Nat) : Res :=
  if fe < l.length ∧ (B l fe = 101 ∨ B l fe = 69) then
    let i1 := fe + 1
    let es := if i1 < l.length ∧ (B l i1 = 43 ∨ B l i1 = 45) then i1 + 1 else i1
    let eneg := decide (i1 < l.length ∧ B l i1 = 45)
    let ee := scan l es
    if ee = es then bad else
    match sigGo l (ee - es) es 0 0 with
    | none => bad
    | some e => tail l neg ws we fs fe (if eneg then -e else e) ee
  else tail l neg ws we fs fe 0 fe

def mparse (l : List UInt8) : Res :=
  let neg := decide (0 < l.length ∧ B l 0 = 45)
  let ws := if neg then 1 else 0
  let we := scan l ws
  if we = ws then bad else
  if we < l.length ∧ B l we = 46 then
    let fs := we + 1
    let fe := scan l fs
    if fe = fs then bad else expo l neg ws we fs fe
  else expo l neg ws we we we

/-! ### what Parse computes -/
def allDigits (l : List UInt8) : Bool := l.all dig && !l.isEmpty
def normal (neg : Bool) (digits : List UInt8) (e : Int) : Res :=
  let trimmed := Lib.trimRightB digits 48
  if trimmed.isEmpty then (false, [], 0, true) else (neg, trimmed, e + digits.length - trimmed.length, true)
def signed (x : List UInt8) : Bool := match x with
  | [] => false
  | c :: _ => c.toNat == 43 || c.toNat == 45
def atoiV (x : List UInt8) : Int := match Lib.atoiAll x with
  | .ok v => v
  | _ => 0
def goTail (neg : Bool) (w f : List UInt8) (ex : List UInt8) (hasExp : Bool) : Res :=
  if hasExp then
    let d := if signed ex then ex.drop 1 else ex
    if !allDigits d || decide (9 < (Lib.trimLeftB d 48).length) then bad
    else normal neg (Lib.trimLeftB (w ++ f) 48) (atoiV ex - f.length)
  else normal neg (Lib.trimLeftB (w ++ f) 48) (0 - f.length)
def goMant (neg : Bool) (c : List UInt8 × List UInt8 × Bool) : Res :=
  let m := Lib.cut c.1 [46]
  if !allDigits m.1 || (m.2.2 && !allDigits m.2.1) then bad else goTail neg m.1 m.2.1 c.2.1 c.2.2
def goCut (t : List UInt8) : List UInt8 × List UInt8 × Bool :=
  let c := Lib.cut t [101]
  if c.2.2 then c else Lib.cut t [69]
def goParse (s : List UInt8) : Res :=
  let neg := Lib.hasPrefix s [45]
  goMant neg (goCut (if neg then s.drop 1 else s))

end Go.Proofs.Qxb6606095aDoor.Pl
