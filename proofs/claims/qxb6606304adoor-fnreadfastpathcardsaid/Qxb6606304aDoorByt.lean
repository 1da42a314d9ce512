/-
  PLAIN: bytes of strings and of lists; pieces of strings.
-/
import Derived.PlainAid
import Derived.Lib.Strings
import Derived.Lib.TrimByte
import Derived.Lib.IndexBytes
namespace Go.Proofs.Qxb6606304aDoor
open Go.PlainAid

def B (l : List UInt8) (k : Nat) : Int := ((l.getD k 0).toNat : Int)
theorem B_nonneg (l : List UInt8) (k : Nat) : 0 ≤ B l k := by unfold B; omega
theorem B_le (l : List UInt8) (k : Nat) : B l k ≤ 255 := by
  unfold B; have := (l.getD k 0).toNat_lt; omega
theorem B_right (p q : List UInt8) (k : Nat) : B (p ++ q) (p.length + k) = B q k := by
  unfold B
  rw [List.getD_eq_getElem?_getD, List.getD_eq_getElem?_getD, List.getElem?_append_right (by omega)]
  congr 4
  omega
theorem B_left (p q : List UInt8) (k : Nat) (h : k < p.length) : B (p ++ q) k = B p k := by
  unfold B
  rw [List.getD_eq_getElem?_getD, List.getD_eq_getElem?_getD, List.getElem?_append_left h]
theorem B_cons (c : UInt8) (q : List UInt8) : B (c :: q) 0 = (c.toNat : Int) := rfl
theorem B_succ (c : UInt8) (q : List UInt8) (k : Nat) : B (c :: q) (k + 1) = B q k := by
  unfold B; simp [List.getD_eq_getElem?_getD]
theorem B_get (l : List UInt8) (k : Nat) (h : k < l.length) : B l k = (l[k].toNat : Int) := by
  unfold B
  rw [List.getD_eq_getElem?_getD, List.getElem?_eq_getElem h]; rfl
theorem B_drop (l : List UInt8) (a k : Nat) : B (l.drop a) k = B l (a + k) := by
  unfold B
  rw [List.getD_eq_getElem?_getD, List.getD_eq_getElem?_getD, List.getElem?_drop]
theorem B_take (l : List UInt8) (a k : Nat) (h : k < a) : B (l.take a) k = B l k := by
  unfold B
  rw [List.getD_eq_getElem?_getD, List.getD_eq_getElem?_getD, List.getElem?_take, if_pos h]
theorem B_bt (s : ByteArray) (k : Nat) : bt s k = B s.data.toList k := by
  unfold bt B
  split
  · rename_i h
    rw [List.getD_eq_getElem?_getD, Lib.data_getElem? s k h]; rfl
  · rename_i h
    rw [List.getD_eq_getElem?_getD, List.getElem?_eq_none (by
      have : s.data.toList.length = s.size := rfl
      omega)]; rfl
theorem len_size (s : ByteArray) : s.data.toList.length = s.size := rfl
theorem size_mk (l : List UInt8) : (⟨l.toArray⟩ : ByteArray).size = l.length := rfl
theorem bt_ext (s : ByteArray) (a b k : Nat) (hk : k < b - a) : bt (s.extract a b) k = bt s (a + k) := by
  rw [B_bt, B_bt, Lib.extract_data, B_take _ _ _ hk, B_drop]
theorem size_ext (s : ByteArray) (a b : Nat) (hb : b ≤ s.size) : (s.extract a b).size = b - a := by
  rw [← len_size, Lib.extract_data, List.length_take, List.length_drop, len_size]; omega
/-- A piece of a string, by the list. -/
theorem ext_mk (s : ByteArray) (a b : Nat) : s.extract a b = ⟨((s.data.toList.drop a).take (b - a)).toArray⟩ := by
  have h := Lib.extract_data s a b
  cases hx : s.extract a b with
  | mk d =>
    rw [hx] at h
    congr 1
    simp only at h
    rw [← h]
/-- digits -/
def dig (c : UInt8) : Bool := decide (48 ≤ c.toNat ∧ c.toNat ≤ 57)
theorem dig_B {l : List UInt8} (h : l.all dig = true) (k : Nat) (hk : k < l.length) : 48 ≤ B l k ∧ B l k ≤ 57 := by
  rw [List.all_eq_true] at h
  have := of_decide_eq_true (h _ (List.getElem_mem hk))
  rw [B_get l k hk]
  omega
def val : List UInt8 → Nat → Nat
  | [], e => e
  | c :: d, e => val d (e * 10 + (c.toNat - 48))
theorem val_app : ∀ (a b : List UInt8) (e : Nat), val (a ++ b) e = val b (val a e) := by
  intro a
  induction a with
  | nil => intros; rfl
  | cons c a ih => intro b e; rw [List.cons_append, val, ih, val]
theorem val_le : ∀ (d : List UInt8) (e : Nat), e ≤ val d e := by
  intro d
  induction d with
  | nil => intro e; exact Nat.le_refl _
  | cons c d ih =>
    intro e
    rw [val]
    have := ih (e * 10 + (c.toNat - 48))
    omega
theorem val_step (d : List UInt8) (k : Nat) (hk : k < d.length) (h : 48 ≤ B d k) : ((val (d.take (k + 1)) 0 : Nat) : Int) = (val (d.take k) 0 : Nat) * 10 + (B d k - 48) := by
  rw [List.take_add_one, List.getElem?_eq_getElem hk]
  show ((val (d.take k ++ [d[k]]) 0 : Nat) : Int) = _
  rw [val_app]
  show (((val (d.take k) 0) * 10 + (d[k].toNat - 48) : Nat) : Int) = _
  rw [B_get d k hk] at h ⊢
  omega
theorem val_take_le (d : List UInt8) (k : Nat) : val (d.take k) 0 ≤ val d 0 := by
  have h := val_app (d.take k) (d.drop k) 0
  rw [List.take_append_drop] at h
  rw [h]; exact val_le _ _
end Go.Proofs.Qxb6606304aDoor
