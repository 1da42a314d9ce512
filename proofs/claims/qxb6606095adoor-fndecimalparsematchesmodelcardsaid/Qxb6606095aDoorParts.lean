/-
  SEAT b6606095aD: what the scanner's walk is told of the plain functions, in the walk's own words ('bt s k').
-/
import Derived.Test.Qxb6606095aDoorSmall
namespace Go.Proofs.Qxb6606095aDoor
open Go.RowKit Go.PlainAid

def neg0 (s : ByteArray) : Bool := decide (0 < s.size ∧ bt s 0 = 45)
def ws0 (s : ByteArray) : Nat := if neg0 s then 1 else 0
def scanS (s : ByteArray) (i : Nat) : Nat := Pl.scan s.data.toList i
theorem hide {p : Prop} (h : p) : Hid p := h
theorem scanS_step {s : ByteArray} {i : Nat} (h : i < s.size) (h1 : 48 ≤ bt s i) (h2 : bt s i ≤ 57) : scanS s (i + 1) = scanS s i := by
  rw [B_bt] at h1 h2; exact (Pl.scan_step (by rw [len_size]; exact h) h1 h2).symm
theorem scanS_end {s : ByteArray} {i : Nat} (h : s.size ≤ i) : scanS s i = i := Pl.scan_end (by rw [len_size]; exact h)
theorem scanS_stop {s : ByteArray} {i : Nat} (h : i < s.size) (h1 : ¬ (48 ≤ bt s i ∧ bt s i ≤ 57)) : scanS s i = i := by
  rw [B_bt] at h1; exact Pl.scan_stop (by rw [len_size]; exact h) h1

theorem scanS_dig {s : ByteArray} {i k : Nat} (h1 : i ≤ k) (h2 : k < scanS s i) : 48 ≤ bt s k ∧ bt s k ≤ 57 := by
  rw [B_bt]; exact Pl.scan_dig h1 h2
theorem scanS_ge (s : ByteArray) (i : Nat) : i ≤ scanS s i := Pl.scan_ge _ _
theorem scanS_le {s : ByteArray} {i : Nat} (h : i ≤ s.size) : scanS s i ≤ s.size := Pl.scan_le (by rw [len_size]; exact h)
theorem ws0_le (s : ByteArray) : ws0 s ≤ s.size ∧ ws0 s ≤ 1 := by
  unfold ws0
  split
  · rename_i h
    have := (of_decide_eq_true h).1
    omega
  · omega
def ptB (s : ByteArray) (we : Nat) : Bool := decide (we < s.size ∧ bt s we = 46)
abbrev mp (s : ByteArray) : Pl.Res := Pl.mparse s.data.toList
theorem neg0_eq (s : ByteArray) : decide (0 < s.data.toList.length ∧ Pl.B s.data.toList 0 = 45) = neg0 s := by
  unfold neg0; rw [B_bt]; rfl
theorem mp_1 {s : ByteArray} (h : scanS s (ws0 s) = ws0 s) : mp s = Pl.bad := by
  unfold mp Pl.mparse
  simp only [neg0_eq]
  exact if_pos h
theorem mp_2 {s : ByteArray} {we : Nat} (h : scanS s (ws0 s) = we) (hn : we ≠ ws0 s) : mp s = if we < s.size ∧ bt s we = 46 then (if scanS s (we + 1) = we + 1 then Pl.bad else Pl.expo s.data.toList (neg0 s) (ws0 s) we (we + 1) (scanS s (we + 1))) else Pl.expo s.data.toList (neg0 s) (ws0 s) we we we := by
  unfold mp Pl.mparse
  simp only [neg0_eq]
  have h' : Pl.scan s.data.toList (if neg0 s = true then 1 else 0) = we := h
  have e : (if neg0 s = true then 1 else 0) = ws0 s := rfl
  rw [h', e, if_neg hn, B_bt, len_size]
  rfl

def exB (s : ByteArray) (fe : Nat) : Bool := decide (fe < s.size ∧ (bt s fe = 101 ∨ bt s fe = 69))
def sgB (s : ByteArray) (i : Nat) : Bool := decide (i < s.size ∧ (bt s i = 43 ∨ bt s i = 45))
def mnB (s : ByteArray) (i : Nat) : Bool := decide (i < s.size ∧ bt s i = 45)
def es0 (s : ByteArray) (i : Nat) : Nat := if sgB s i then i + 1 else i
theorem es0_le {s : ByteArray} {i : Nat} (h : i ≤ s.size) : i ≤ es0 s i ∧ es0 s i ≤ s.size := by
  unfold es0
  split
  · rename_i hs
    have := (of_decide_eq_true hs).1
    omega
  · omega
def sigS (s : ByteArray) (m k : Nat) (sig e : Int) : Option Int := Pl.sigGo s.data.toList m k sig e
theorem sigS_skip {s : ByteArray} {m k : Nat} {sig e : Int} (h1 : sig = 0) (h2 : bt s k = 48) : sigS s (m + 1) k sig e = sigS s m (k + 1) sig e := by
  rw [B_bt] at h2
  unfold sigS
  rw [Pl.sigGo, if_pos ⟨h1, h2⟩]
theorem sigS_take {s : ByteArray} {m k : Nat} {sig e : Int} (h1 : ¬ (sig = 0 ∧ bt s k = 48)) (h2 : sig + 1 ≤ 9) : sigS s (m + 1) k sig e = sigS s m (k + 1) (sig + 1) (e * 10 + (bt s k - 48)) := by
  rw [B_bt] at h1 ⊢
  unfold sigS
  rw [Pl.sigGo, if_neg h1, if_neg (by omega)]
theorem sigS_none {s : ByteArray} {m k : Nat} {sig e : Int} (h1 : ¬ (sig = 0 ∧ bt s k = 48)) (h2 : 9 < sig + 1) : sigS s (m + 1) k sig e = none := by
  rw [B_bt] at h1
  unfold sigS
  rw [Pl.sigGo, if_neg h1, if_pos h2]
theorem sig_pow {n : Nat} {e d : Int} (he : 0 ≤ e) (h : e < 10 ^ n) (hd0 : 0 ≤ d) (hd : d ≤ 9) : 0 ≤ e * 10 + d ∧ e * 10 + d < 10 ^ (n + 1) := by
  rw [Int.pow_succ]; omega
theorem pow_le9 {n : Nat} (h : n ≤ 9) : (10 : Int) ^ n ≤ 1000000000 := by
  have := Nat.pow_le_pow_right (n := 10) (by omega) h
  have e : (10 : Nat) ^ 9 = 1000000000 := by decide
  rw [e] at this
  have h1 : ((10 ^ n : Nat) : Int) ≤ ((1000000000 : Nat) : Int) := Int.ofNat_le.2 this
  rw [Int.natCast_pow] at h1
  exact h1
def tailS (s : ByteArray) (neg : Bool) (ws we fs fe : Nat) (e : Int) (i : Nat) : Pl.Res := Pl.tail s.data.toList neg ws we fs fe e i
theorem ex_no {s : ByteArray} {neg : Bool} {ws we fs fe : Nat} (h : exB s fe = false) : Pl.expo s.data.toList neg ws we fs fe = tailS s neg ws we fs fe 0 fe := by
  unfold Pl.expo tailS
  have h' := of_decide_eq_false h
  rw [B_bt] at h'
  exact if_neg h'
theorem ex_yes {s : ByteArray} {neg : Bool} {ws we fs fe : Nat} (h : exB s fe = true) : Pl.expo s.data.toList neg ws we fs fe =
    if scanS s (es0 s (fe + 1)) = es0 s (fe + 1) then Pl.bad else
      match sigS s (scanS s (es0 s (fe + 1)) - es0 s (fe + 1)) (es0 s (fe + 1)) 0 0 with
      | none => Pl.bad
      | some e => tailS s neg ws we fs fe (if mnB s (fe + 1) then -e else e) (scanS s (es0 s (fe + 1))) := by
  unfold Pl.expo tailS
  have h' := of_decide_eq_true h
  rw [B_bt, ← len_size s] at h'
  rw [if_pos h']
  have e1 : (if fe + 1 < s.data.toList.length ∧ (Pl.B s.data.toList (fe + 1) = 43 ∨ Pl.B s.data.toList (fe + 1) = 45) then fe + 1 + 1 else fe + 1) = es0 s (fe + 1) := by
    unfold es0 sgB
    rw [← B_bt, len_size]
    simp only [decide_eq_true_eq]
  have e2 : decide (fe + 1 < s.data.toList.length ∧ Pl.B s.data.toList (fe + 1) = 45) = mnB s (fe + 1) := by
    unfold mnB
    rw [← B_bt, len_size]
  simp only [e1, e2]
  rfl
def nzS (s : ByteArray) (m k : Nat) (f t : Int) : Int × Int := Pl.nzGo s.data.toList m k f t
theorem nzS_zero {s : ByteArray} {m k : Nat} {f t : Int} (h : bt s k = 48) : nzS s (m + 1) k f t = nzS s m (k + 1) f t := by
  rw [B_bt] at h; unfold nzS; rw [Pl.nzGo, if_pos h]
theorem nzS_one {s : ByteArray} {m k : Nat} {f t : Int} (h : ¬ bt s k = 48) : nzS s (m + 1) k f t = nzS s m (k + 1) (if f < 0 then (k : Int) else f) k := by
  rw [B_bt] at h; unfold nzS; rw [Pl.nzGo, if_neg h]
def bufS (s : ByteArray) (m k : Nat) : List UInt8 := Pl.bufGo s.data.toList m k
theorem bufS_dot {s : ByteArray} {m k : Nat} (h : bt s k = 46) : bufS s (m + 1) k = bufS s m (k + 1) := by
  rw [B_bt] at h; unfold bufS; rw [Pl.bufGo, if_pos h]
theorem bufS_take {s : ByteArray} {m k : Nat} (h : ¬ bt s k = 46) : bufS s (m + 1) k = s.data.toList.getD k 0 :: bufS s m (k + 1) := by
  rw [B_bt] at h; unfold bufS; rw [Pl.bufGo, if_neg h]
theorem Tryd.info5 : (Tryd.prog.info? 5).map (fun i => (i.zero, i.size, i.bytes)) = some (some (.int .u8 0), 1, 1) := by kernel_rfl
theorem own_snoc {w : World} {B : Nat} {v : Value} {bs : List UInt8} {s : ByteArray} {k : Nat} (h : w.ownsRow B 5 1 v (bs.length + 1) (bs.map (fun c => Value.int .u8 c.toNat) ++ [.int .u8 (bt s k)])) :
    w.ownsRow B 5 1 v (bs ++ [s.data.toList.getD k 0]).length ((bs ++ [s.data.toList.getD k 0]).map fun c => Value.int .u8 c.toNat) := by
  have e : bt s k = ((s.data.toList.getD k 0).toNat : Int) := B_bt s k
  rw [e] at h
  simpa using h
theorem own_block {w : World} {B e size n : Nat} {v : Value} {xs : List Value} (h : w.ownsRow B e size v n xs) : ∀ k, v.ownBlock = some k → B ≤ k := by
  intro k hk
  rcases h.2 with ⟨rfl, _⟩ | ⟨g, cap, cur, rfl, hb, _⟩
  · cases hk
  · simp only [Value.ownBlock, Option.some.injEq] at hk
    omega
theorem conv_own {w : World} {B : Nat} {v : Value} {bs : List UInt8} (h : w.ownsRow B 5 1 v bs.length (bs.map fun c => Value.int .u8 c.toNat)) : (convert 32 9 v).run Tryd.prog w = .ok (.string ⟨bs.toArray⟩) w := by
  rcases h.2 with ⟨rfl, h0⟩ | ⟨g, cap, cur, rfl, hb, hrest⟩
  · have : bs = [] := List.length_eq_zero_iff.1 h0
    subst this
    exact run_convert_bytes_nil w 32 5 Tryd.underlying32 Tryd.underlying5 0 0 9 Tryd.underlying9
  · refine run_convert_bytes_back w 32 9 5 ⟨g, 0, none⟩ cap bs Tryd.underlying32 Tryd.underlying5 Tryd.underlying9 fun j hj => ?_
    have := h.cellAt j (by omega)
    have e : (⟨g, 0, none⟩ : Addr).add j = ⟨g, j, none⟩ := by simp [Addr.add]; omega
    rw [e, this]
    simp [hj]
theorem own_drewN {w : World} {B e size n : Nat} {v : Value} {xs : List Value} (h : w.ownsRow B e size v n xs) (m : Nat) : (w.drewN m).ownsRow B e size v n xs := h
theorem tail_no {s : ByteArray} {neg : Bool} {ws we fs fe i : Nat} {e : Int} (h : i ≠ s.size) : tailS s neg ws we fs fe e i = Pl.bad := if_pos h
theorem tail_yes {s : ByteArray} {neg : Bool} {ws we fs fe i : Nat} {e : Int} (h : i = s.size) {f1 t1 f t : Int} (h1 : nzS s (we - ws) ws (-1) (-1) = (f1, t1)) (h2 : nzS s (fe - fs) fs f1 t1 = (f, t)) :
    tailS s neg ws we fs fe e i = if f < 0 then (false, [], 0, true) else (neg, bufS s (t - f + 1).toNat f.toNat, (if t < we then (we : Int) - 1 - t + e else e - (t - fs + 1)), true) := by
  unfold tailS Pl.tail
  rw [if_neg (fun hn => hn h)]
  have h1' : Pl.nzGo s.data.toList (we - ws) ws (-1) (-1) = (f1, t1) := h1
  have h2' : Pl.nzGo s.data.toList (fe - fs) fs f1 t1 = (f, t) := h2
  simp only [h1', h2']
  rfl

theorem ret4 {r : Pl.Res} {a : Bool} {b : List UInt8} {c : Int} {d : Bool} (h : r = (a, b, c, d)) :
    Ending.returned (.tuple #[.bool a, .string ⟨b.toArray⟩, .int .i64 c, .bool d]) = .returned (.tuple #[.bool r.1, .string ⟨r.2.1.toArray⟩, .int .i64 r.2.2.1, .bool r.2.2.2]) := by rw [h]

end Go.Proofs.Qxb6606095aDoor
