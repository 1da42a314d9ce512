/-
  BASE: rows of bytes; the walks of name bytes, valid names, mark names.
-/
import Derived.Test.Qxb6608740aFmtRows
import Derived.Test.Qxb6608740aFmtPlain
import Derived.WalkKit
import Derived.WalkSpells
import Derived.WalkLawsBesides
import Derived.PlainAid
import Derived.Laws.IdiomStrings
namespace Go.Proofs.Qxb6608740aFmt
open Go.RowKit Go.PlainAid

theorem hide {p : Prop} (h : p) : Hid p := h
theorem len_size (s : ByteArray) : s.data.toList.length = s.size := rfl
theorem B_bt (s : ByteArray) (k : Nat) : bt s k = Pl.B s.data.toList k := by
  unfold bt Pl.B
  split
  · rename_i h
    rw [List.getD_eq_getElem?_getD, Lib.data_getElem? s k h]; rfl
  · rename_i h
    rw [List.getD_eq_getElem?_getD, List.getElem?_eq_none (by
      have : s.data.toList.length = s.size := rfl
      omega)]; rfl
theorem ret_bool {a b : Bool} (h : a = b) : Ending.returned (.bool a) = .returned (.bool b) := by rw [h]

theorem cell_lt {w : World} {a : Addr} {v : Value} (h : w.cell? a = some v) : a.block < w.heap.size := by
  rcases Nat.lt_or_ge a.block w.heap.size with h1 | h1
  · exact h1
  · unfold World.cell? at h
    simp [Array.getElem?_eq_none h1] at h

/-- The bytes l lie in w from cell o of block b on. -/
def RowAt (w : World) (b o : Nat) (l : List UInt8) : Prop := ∀ i, i < l.length → w.cell? ⟨b, o + i, none⟩ = some (.int .u8 (Pl.B l i))
theorem RowAt.below {w w' : World} {b o : Nat} {l : List UInt8} (h : RowAt w b o l) (hb : Below w.heap.size w w') : RowAt w' b o l := fun i hi =>
  (hb.cell (p := ⟨b, o + i, none⟩) (cell_lt (h i hi))).trans (h i hi)
theorem RowAt.below_le {w w' : World} {b o B : Nat} {l : List UInt8} (h : RowAt w b o l) (hb : Below B w w') (hB : b < B) : RowAt w' b o l := fun i hi =>
  (hb.cell (p := ⟨b, o + i, none⟩) hB).trans (h i hi)
theorem RowAt.piece {w : World} {b o : Nat} {p q r : List UInt8} (h : RowAt w b o (p ++ q ++ r)) : RowAt w b (o + p.length) q := fun i hi => by
  have := h (p.length + i) (by simp; omega)
  rw [List.append_assoc, Pl.B_right, Pl.B_left _ _ _ hi] at this
  rw [Nat.add_assoc]; exact this
theorem RowAt.drewN {w : World} {b o : Nat} {l : List UInt8} (h : RowAt w b o l) (n : Nat) : RowAt (w.drewN n) b o l := h

/-- WHAT THE WALKS ASK OF THE LIBRARY's VARIABLES: internal/bytealg.MaxLen holds some int; strconv.ErrRange some interface value. -/
def Env (w : World) : Prop := (∃ m, w.cell? ⟨0, 0, none⟩ = some (.int .i64 m)) ∧ ∃ ev, w.cell? ⟨4, 0, none⟩ = some ev ∧ (ev = .nilIface ∨ ∃ te pe, ev = .iface te pe)
theorem Env.below {w w' : World} (h : Env w) (hb : Below w.heap.size w w') : Env w' := by
  obtain ⟨⟨m, hm⟩, ev, hv, hev⟩ := h
  exact ⟨⟨m, (hb.cell (p := ⟨0, 0, none⟩) (cell_lt hm)).trans hm⟩, ev, (hb.cell (p := ⟨4, 0, none⟩) (cell_lt hv)).trans hv, hev⟩

set_option maxHeartbeats 400000 in
theorem nameByte_yes (c : Int) (w : World) (h1 : 33 ≤ c) (h2 : c ≤ 126) :
    Calls Tryf.prog 17 #[.int .u8 c] w fun e w' => e = .returned (.bool true) ∧ w' = w := by
  go_enter Tryf.func17, Tryf.ntmps17
  go_wp2
  go_ret
  exact ⟨rfl, rfl⟩
set_option maxHeartbeats 400000 in
theorem nameByte_no (c : Int) (w : World) (h : ¬ (33 ≤ c ∧ c ≤ 126)) :
    Calls Tryf.prog 17 #[.int .u8 c] w fun e w' => e = .returned (.bool false) ∧ w' = w := by
  by_cases h1 : 33 ≤ c
  · have h2 : ¬ c ≤ 126 := fun h2 => h ⟨h1, h2⟩
    clear h
    go_enter Tryf.func17, Tryf.ntmps17
    go_wp2
    go_ret
    exact ⟨rfl, rfl⟩
  · clear h
    go_enter Tryf.func17, Tryf.ntmps17
    go_wp2
    go_ret
    exact ⟨rfl, rfl⟩

theorem valid_iff (l : List UInt8) : Pl.validName l = true ↔ 0 < l.length ∧ ∀ k, k < l.length → 33 ≤ Pl.B l k ∧ Pl.B l k ≤ 126 := by
  unfold Pl.validName
  rw [Bool.and_eq_true, Bool.not_eq_true', List.isEmpty_eq_false_iff, Pl.all_B Pl.nameByte (fun z => 33 ≤ z ∧ z ≤ 126) Pl.name_iff, List.length_pos_iff]
theorem allDig_iff (l : List UInt8) : Pl.allDig l = true ↔ 0 < l.length ∧ ∀ k, k < l.length → 48 ≤ Pl.B l k ∧ Pl.B l k ≤ 57 := by
  unfold Pl.allDig
  rw [Bool.and_eq_true, Bool.not_eq_true', List.isEmpty_eq_false_iff, Pl.all_B Pl.dig (fun z => 48 ≤ z ∧ z ≤ 57) Pl.dig_iff, List.length_pos_iff]
theorem not_valid {l : List UInt8} {k : Nat} (hk : k < l.length) (h : ¬ (33 ≤ Pl.B l k ∧ Pl.B l k ≤ 126)) : Pl.validName l = false := by
  rw [Bool.eq_false_iff, Ne, valid_iff]; exact fun hh => h (hh.2 k hk)
theorem not_valid0 {l : List UInt8} (h : l.length = 0) : Pl.validName l = false := by
  rw [Bool.eq_false_iff, Ne, valid_iff]; omega
theorem not_dig {l : List UInt8} {k : Nat} (hk : k < l.length) (h : ¬ (48 ≤ Pl.B l k ∧ Pl.B l k ≤ 57)) : Pl.allDig l = false := by
  rw [Bool.eq_false_iff, Ne, allDig_iff]; exact fun hh => h (hh.2 k hk)
theorem not_dig0 {l : List UInt8} (h : l.length = 0) : Pl.allDig l = false := by
  rw [Bool.eq_false_iff, Ne, allDig_iff]; omega

set_option maxHeartbeats 1000000 in
theorem validName_any (s : ByteArray) (w : World) (hs : s.size ≤ maxLen) :
    Calls Tryf.prog 11 #[.string s] w fun e w' => e = .returned (.bool (Pl.validName s.data.toList)) ∧ w' = w := by
  unfold maxLen at hs
  have hb := get_bt s
  by_cases h0 : s.size = 0
  · have hq : ((s.size : Int) == 0) = true := beq_iff_eq.2 (by omega)
    have hv := hide (not_valid0 (l := s.data.toList) h0)
    clear h0
    go_enter Tryf.func11, Tryf.ntmps11
    go_wp2
    go_ret
    exact ⟨ret_bool hv.out.symm, rfl⟩
  have hq : ((s.size : Int) == 0) = false := beq_eq_false_iff_ne.2 (by omega)
  have h0' : 0 < s.size := by omega
  clear h0
  go_enter Tryf.func11, Tryf.ntmps11
  go_wp2
  go_loop [3] (fun i => ∃ k : Nat, k ≤ s.size ∧ i = .int .i64 k ∧ Hid (∀ j, j < k → 33 ≤ bt s j ∧ bt s j ≤ 126)) (fun i => s.size - (intOf i).toNat)
  case atStart => exact ⟨0, Nat.zero_le _, rfl, hide fun j hj => absurd hj (Nat.not_lt_zero _)⟩
  case round =>
    obtain ⟨k, hk, rfl, hall⟩ := hrel
    by_cases hlt : k < s.size
    · by_cases h1 : 33 ≤ bt s k ∧ bt s k ≤ 126
      · obtain ⟨h1, h2⟩ := h1
        go_wp2
        go_round
        case rel => exact ⟨k + 1, by omega, by go_num, hide fun j hj => by
          by_cases e : j = k
          · subst e; omega
          · exact hall.out j (by omega)⟩
        case measure => simp [intOf]; omega
      · have hv : Hid (Pl.validName s.data.toList = false) := not_valid (k := k) hlt (by rw [← B_bt]; exact h1)
        go_wp2_with (go_at_call 17; refine (nameByte_no _ _ h1).mono ?_; rintro e w' ⟨rfl, rfl⟩)
        go_ret
        exact ⟨ret_bool hv.out.symm, rfl⟩
    · have hv : Hid (Pl.validName s.data.toList = true) := (valid_iff _).2 ⟨h0', fun j hj => by rw [← B_bt]; exact hall.out j (by have := len_size s; omega)⟩
      go_wp2
      go_ret
      exact ⟨ret_bool hv.out.symm, rfl⟩

set_option maxHeartbeats 1000000 in
theorem markName_any (b o c : Nat) (l : List UInt8) (n : Nat) (w : World) (hl : Hid (l.length = n)) (hr : RowAt w b o l) (hn : n ≤ 1048576) :
    Calls Tryf.prog 28 #[.slice (some ⟨b, o, none⟩) n c] w fun e w' => e = .returned (.bool (Pl.validName l)) ∧ w' = w := by
  have b0 := Pl.B_nonneg l
  have b1 := Pl.B_le l
  by_cases h0 : n = 0
  · have hq : ((n : Int) == 0) = true := beq_iff_eq.2 (by omega)
    have hv := hide (not_valid0 (hl.out.trans h0))
    clear h0
    go_enter Tryf.func28, Tryf.ntmps28
    go_wp2
    go_ret
    exact ⟨ret_bool hv.out.symm, rfl⟩
  have hq : ((n : Int) == 0) = false := beq_eq_false_iff_ne.2 (by omega)
  have h0' : 0 < n := by omega
  clear h0
  have hrH := hide hr
  clear hr
  go_enter Tryf.func28, Tryf.ntmps28
  go_wp2
  go_loop [10] (fun i => ∃ k : Nat, k ≤ n ∧ i = .int .i64 k ∧ Hid (∀ j, j < k → 33 ≤ Pl.B l j ∧ Pl.B l j ≤ 126)) (fun i => n - (intOf i).toNat)
  case atStart => exact ⟨0, Nat.zero_le _, rfl, hide fun j hj => absurd hj (Nat.not_lt_zero _)⟩
  case round =>
    obtain ⟨k, hk, rfl, hall⟩ := hrel
    by_cases hlt : k < n
    · have hcell := hrH.out k (by rw [hl.out]; exact hlt)
      by_cases h1 : Pl.B l k ≤ 32
      · have hv := hide (not_valid (l := l) (k := k) (by rw [hl.out]; exact hlt) (by omega))
        go_wp2
        go_ret
        exact ⟨ret_bool hv.out.symm, rfl⟩
      · by_cases h2 : 126 < Pl.B l k
        · have hv := hide (not_valid (l := l) (k := k) (by rw [hl.out]; exact hlt) (by omega))
          go_wp2
          go_ret
          exact ⟨ret_bool hv.out.symm, rfl⟩
        · go_wp2
          go_round
          case rel => exact ⟨k + 1, by omega, by go_num, hide fun j hj => by
            by_cases e : j = k
            · subst e; omega
            · exact hall.out j (by omega)⟩
          case measure => simp [intOf]; omega
    · have hv := hide ((valid_iff l).2 ⟨by rw [hl.out]; exact h0', fun j hj => hall.out j (by rw [hl.out] at hj; omega)⟩)
      go_wp2
      go_ret
      exact ⟨ret_bool hv.out.symm, rfl⟩

theorem conv_row {w : World} {b o c n : Nat} {l : List UInt8} (hl : l.length = n) (hr : RowAt w b o l) : (convert 22 9 (.slice (some ⟨b, o, none⟩) n c)).run Tryf.prog w = .ok (.string ⟨l.toArray⟩) w := by
  subst hl
  refine run_convert_bytes_back w 22 9 5 ⟨b, o, none⟩ c l Tryf.underlying22 Tryf.underlying5 Tryf.underlying9 fun j hj => ?_
  have e : (⟨b, o, none⟩ : Addr).add j = ⟨b, o + j, none⟩ := by unfold Addr.add; split <;> simp_all
  rw [e, hr j hj, Pl.B_get l j hj]

def pdR (l : List UInt8) : Int × Bool := match Pl.pd l with
  | none => (0, false)
  | some v => (v, true)
theorem pdR_no {l : List UInt8} (h : Pl.allDig l = false) : pdR l = (0, false) := by
  unfold pdR Pl.pd; rw [if_neg (by rw [h]; simp)]
theorem pdR_ok {l : List UInt8} (h : Pl.allDig l = true) (h2 : Pl.valN l 0 < Pl.big) : pdR l = (((Pl.valN l 0 : Nat) : Int), true) := by
  unfold pdR Pl.pd; rw [if_pos h, if_pos h2]
theorem pdR_big {l : List UInt8} (h : Pl.allDig l = true) (h2 : ¬ Pl.valN l 0 < Pl.big) : pdR l = (0, false) := by
  unfold pdR Pl.pd; rw [if_pos h, if_neg h2]
theorem ret_pd {l : List UInt8} {a : Int} {b : Bool} (h : pdR l = (a, b)) : Ending.returned (.tuple #[.int .i64 a, .bool b]) = .returned (.tuple #[.int .i64 (pdR l).1, .bool (pdR l).2]) := by rw [h]

end Go.Proofs.Qxb6608740aFmt
