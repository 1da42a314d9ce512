/-
  SMALL WALKS: name bytes, JSON integers, the argument's length, bytes compared.
-/
import Derived.Test.Qxb6608938aDoorRows
import Derived.Test.Qxb6608938aDoorPlain
import Derived.Test.Qxb6608938aDoorShelf
import Derived.WalkKit
import Derived.WalkSpells
import Derived.WalkLawsBesides
import Derived.PlainAid
import Derived.Laws.IdiomStrings
import Derived.Lib.IndexBytes
import Derived.Deep.DeepCutAuto
import Derived.Deep.CutBlock
namespace Go.Proofs.Qxb6608938aDoor
open Go.RowKit Go.PlainAid

theorem hide {p : Prop} (h : p) : Hid p := h
theorem len_size (s : ByteArray) : s.data.toList.length = s.size := rfl
theorem B_bt (s : ByteArray) (k : Nat) : bt s k = Pl.B s.data.toList k := by
  unfold bt Pl.B
  split
  · rename_i h
    rw [List.getD_eq_getElem?_getD, Lib.data_getElem? s k h]; rfl
  · rename_i h
    rw [List.getD_eq_getElem?_getD, List.getElem?_eq_none (by
      have : s.data.toList.length = s.size := rfl
      omega)]; rfl
theorem cell_lt {w : World} {a : Addr} {v : Value} (h : w.cell? a = some v) : a.block < w.heap.size := by
  rcases Nat.lt_or_ge a.block w.heap.size with h1 | h1
  · exact h1
  · unfold World.cell? at h
    simp [Array.getElem?_eq_none h1] at h

/-- The bytes l lie in w from cell o of block b on. -/
def RowAt (w : World) (b o : Nat) (l : List UInt8) : Prop := ∀ i, i < l.length → w.cell? ⟨b, o + i, none⟩ = some (.int .u8 (Pl.B l i))
theorem RowAt.below_le {w w' : World} {b o B : Nat} {l : List UInt8} (h : RowAt w b o l) (hb : Below B w w') (hB : b < B) : RowAt w' b o l := fun i hi =>
  (hb.cell (p := ⟨b, o + i, none⟩) hB).trans (h i hi)
theorem RowAt.below {w w' : World} {b o : Nat} {l : List UInt8} (h : RowAt w b o l) (hb : Below w.heap.size w w') : RowAt w' b o l := fun i hi =>
  (hb.cell (p := ⟨b, o + i, none⟩) (cell_lt (h i hi))).trans (h i hi)
theorem RowAt.drop {w : World} {b o : Nat} {l : List UInt8} (h : RowAt w b o l) (k : Nat) : RowAt w b (o + k) (l.drop k) := fun i hi => by
  rw [List.length_drop] at hi
  have := h (k + i) (by omega)
  rw [Pl.B_drop, Nat.add_assoc]; exact this
theorem RowAt.take {w : World} {b o : Nat} {l : List UInt8} (h : RowAt w b o l) (k : Nat) : RowAt w b o (l.take k) := fun i hi => by
  rw [List.length_take] at hi
  have := h i (by omega)
  rw [this]
  unfold Pl.B
  rw [List.getD_eq_getElem?_getD, List.getD_eq_getElem?_getD, List.getElem?_take, if_pos (by omega)]

theorem nameByte_yes (c : Int) (w : World) (h : Pl.nameI c) :
    Calls Tryd.prog 10 #[.int .u8 c] w fun e w' => e = .returned (.bool true) ∧ w' = w := by
  unfold Pl.nameI at h
  have hq : ((c == 45) = true ∧ c = 45) ∨ ((c == 45) = false ∧ c ≠ 45) := by
    by_cases e : c = 45
    · exact .inl ⟨beq_iff_eq.2 e, e⟩
    · exact .inr ⟨beq_eq_false_iff_ne.2 e, e⟩
  have hr : ((c == 95) = true ∧ c = 95) ∨ ((c == 95) = false ∧ c ≠ 95) := by
    by_cases e : c = 95
    · exact .inl ⟨beq_iff_eq.2 e, e⟩
    · exact .inr ⟨beq_eq_false_iff_ne.2 e, e⟩
  obtain ⟨hq1, hq2⟩ | ⟨hq1, hq2⟩ := hq <;> obtain ⟨hr1, hr2⟩ | ⟨hr1, hr2⟩ := hr <;>
  (go_enter Tryd.func10, Tryd.ntmps10
   go_wp2) <;> first | (exfalso; omega) | (go_ret; exact ⟨rfl, rfl⟩)
theorem nameByte_no (c : Int) (w : World) (h : ¬ Pl.nameI c) :
    Calls Tryd.prog 10 #[.int .u8 c] w fun e w' => e = .returned (.bool false) ∧ w' = w := by
  unfold Pl.nameI at h
  have hq : (c == 45) = false := beq_eq_false_iff_ne.2 (by omega)
  have hr : (c == 95) = false := beq_eq_false_iff_ne.2 (by omega)
  go_enter Tryd.func10, Tryd.ntmps10
  go_wp2 <;> first | (exfalso; omega) | (go_ret; exact ⟨rfl, rfl⟩) | (go_ret; refine ⟨?_, rfl⟩; simp; omega)

theorem below_drewN {B : Nat} {a w : World} (h : Below B a w) : ∀ q, Below B a (w.drewN q)
  | 0 => h
  | q + 1 => (below_drewN h q).drew
set_option maxRecDepth 100000 in
theorem sameBytes_any (b o c b2 o2 c2 n : Nat) (p1 p2 : Option Addr) (l : List UInt8) (w : World) (hl : l.length = n) (h1 : n = 0 ∨ p1 = some ⟨b, o, none⟩ ∧ RowAt w b o l) (h2 : n = 0 ∨ p2 = some ⟨b2, o2, none⟩ ∧ RowAt w b2 o2 l) (hn : n ≤ 9223372036854775807) :
    Calls Tryd.prog 8 #[.slice p1 n c, .slice p2 n c2] w fun e w' => e = .returned (.bool true) ∧ Below w.heap.size w w' := by
  subst hl
  rcases Nat.eq_zero_or_pos l.length with h0 | h0
  · rw [h0]
    go_enter Tryd.func8, Tryd.ntmps8
    go_wp2_with fail
    go_loopw [5] (fun iv wr => iv = .int .i64 0 ∧ wr = w) (fun iv _ => (intOf iv).toNat)
    case atStart => exact ⟨rfl, rfl⟩
    case round =>
      obtain ⟨rfl, rfl⟩ := hrel
      go_wp2_with fail
      go_ret
      exact ⟨rfl, Below.refl _ _⟩
  · obtain h | ⟨rfl, r1⟩ := h1
    · omega
    obtain h | ⟨rfl, r2⟩ := h2
    · omega
    go_enter Tryd.func8, Tryd.ntmps8
    go_wp2_with fail
    go_loopw [5] (fun iv wr => ∃ k : Nat, iv = .int .i64 k ∧ k ≤ l.length ∧ Below w.heap.size w wr) (fun iv _ => l.length - (intOf iv).toNat)
    case atStart => exact ⟨0, rfl, by omega, Below.refl _ _⟩
    case round =>
      obtain ⟨k, rfl, hk, hb⟩ := hrel
      by_cases hk2 : k < l.length
      · have c1 := (r1.below hb) k hk2
        have c2' := (r2.below hb) k hk2
        go_wp2_with fail
        go_quiet (fail)
        go_wp2
        go_roundw
        case rel => exact ⟨k + 1, by go_num, by omega, below_drewN hb _⟩
        case measure => simp [intOf]; omega
      · go_wp2_with fail
        go_ret
        exact ⟨rfl, hb⟩

theorem beq_cases (c d : Int) : ((c == d) = true ∧ c = d) ∨ ((c == d) = false ∧ c ≠ d) := by
  by_cases e : c = d
  · exact .inl ⟨beq_iff_eq.2 e, e⟩
  · exact .inr ⟨beq_eq_false_iff_ne.2 e, e⟩
/-- The call answers a bool; 'true' tells p. -/
def Tells (p : Prop) (e : Ending) : Prop := ∃ r, e = .returned (.bool r) ∧ (r = true → p)
theorem jint_of (l : List UInt8) (i : Nat) (hi : i = 0 ∨ i = 1 ∧ 0 < l.length ∧ Pl.B l 0 = 45) (h : (i + 1 = l.length ∧ Pl.B l i = 48) ∨ (i < l.length ∧ 49 ≤ Pl.B l i ∧ Pl.B l i ≤ 57 ∧ ∀ k, i < k → k < l.length → 48 ≤ Pl.B l k ∧ Pl.B l k ≤ 57)) : Pl.jint l := by
  obtain ⟨sg, d, rfl, hs, hl⟩ : ∃ sg d, l = sg ++ d ∧ (sg = [] ∨ sg = [45]) ∧ sg.length = i := by
    rcases hi with rfl | ⟨rfl, h0, h45⟩
    · exact ⟨[], l, rfl, .inl rfl, rfl⟩
    · cases l with
      | nil => simp at h0
      | cons c r =>
        rw [Pl.B_cons] at h45
        have : c = 45 := UInt8.toNat_inj.1 (by show c.toNat = 45; omega)
        subst this
        exact ⟨[45], r, rfl, .inr rfl, rfl⟩
  subst hl
  refine ⟨sg, d, rfl, hs, ?_⟩
  rw [show sg.length = sg.length + 0 from rfl, Pl.B_right] at h
  cases d with
  | nil => simp at h
  | cons c r =>
    rw [Pl.B_cons] at h
    rcases h with ⟨h1, h2⟩ | ⟨_, h1, h2, h3⟩
    · left
      have hr : r = [] := by
        simp at h1
        exact h1
      have : c = 48 := UInt8.toNat_inj.1 (by show c.toNat = 48; omega)
      rw [hr, this]
    · right
      refine ⟨c, r, rfl, by omega, by omega, ?_⟩
      rw [Pl.all_B Pl.dig (fun c => 48 ≤ c ∧ c ≤ 57) Pl.dig_iff]
      intro k hk
      have := h3 (sg.length + (k + 1)) (by omega) (by simp; omega)
      rwa [Pl.B_right, Pl.B_succ] at this

set_option maxRecDepth 100000 in
set_option maxHeartbeats 1000000 in
theorem jsonInt_any (b o c n : Nat) (l : List UInt8) (w : World) (hl : Hid (l.length = n)) (hr : RowAt w b o l) (h0 : 0 < n) (hn : n ≤ 1048576) :
    Calls Tryd.prog 11 #[.slice (some ⟨b, o, none⟩) n c] w fun e w' => Tells (Pl.jint l) e ∧ w' = w := by
  have hrH := hide hr
  have c0 := hr 0 (by rw [hl.out]; exact h0)
  rw [Nat.add_zero] at c0
  clear hr
  have hcut0 := beq_cases (Pl.B l 0) 45
  go_enter Tryd.func11, Tryd.ntmps11
  go_upto_if 14 with fail
  go_cut [3] from 4 to 16 (fun iv w' => ∃ i : Nat, iv = .int .i64 i ∧ w' = w ∧ (i = 0 ∨ i = 1 ∧ Pl.B l 0 = 45))
  case first =>
    rcases hcut0 with ⟨q1, q2⟩ | ⟨q1, q2⟩
    · go_wp2_with fail
      go_meet
      case rel => exact ⟨1, rfl, rfl, .inr ⟨rfl, q2⟩⟩
    · go_wp2_with fail
      go_meet
      case rel => exact ⟨0, rfl, rfl, .inl rfl⟩
  obtain ⟨i, rfl, rfl, hi⟩ := hcut
  clear hcut0 c0
  rcases Nat.lt_or_ge i n with hin | hin
  · have ci := hrH.out i (by rw [hl.out]; exact hin)
    have hB1 := Pl.B_nonneg l i
    have hB2 := Pl.B_le l i
    have hni : ((i : Int) == (n : Int)) = false := beq_eq_false_iff_ne.2 (by omega)
    rcases beq_cases (Pl.B l i) 48 with ⟨q1, q2⟩ | ⟨q1, q2⟩
    · go_wp2_with fail
      go_ret
      refine ⟨⟨_, rfl, fun h => jint_of l i ?_ (.inl ⟨?_, q2⟩)⟩, rfl⟩
      · rw [hl.out]; rcases hi with h | h
        · exact .inl h
        · exact .inr ⟨h.1, h0, h.2⟩
      · rw [hl.out]; have := beq_iff_eq.1 h; omega
    · by_cases hd : 49 ≤ Pl.B l i ∧ Pl.B l i ≤ 57
      · obtain ⟨hd1, hd2⟩ := hd
        go_upto_block 1 with fail
        go_loopw [3] (fun iv wr => ∃ k : Nat, iv = .int .i64 k ∧ i < k ∧ k ≤ n ∧ wr = wc ∧ Hid (∀ j, i < j → j < k → 48 ≤ Pl.B l j ∧ Pl.B l j ≤ 57)) (fun iv _ => n - (intOf iv).toNat)
        case atStart => exact ⟨i + 1, by go_num, by omega, by omega, rfl, hide (fun j h1 h2 => by omega)⟩
        case round =>
          obtain ⟨k, rfl, hk0, hk, rfl, hall⟩ := hrel
          rcases Nat.lt_or_ge k n with hkn | hkn
          · have ck := hrH.out k (by rw [hl.out]; exact hkn)
            by_cases hdk : 48 ≤ Pl.B l k ∧ Pl.B l k ≤ 57
            · obtain ⟨e1, e2⟩ := hdk
              go_wp2_with fail
              go_roundw
              case rel =>
                refine ⟨k + 1, by go_num, by omega, by omega, by simp, hide (fun j h1 h2 => ?_)⟩
                rcases Nat.lt_or_ge j k with h | h
                · exact hall.out j h1 h
                · obtain rfl : j = k := by omega
                  exact ⟨e1, e2⟩
              case measure => simp [intOf]; omega
            · go_wp2_with fail
              all_goals first | (exfalso; omega) | (go_ret; exact ⟨⟨false, rfl, fun h => by cases h⟩, rfl⟩)
          · go_wp2_with fail
            go_ret
            refine ⟨⟨true, rfl, fun _ => jint_of l i ?_ (.inr ⟨by rw [hl.out]; exact hin, hd1, hd2, fun j h1 h2 => hall.out j h1 (by rw [hl.out] at h2; omega)⟩)⟩, rfl⟩
            rw [hl.out]; rcases hi with h | h
            · exact .inl h
            · exact .inr ⟨h.1, h0, h.2⟩
      · go_wp2_with fail
        all_goals first | (exfalso; omega) | (go_ret; exact ⟨⟨false, rfl, fun h => by cases h⟩, rfl⟩)
  · have hni : ((i : Int) == (n : Int)) = true := beq_iff_eq.2 (by omega)
    go_wp2_with fail
    go_ret
    exact ⟨⟨false, rfl, fun h => by cases h⟩, rfl⟩
end Go.Proofs.Qxb6608938aDoor
