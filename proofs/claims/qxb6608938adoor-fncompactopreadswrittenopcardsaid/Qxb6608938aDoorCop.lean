/-
  WALK: datatype.compactOp.
-/
import Derived.Test.Qxb6608938aDoorArg
import Derived.Test.Qxb6608938aDoorValid
import Derived.Lib.SlBytesConst
namespace Go.Proofs.Qxb6608938aDoor
open Go.RowKit Go.PlainAid Go.BigFrame

def nums (l : List UInt8) : List Int := l.map fun c => (c.toNat : Int)
theorem bytes_nums (l : List UInt8) : Lib.bytesOf (nums l) = l := by
  unfold Lib.bytesOf nums
  rw [List.map_map]
  conv => rhs; rw [← List.map_id l]
  refine List.map_congr_left fun c _ => ?_
  simp
theorem nums_len (l : List UInt8) : (nums l).length = l.length := by unfold nums; simp
theorem nums_getD (l : List UInt8) (i : Nat) (h : i < l.length) : (nums l).getD i 0 = Pl.B l i := by
  unfold nums
  rw [Pl.B_get l i h, List.getD_eq_getElem?_getD, List.getElem?_map, List.getElem?_eq_getElem h]; rfl
theorem prefix_call (b o n c b2 : Nat) (l p : List UInt8) (w : World) (v : Bool) (hv : p.isPrefixOf l = v) (hl : l.length = n) (hp : p.length = 7) (hnc : n ≤ c) (h1 : RowAt w b o l) (h2 : RowAt w b2 0 p) :
    Calls Tryd.prog 17 #[.slice (some ⟨b, o, none⟩) n c, .slice (some ⟨b2, 0, none⟩) 7 7] w fun e w' => e = .returned (.bool v) ∧ w' = w := by
  have h := Any.bytes_HasPrefix Tryd.laysnb116 b o n c b2 0 7 7 (nums l) (nums p) w (by rw [nums_len]; exact hl) (by rw [nums_len]; exact hp) hnc (fun i hi => by rw [nums_getD l i (by omega)]; exact h1 i (by omega)) (fun i hi => by rw [nums_getD p i (by omega)]; exact h2 i (by omega))
  rw [bytes_nums, bytes_nums] at h
  refine h.mono ?_
  rintro e w' ⟨rfl, rfl⟩
  refine ⟨?_, rfl⟩
  rw [← hv]; rfl

/-- What compactOp hands back. -/
def CopRes (b o n : Nat) (l : List UInt8) (e : Ending) : Option (Nat × Option Nat) → Prop
  | none => e = .returned (.tuple #[.agg #[.string ⟨#[]⟩, .slice none 0 0], .slice none 0 0, .bool false])
  | some (k, none) => ∃ A cr, e = .returned (.tuple #[.agg #[.string ⟨((l.drop 7).take k).toArray⟩, .slice none 0 0], .slice (some A) (n - (7 + (k + 2))) cr, .bool true]) ∧ (n = 7 + (k + 2) ∨ A = ⟨b, o + (7 + (k + 2)), none⟩)
  | some (k, some j) => ∃ A cr ca, e = .returned (.tuple #[.agg #[.string ⟨((l.drop 7).take k).toArray⟩, .slice (some ⟨b, o + (7 + (k + 8)), none⟩) j ca], .slice (some A) (n - (7 + (k + 8 + (j + 1)))) cr, .bool true]) ∧ (n = 7 + (k + 8 + (j + 1)) ∨ A = ⟨b, o + (7 + (k + 8 + (j + 1))), none⟩)

theorem const_cell (w : World) (C : Array Value) (e : TypeId) (z : Nat × Nat) (i : Nat) : (w.alloc (.cells C e z)).cell? ⟨w.heap.size, i, none⟩ = C[i]? :=
  cell_of_row _ _ i C e z (by show (w.heap.push _)[w.heap.size]? = _; simp)
theorem head_row (w : World) (k : Nat) (z : Nat × Nat) (hk : k = w.heap.size) : RowAt (w.alloc (.cells #[.int .u8 123, .int .u8 34, .int .u8 111, .int .u8 112, .int .u8 34, .int .u8 58, .int .u8 34] 5 z)) k 0 Pl.head := by
  subst hk
  intro i hi
  rw [Nat.zero_add, const_cell]
  match i, hi with
  | 0, _ | 1, _ | 2, _ | 3, _ | 4, _ | 5, _ | 6, _ => rfl
  | n + 7, hi => exact absurd hi (by show ¬ (n + 7 < 7); omega)
theorem karg_row (w : World) (k : Nat) (z : Nat × Nat) (hk : k = w.heap.size) : RowAt (w.alloc (.cells #[.int .u8 44, .int .u8 34, .int .u8 97, .int .u8 114, .int .u8 103, .int .u8 34, .int .u8 58] 5 z)) k 0 Pl.karg := by
  subst hk
  intro i hi
  rw [Nat.zero_add, const_cell]
  match i, hi with
  | 0, _ | 1, _ | 2, _ | 3, _ | 4, _ | 5, _ | 6, _ => rfl
  | n + 7, hi => exact absurd hi (by show ¬ (n + 7 < 7); omega)
theorem const_head (w : World) (k : Nat) (hk : w.heap.size = k) :
    (convert 22 22 (.slice (some ⟨k, 0, none⟩) 7 7)).run Tryd.prog (w.alloc (.cells #[.int .u8 123, .int .u8 34, .int .u8 111, .int .u8 112, .int .u8 34, .int .u8 58, .int .u8 34] 5)) = .ok (.slice (some ⟨k, 0, none⟩) 7 7) (w.alloc (.cells #[.int .u8 123, .int .u8 34, .int .u8 111, .int .u8 112, .int .u8 34, .int .u8 58, .int .u8 34] 5 (7, 8))) := by
  subst hk
  exact Lib.run_convert_bytes_const w 22 5 #[.int .u8 123, .int .u8 34, .int .u8 111, .int .u8 112, .int .u8 34, .int .u8 58, .int .u8 34] 7 7 Tryd.underlying22 Tryd.underlying5
theorem const_karg (w : World) (k : Nat) (hk : w.heap.size = k) :
    (convert 22 22 (.slice (some ⟨k, 0, none⟩) 7 7)).run Tryd.prog (w.alloc (.cells #[.int .u8 44, .int .u8 34, .int .u8 97, .int .u8 114, .int .u8 103, .int .u8 34, .int .u8 58] 5)) = .ok (.slice (some ⟨k, 0, none⟩) 7 7) (w.alloc (.cells #[.int .u8 44, .int .u8 34, .int .u8 97, .int .u8 114, .int .u8 103, .int .u8 34, .int .u8 58] 5 (7, 8))) := by
  subst hk
  exact Lib.run_convert_bytes_const w 22 5 #[.int .u8 44, .int .u8 34, .int .u8 97, .int .u8 114, .int .u8 103, .int .u8 34, .int .u8 58] 7 7 Tryd.underlying22 Tryd.underlying5

theorem add_at (b o j : Nat) : (⟨b, o, none⟩ : Addr).add j = ⟨b, o + j, none⟩ := by unfold Addr.add; split <;> simp_all
theorem conv_row {w : World} {b o c n : Nat} {l : List UInt8} (hl : l.length = n) (hr : RowAt w b o l) : (convert 22 9 (.slice (some ⟨b, o, none⟩) n c)).run Tryd.prog w = .ok (.string ⟨l.toArray⟩) w := by
  subst hl
  refine run_convert_bytes_back w 22 9 5 ⟨b, o, none⟩ c l Tryd.underlying22 Tryd.underlying5 Tryd.underlying9 fun j hj => ?_
  rw [add_at, hr j hj, Pl.B_get l j hj]
theorem run_le (p : UInt8 → Bool) (l : List UInt8) : Pl.run p l ≤ l.length := by
  induction l with
  | nil => exact Nat.le_refl _
  | cons c r ih =>
    rw [Pl.run]
    split
    · simpa using ih
    · omega
theorem strLen_le (l : List UInt8) : Pl.strLen l ≤ l.length := by
  induction l with
  | nil => exact Nat.le_refl _
  | cons c r ih =>
    rw [Pl.strLen]
    split
    · simp
    · split
      · split
        · omega
        · simpa using ih
      · omega
theorem numLen_le (i : Nat) (l : List UInt8) : Pl.numLen i l ≤ l.length := by
  unfold Pl.numLen
  split
  · omega
  · rename_i h
    have hi : i < l.length := by omega
    split
    · omega
    · have := run_le Pl.dig (l.drop i)
      rw [List.length_drop] at this
      omega
theorem argLen_le (l : List UInt8) : Pl.argLen l ≤ l.length := by
  unfold Pl.argLen
  split
  · rename_i h
    have h0 : 0 < l.length := List.length_pos_iff.2 h.1
    have := strLen_le (l.drop 1)
    rw [List.length_drop] at this
    split <;> omega
  · split <;> exact numLen_le _ _
theorem fin_set (W : World) (N : Nat) (v0 v1 x0 x1 : Value) (h0 : W.cell? ⟨N, 0, none⟩ = some v0) (h1 : W.cell? ⟨N, 1, none⟩ = some v1) :
    ((W.setCell ⟨N, 0, none⟩ x0).setCell ⟨N, 1, none⟩ x1).cell? ⟨N, 0, none⟩ = some x0 ∧
    ((W.setCell ⟨N, 0, none⟩ x0).setCell ⟨N, 1, none⟩ x1).cell? ⟨N, 1, none⟩ = some x1 := by
  have e : (⟨N, 0, none⟩ : Addr) ≠ ⟨N, 1, none⟩ := fun h => by injection h with _ h; omega
  constructor
  · rw [World.cell?_setCell_other _ _ _ _ (Ne.symm e)]
    exact World.cell?_setCell_same _ _ _ h0
  · have h2 : (W.setCell ⟨N, 0, none⟩ x0).cell? ⟨N, 1, none⟩ = some v1 := by rw [World.cell?_setCell_other _ _ _ _ e]; exact h1
    exact World.cell?_setCell_same _ _ _ h2
theorem fin_none (W : World) (N : Nat) (v0 v1 : Value) (h0 : W.cell? ⟨N, 0, none⟩ = some v0) (h1 : W.cell? ⟨N, 1, none⟩ = some v1) :
    ((W.setCell ⟨N, 0, none⟩ (.string ⟨#[]⟩)).setCell ⟨N, 1, none⟩ (.slice none 0 0)).cell? ⟨N, 0, none⟩ = some (.string ⟨#[]⟩) ∧
    ((W.setCell ⟨N, 0, none⟩ (.string ⟨#[]⟩)).setCell ⟨N, 1, none⟩ (.slice none 0 0)).cell? ⟨N, 1, none⟩ = some (.slice none 0 0) := by
  have e : (⟨N, 0, none⟩ : Addr) ≠ ⟨N, 1, none⟩ := fun h => by injection h with _ h; omega
  constructor
  · rw [World.cell?_setCell_other _ _ _ _ (Ne.symm e)]
    exact World.cell?_setCell_same _ _ _ h0
  · have h2 : (W.setCell ⟨N, 0, none⟩ (.string ⟨#[]⟩)).cell? ⟨N, 1, none⟩ = some v1 := by rw [World.cell?_setCell_other _ _ _ _ e]; exact h1
    exact World.cell?_setCell_same _ _ _ h2

theorem karg_parts (W : World) (b o' ms c2 k : Nat) (s : List UInt8) (R : Option (Nat × Option Nat)) (hkp : Pl.karg.isPrefixOf s = true) (hsl : s.length = ms) (hr : RowAt W b o' s) (hR : (if Pl.karg.isPrefixOf s then Pl.copT (s.drop 7) k else none) = R) (hc : 8 ≤ c2) :
    ∃ t mt c3 j, ms = mt + 7 ∧ c2 = c3 + 7 ∧ 1 ≤ c3 ∧ Hid (t.length = mt) ∧ Hid (RowAt W b (o' + 7) t) ∧ Hid (Pl.argLen t = j) ∧ j ≤ mt ∧ Hid ((if j = 0 ∨ j = mt ∨ Pl.B t j ≠ 125 then none else some (k, some j)) = R) ∧ Hid (s.drop 7 = t) := by
  have h7 : 7 ≤ ms := by
    rw [← hsl]; exact (List.isPrefixOf_iff_prefix.1 hkp).length_le
  have hl : (s.drop 7).length = ms - 7 := by rw [List.length_drop, hsl]
  have hle : Pl.argLen (s.drop 7) ≤ ms - 7 := by rw [← hl]; exact argLen_le _
  refine ⟨s.drop 7, ms - 7, c2 - 7, Pl.argLen (s.drop 7), by omega, by omega, by omega, hide hl, hide (hr.drop 7), hide rfl, hle, hide ?_, hide rfl⟩
  rw [← hR, hkp, if_pos rfl]
  unfold Pl.copT
  rw [hl]
  have e := toNat_B (s.drop 7) (Pl.argLen (s.drop 7))
  by_cases h : Pl.argLen (s.drop 7) = 0 ∨ Pl.argLen (s.drop 7) = ms - 7 ∨ Pl.B (s.drop 7) (Pl.argLen (s.drop 7)) ≠ 125
  · rw [if_pos h, if_pos (by omega)]
  · rw [if_neg h, if_neg (by omega)]

set_option maxHeartbeats 16000000 in
set_option maxRecDepth 1000000 in
theorem cop_any (b o n c : Nat) (l : List UInt8) (w : World) (R : Option (Nat × Option Nat)) (hl : Hid (l.length = n)) (hr : RowAt w b o l) (hT : Lib.Utf8Tabs 0 1 w) (hn : n ≤ 1048576) (hcap : n ≤ c) (hc : c ≤ 9223372036854775807) (hcn : Pl.run Pl.nameByte (l.drop 7) + 16 ≤ c) (hbk : b < w.heap.size)
    (hR : Hid (Pl.cop l = R)) (hval : ∀ k j, R = some (k, some j) → Lib.validD ((l.drop (7 + (k + 8))).take j) = true) :
    Calls Tryd.prog 13 #[.slice (some ⟨b, o, none⟩) n c] w fun e w' => CopRes b o n l e R ∧ Below w.heap.size w w' := by
  have hrH := hide hr
  have hTH := hide hT
  have hvalH := hide hval
  clear hr hT hval
  have hcv := const_head (w.alloc (.cells #[.string ⟨#[]⟩, .slice none 0 0] 31)) (w.heap.size + 1) (by simp)
  obtain ⟨wA, hwA⟩ : ∃ wA, (w.alloc (.cells #[.string ⟨#[]⟩, .slice none 0 0] 31)).alloc (.cells #[.int .u8 123, .int .u8 34, .int .u8 111, .int .u8 112, .int .u8 34, .int .u8 58, .int .u8 34] 5 (7, 8)) = wA := ⟨_, rfl⟩
  have hbA : Below w.heap.size w wA := by rw [← hwA]; exact ((Below.refl _ _).alloc (Nat.le_refl _) _).alloc (by simp) _
  have hrA := hide (hrH.out.below hbA)
  have hhA : Hid (RowAt wA (w.heap.size + 1) 0 Pl.head) := hide (by rw [← hwA]; exact head_row _ _ _ (by simp))
  have hA0 : wA.cell? ⟨w.heap.size, 0, none⟩ = some (.string ⟨#[]⟩) := by rw [← hwA, World.cell?_alloc_lt _ _ _ (by simp), World.cell?_alloc_new]; rfl
  have hA1 : wA.cell? ⟨w.heap.size, 1, none⟩ = some (.slice none 0 0) := by rw [← hwA, World.cell?_alloc_lt _ _ _ (by simp), World.cell?_alloc_new]; rfl
  have hF0 : wA.frozen? ⟨w.heap.size, 0, none⟩ = false := by rw [← hwA, World.frozen?_alloc_old _ _ _ (by simp), World.frozen?_alloc_new]
  have hF1 : wA.frozen? ⟨w.heap.size, 1, none⟩ = false := by rw [← hwA, World.frozen?_alloc_old _ _ _ (by simp), World.frozen?_alloc_new]
  rw [hwA] at hcv
  cases hp : Pl.head.isPrefixOf l with
  | false =>
    have hRn : R = none := by rw [← hR.out]; unfold Pl.cop; rw [hp]; rfl
    subst hRn
    go_enter Tryd.func13, Tryd.ntmps13
    go_wp2_with (go_at_call 17; go_must (refine (prefix_call b o n c _ l Pl.head _ false hp hl.out rfl hcap hrA.out hhA.out).mono ?_; rintro e w' ⟨rfl, rfl⟩))
    have hW := fin_none w' w.heap.size _ _ hA0 hA1
    exact bodyPost_ret (v := .tuple #[.agg #[.string ⟨#[]⟩, .slice none 0 0], .slice none 0 0, .bool false]) (by simp [results, Tryd.results13, go_sem, hW.1, hW.2]) rfl ⟨rfl, (hbA.setCell (Nat.le_refl _) _).setCell (Nat.le_refl _) _⟩
  | true =>
    obtain ⟨r, rfl⟩ : ∃ r, l = Pl.head ++ r := by
      obtain ⟨r, hr⟩ := List.isPrefixOf_iff_prefix.1 hp
      exact ⟨r, hr.symm⟩
    obtain ⟨m, rfl⟩ : ∃ m, n = m + 7 := ⟨n - 7, by have := hl.out; rw [List.length_append] at this; have h7 : Pl.head.length = 7 := rfl; omega⟩
    have hm : r.length = m := by have := hl.out; rw [List.length_append] at this; have h7 : Pl.head.length = 7 := rfl; omega
    have hd7 : (Pl.head ++ r).drop 7 = r := List.drop_left' rfl
    rw [hd7] at hcn
    have hrr : Hid (RowAt wA b (o + 7) r) := hide (by have := hrA.out.drop 7; rwa [hd7] at this)
    have hRr : Hid (Pl.copR r = R) := hide (by rw [← hR.out]; unfold Pl.cop; rw [hp, if_pos rfl, hd7])
    obtain ⟨c1, rfl⟩ : ∃ c1, c = c1 + 7 := ⟨c - 7, by omega⟩
    have hcne : (c1 + 7 : Nat) ≠ 7 := by omega
    have hmH := hide hm
    clear hm hrH hR hwA
    go_enter Tryd.func13, Tryd.ntmps13
    go_wp2_with (go_at_call 17; go_must (refine (prefix_call b o (m + 7) (c1 + 7) _ (Pl.head ++ r) Pl.head _ true hp hl.out rfl hcap hrA.out hhA.out).mono ?_; rintro e w' ⟨rfl, rfl⟩))
    go_loopg [5] (m + 1) (fun gk iv wx => ∃ k : Nat, iv = .int .i64 k ∧ k ≤ m ∧ wx = w' ∧ m - k < gk ∧ Hid (∀ j, j < k → Pl.nameByte (r.getD j 0) = true))
    case atStart => exact ⟨0, rfl, by omega, rfl, by omega, hide (fun j hj => by omega)⟩
    case round =>
      obtain ⟨k, rfl, hk, rfl, hgk, hall⟩ := hrel
      obtain ⟨g', rfl⟩ : ∃ g', gk = g' + 1 := ⟨gk - 1, by omega⟩
      rcases Nat.lt_or_ge k m with hkm | hkm
      · have ck := hrr.out k (by rw [hmH.out]; exact hkm)
        obtain ⟨nb, hnb⟩ : ∃ nb, Pl.nameByte (r.getD k 0) = nb := ⟨_, rfl⟩
        have hnb2 := Pl.name_iff (r.getD k 0)
        rw [hnb, toNat_B] at hnb2
        obtain ⟨x, hx⟩ : ∃ x, Pl.B r k = x := ⟨_, rfl⟩
        rw [hx] at ck hnb2
        go_upto_region 5 with fail
        go_cut [74] (fun v wx => v = .bool nb ∧ wx = wr)
        case first =>
          as_aux_lemma =>
            clear hall hRr hrr hmH hrA hhA hvalH hTH hl
            unfold Pl.nameI at hnb2
            have hq := beq_cases x 45
            have hr' := beq_cases x 95
            cases nb with
            | true =>
              have h := hnb2.1 rfl
              clear hnb2 hnb
              obtain ⟨q1, q2⟩ | ⟨q1, q2⟩ := hq <;> obtain ⟨s1, s2⟩ | ⟨s1, s2⟩ := hr' <;> go_wp2_with fail
              all_goals first | (exfalso; omega) | (go_meet; case rel => exact ⟨rfl, rfl⟩) | (go_meet; case rel => exact ⟨by simp; omega, rfl⟩)
            | false =>
              have h : ¬ (97 ≤ x ∧ x ≤ 122 ∨ 65 ≤ x ∧ x ≤ 90 ∨ 48 ≤ x ∧ x ≤ 57 ∨ x = 45 ∨ x = 95) := fun h => by have := hnb2.2 h; cases this
              clear hnb2 hnb hq hr'
              have q1 : (x == 45) = false := beq_eq_false_iff_ne.2 (by omega)
              have s1 : (x == 95) = false := beq_eq_false_iff_ne.2 (by omega)
              go_wp2_with fail
              all_goals first | (exfalso; omega) | (go_meet; case rel => exact ⟨rfl, rfl⟩) | (go_meet; case rel => exact ⟨by simp; omega, rfl⟩)
        obtain ⟨rfl, rfl⟩ := hcut
        cases nb with
        | true =>
          go_wp2_with fail
          go_roundg g'
          case measure => omega
          case rel =>
            refine ⟨k + 1, by go_num, by omega, by simp, by omega, hide (fun j hj => ?_)⟩
            rcases Nat.lt_or_ge j k with h | h
            · exact hall.out j h
            · obtain rfl : j = k := by omega
              exact hnb
        | false =>
          have hrun := Pl.run_at Pl.nameByte r k (by rw [hmH.out]; exact hk) hall.out (.inr hnb)
          have hW := fin_none wc w.heap.size _ _ hA0 hA1
          have hkm' : ((k : Int) == (m : Int)) = false := beq_eq_false_iff_ne.2 (by omega)
          rw [hrun] at hcn
          have hcopR : Hid ((if k = 0 ∨ k = m ∨ x ≠ 34 then none else Pl.copS (r.drop (k + 1)) k) = R) := hide (by
            rw [← hRr.out]; unfold Pl.copR; rw [hrun, hmH.out]
            have e := toNat_B r k
            rw [hx] at e
            by_cases h : k = 0 ∨ k = m ∨ x ≠ 34
            · rw [if_pos h, if_pos (by omega)]
            · rw [if_neg h, if_neg (by omega)])
          clear hall hnb hnb2 hRr hrun
          obtain ⟨q1, q2⟩ | ⟨q1, q2⟩ := beq_cases (k : Int) 0
          · as_aux_lemma =>
              have hRn : R = none := by rw [← hcopR.out, if_pos (by omega)]
              subst hRn
              go_wp2_with fail
              exact bodyPost_ret (v := .tuple #[.agg #[.string ⟨#[]⟩, .slice none 0 0], .slice none 0 0, .bool false]) (by simp [results, Tryd.results13, go_sem, hW.1, hW.2]) rfl ⟨rfl, (hbA.setCell (Nat.le_refl _) _).setCell (Nat.le_refl _) _⟩
          obtain ⟨p1, p2, p3⟩ | ⟨p1, p2, p3⟩ := bne_cases x 34
          rotate_left
          · as_aux_lemma =>
              have hRn : R = none := by rw [← hcopR.out, if_pos (by omega)]
              subst hRn
              go_wp2_with fail
              exact bodyPost_ret (v := .tuple #[.agg #[.string ⟨#[]⟩, .slice none 0 0], .slice none 0 0, .bool false]) (by simp [results, Tryd.results13, go_sem, hW.1, hW.2]) rfl ⟨rfl, (hbA.setCell (Nat.le_refl _) _).setCell (Nat.le_refl _) _⟩
          · have hRs : Hid (Pl.copS (r.drop (k + 1)) k = R) := hide (by rw [← hcopR.out, if_neg (by omega)])
            clear hcopR hW
            obtain ⟨ms, rfl⟩ : ∃ ms, m = ms + (k + 1) := ⟨m - (k + 1), by omega⟩
            obtain ⟨c2, rfl⟩ : ∃ c2, c1 = c2 + (k + 1) := ⟨c1 - (k + 1), by omega⟩
            obtain ⟨s, hs⟩ : ∃ s, r.drop (k + 1) = s := ⟨_, rfl⟩
            have hrs : Hid (RowAt wc b (o + 7 + (k + 1)) s) := hide (by rw [← hs]; exact hrr.out.drop (k + 1))
            have hsl : s.length = ms := by rw [← hs, List.length_drop, hmH.out]; omega
            rw [hs] at hRs
            have hcvn : (convert 22 9 (.slice (some ⟨b, o + 7, none⟩) k (c2 + (k + 1)))).run Tryd.prog wc = .ok (.string ⟨(r.take k).toArray⟩) wc := by
              exact conv_row (by rw [List.length_take, hmH.out]; omega) (hrr.out.take k)
            generalize hNM : (⟨(r.take k).toArray⟩ : ByteArray) = NM at hcvn
            have hc2ne : (c2 + (k + 1) : Nat) ≠ k + 1 := by omega
            have hle1 : (k : Int) ≤ (ms : Int) + (k + 1) := by omega
            have hle2 : (k : Int) + 1 ≤ (ms : Int) + (k + 1) := by omega
            have hMN : w.heap.size < wc.heap.size := by have := cell_lt hA0; exact this
            have hbkc : b < wc.heap.size := by omega
            obtain ⟨wB, hwB⟩ : ∃ wB, wc.alloc (.cells #[.string NM, .slice none 0 0] 31) = wB := ⟨_, rfl⟩
            have hbB : Below w.heap.size w wB := by rw [← hwB]; exact hbA.alloc hbA.size _
            have hB0 : wB.cell? ⟨w.heap.size, 0, none⟩ = some (.string ⟨#[]⟩) := by rw [← hwB, World.cell?_alloc_lt _ _ _ hMN]; exact hA0
            have hB1 : wB.cell? ⟨w.heap.size, 1, none⟩ = some (.slice none 0 0) := by rw [← hwB, World.cell?_alloc_lt _ _ _ hMN]; exact hA1
            have hG0 : wB.frozen? ⟨w.heap.size, 0, none⟩ = false := by rw [← hwB, World.frozen?_alloc_old _ _ _ (Nat.ne_of_lt hMN)]; exact hF0
            have hG1 : wB.frozen? ⟨w.heap.size, 1, none⟩ = false := by rw [← hwB, World.frozen?_alloc_old _ _ _ (Nat.ne_of_lt hMN)]; exact hF1
            have hM0 : wB.cell? ⟨wc.heap.size, 0, none⟩ = some (.string NM) := by rw [← hwB, World.cell?_alloc_new]; rfl
            have hM1 : wB.cell? ⟨wc.heap.size, 1, none⟩ = some (.slice none 0 0) := by rw [← hwB, World.cell?_alloc_new]; rfl
            have hMf : wB.frozen? ⟨wc.heap.size, 1, none⟩ = false := by rw [← hwB, World.frozen?_alloc_new]
            have hrB : Hid (RowAt wB b (o + 7 + (k + 1)) s) := hide (by rw [← hwB]; exact hrs.out.below_le ((Below.refl wc.heap.size wc).alloc (Nat.le_refl _) _) hbkc)
            have hTB : Hid (Lib.Utf8Tabs 0 1 wB) := hide (Utf8Tabs_below hTH.out hbB)
            have hszB : wB.heap.size = wc.heap.size + 1 := by rw [← hwB]; simp
            have hbkB : b < wB.heap.size := by omega
            have hNB : w.heap.size < wB.heap.size := by omega
            have hMB : wc.heap.size < wB.heap.size := by omega
            clear hszB
            have hwBH := hide hwB
            clear hwB
            go_upto_region 11 with fail
            rw [hwBH.out]
            clear hwBH hA0 hA1 hF0 hF1 hrs hrr hrA hhA hcv hl hmH hbA hTH ck hcvn
            obtain ⟨dd, hdd⟩ : ∃ dd, decide (0 < ms ∧ Pl.B s 0 = 125) = dd := ⟨_, rfl⟩
            go_cut [110] (fun v wx => v = .bool dd ∧ wx = wB)
            case first =>
              as_aux_lemma =>
                rcases Nat.eq_zero_or_pos ms with h0 | h0
                · subst h0
                  have : dd = false := by rw [← hdd]; simp
                  subst this
                  go_wp2_with fail
                  go_meet
                  case rel => exact ⟨rfl, rfl⟩
                · have c0 := hrB.out 0 (by omega)
                  rw [Nat.add_zero] at c0
                  rcases beq_cases (Pl.B s 0) 125 with ⟨q1, q2⟩ | ⟨q1, q2⟩
                  · have : dd = true := by rw [← hdd]; simp [q2, h0]
                    subst this
                    go_wp2_with fail
                    go_meet
                    case rel => exact ⟨rfl, rfl⟩
                  · have : dd = false := by rw [← hdd]; simp [q2]
                    subst this
                    go_wp2_with fail
                    go_meet
                    case rel => exact ⟨rfl, rfl⟩
            obtain ⟨rfl, hwx⟩ := hcut
            rw [hwx]
            clear hwx wc
            cases dd with
            | true =>
              as_aux_lemma =>
                have hd := of_decide_eq_true hdd
                have hR1 : R = some (k, none) := by
                  have e := toNat_B s 0
                  rw [← hRs.out]; unfold Pl.copS
                  rw [if_pos ⟨fun h => by rw [h] at hsl; simp at hsl; omega, by omega⟩]
                subst hR1
                have hc2a : c2 ≠ 1 := by omega
                have hms1 : (1 : Int) ≤ (ms : Int) := by omega
                have hWf := fin_set wB w.heap.size _ _ (.string NM) (.slice none 0 0) hB0 hB1
                go_upto_region 12 with fail
                go_region
                go_wp2
                refine bodyPost_ret (v := .tuple #[.agg #[.string NM, .slice none 0 0], .slice (some ⟨b, o + 7 + (k + 1) + 1, none⟩) (ms - 1) (c2 - 1), .bool true]) (by simp [results, Tryd.results13, go_sem, hWf.1, hWf.2]) rfl ⟨⟨⟨b, o + 7 + (k + 1) + 1, none⟩, c2 - 1, ?_, .inr ?_⟩, ?_⟩
                · rw [hd7, hNM, show ms + (k + 1) + 7 - (7 + (k + 2)) = ms - 1 by omega]
                · rw [show o + 7 + (k + 1) + 1 = o + (7 + (k + 2)) by omega]
                · exact ((hbB.setCell (Nat.le_refl _) _).setCell (Nat.le_refl _) _).drew
            | false =>
              have hRk : Hid ((if Pl.karg.isPrefixOf s then Pl.copT (s.drop 7) k else none) = R) := hide (by
                rw [← hRs.out]; unfold Pl.copS
                have e := toNat_B s 0
                have hd := of_decide_eq_false hdd
                have hcond : ¬ (s ≠ [] ∧ (s.getD 0 0).toNat = 125) := fun h => hd ⟨by rw [← hsl]; exact List.length_pos_iff.2 h.1, by have := h.2; omega⟩
                rw [if_neg hcond])
              have hcvK := const_karg wB wB.heap.size rfl
              obtain ⟨wC, hwC⟩ : ∃ wC, wB.alloc (.cells #[.int .u8 44, .int .u8 34, .int .u8 97, .int .u8 114, .int .u8 103, .int .u8 34, .int .u8 58] 5 (7, 8)) = wC := ⟨_, rfl⟩
              rw [hwC] at hcvK
              have hbC1 : Below wB.heap.size wB wC := by rw [← hwC]; exact (Below.refl _ _).alloc (Nat.le_refl _) _
              have hbC : Below w.heap.size w wC := hbB.trans (hbC1.mono hbB.size)
              have hC0 : wC.cell? ⟨w.heap.size, 0, none⟩ = some (.string ⟨#[]⟩) := (hbC1.cell (p := ⟨w.heap.size, 0, none⟩) hNB).trans hB0
              have hC1 : wC.cell? ⟨w.heap.size, 1, none⟩ = some (.slice none 0 0) := (hbC1.cell (p := ⟨w.heap.size, 1, none⟩) hNB).trans hB1
              have hCf0 : wC.frozen? ⟨w.heap.size, 0, none⟩ = false := (hbC1.frozen (p := ⟨w.heap.size, 0, none⟩) hNB).trans hG0
              have hCf1 : wC.frozen? ⟨w.heap.size, 1, none⟩ = false := (hbC1.frozen (p := ⟨w.heap.size, 1, none⟩) hNB).trans hG1
              have hrC : Hid (RowAt wC b (o + 7 + (k + 1)) s) := hide (hrB.out.below hbC1)
              have hkC : Hid (RowAt wC wB.heap.size 0 Pl.karg) := hide (by rw [← hwC]; exact karg_row _ _ _ rfl)
              cases hkp : Pl.karg.isPrefixOf s with
              | false =>
                have hRn : R = none := by rw [← hRk.out, hkp]; rfl
                subst hRn
                have hWf := fin_none wC w.heap.size _ _ hC0 hC1
                go_wp2_with (go_at_call 17; go_must (refine (prefix_call b (o + 7 + (k + 1)) ms c2 _ s Pl.karg _ false hkp hsl rfl (by omega) hrC.out hkC.out).mono ?_; rintro e w' ⟨rfl, rfl⟩))
                exact bodyPost_ret (v := .tuple #[.agg #[.string ⟨#[]⟩, .slice none 0 0], .slice none 0 0, .bool false]) (by simp [results, Tryd.results13, go_sem, hWf.1, hWf.2]) rfl ⟨rfl, (hbC.setCell (Nat.le_refl _) _).setCell (Nat.le_refl _) _⟩
              | true =>
                have hc8 : 8 ≤ c2 := by clear hRk hkC hrC hcvK; omega
                have hK := hide (karg_parts wC b (o + 7 + (k + 1)) ms c2 k s R hkp hsl hrC.out hRk.out hc8)
                clear hRk hRs hwC
                obtain ⟨t, mt, c3, j, rfl, rfl, hc3, htl, hrt, hjH, hjle, hRt, hst⟩ := hK.out
                have hpc := hide (prefix_call b (o + 7 + (k + 1)) (mt + 7) (c3 + 7) wB.heap.size s Pl.karg wC true hkp hsl rfl (by omega) hrC.out hkC.out)
                have hal := hide (argLen_any b (o + 7 + (k + 1) + 7) c3 mt t wC htl hrt.out (by omega) j hjH)
                have hCM0 : wC.cell? ⟨wc.heap.size, 0, none⟩ = some (.string NM) := (hbC1.cell (p := ⟨wc.heap.size, 0, none⟩) hMB).trans hM0
                have hCM1 : wC.cell? ⟨wc.heap.size, 1, none⟩ = some (.slice none 0 0) := (hbC1.cell (p := ⟨wc.heap.size, 1, none⟩) hMB).trans hM1
                have hCMf : wC.frozen? ⟨wc.heap.size, 1, none⟩ = false := (hbC1.frozen (p := ⟨wc.heap.size, 1, none⟩) hMB).trans hMf
                have hc3ne : (c3 + 7 : Nat) ≠ 7 := by omega
                clear hK
                go_upto_region 17 with (first
                  | (go_at_call 17; with_reducible refine (hpc.out).mono ?_; rintro e w' ⟨rfl, hw'⟩; rw [hw']; clear hw' w')
                  | (go_at_call 18; with_reducible refine (hal.out).mono ?_; rintro e w' ⟨rfl, hw'⟩; rw [hw']; clear hw' w'))
                have hWn := fin_none wC w.heap.size _ _ hC0 hC1
                obtain ⟨q1, q2⟩ | ⟨q1, q2⟩ := beq_cases (j : Int) 0
                · have hRn : R = none := by rw [← hRt.out, if_pos (by omega)]
                  subst hRn
                  go_wp2_with fail
                  exact bodyPost_ret (v := .tuple #[.agg #[.string ⟨#[]⟩, .slice none 0 0], .slice none 0 0, .bool false]) (by simp [results, Tryd.results13, go_sem, hWn.1, hWn.2]) rfl ⟨rfl, (hbC.setCell (Nat.le_refl _) _).setCell (Nat.le_refl _) _⟩
                obtain ⟨p1, p2⟩ | ⟨p1, p2⟩ := beq_cases (j : Int) (mt : Int)
                · have hRn : R = none := by rw [← hRt.out, if_pos (by omega)]
                  subst hRn
                  go_wp2_with fail
                  exact bodyPost_ret (v := .tuple #[.agg #[.string ⟨#[]⟩, .slice none 0 0], .slice none 0 0, .bool false]) (by simp [results, Tryd.results13, go_sem, hWn.1, hWn.2]) rfl ⟨rfl, (hbC.setCell (Nat.le_refl _) _).setCell (Nat.le_refl _) _⟩
                have hjlt : j < mt := by omega
                have cj := hrt.out j (by rw [htl.out]; exact hjlt)
                obtain ⟨y, hy⟩ : ∃ y, Pl.B t j = y := ⟨_, rfl⟩
                rw [hy] at cj
                have hRt2 : Hid ((if j = 0 ∨ j = mt ∨ y ≠ 125 then none else some (k, some j)) = R) := hide (by rw [← hy]; exact hRt.out)
                clear hRt
                obtain ⟨s1, s2, s3⟩ | ⟨s1, s2, s3⟩ := bne_cases y 125
                rotate_left
                · have hRn : R = none := by rw [← hRt2.out, if_pos (by omega)]
                  subst hRn
                  go_wp2_with fail
                  exact bodyPost_ret (v := .tuple #[.agg #[.string ⟨#[]⟩, .slice none 0 0], .slice none 0 0, .bool false]) (by simp [results, Tryd.results13, go_sem, hWn.1, hWn.2]) rfl ⟨rfl, (hbC.setCell (Nat.le_refl _) _).setCell (Nat.le_refl _) _⟩
                · have hR1 : R = some (k, some j) := by rw [← hRt2.out, if_neg (by omega)]
                  subst hR1
                  have hvt : Lib.validD (t.take j) = true := by
                    have h := hvalH.out k j rfl
                    have e : (Pl.head ++ r).drop (7 + (k + 8)) = t := by
                      rw [← hst.out, ← hs, List.drop_drop, show 7 + (k + 8) = 7 + (k + 1 + 7) by omega, ← List.drop_drop, hd7]
                    rwa [e] at h
                  have hva := hide (valid_any b (o + 7 + (k + 1) + 7) j c3 (t.take j) wC (hide (by rw [List.length_take, htl.out]; omega)) (hrt.out.take j) (Utf8Tabs_below hTB.out hbC1) (by omega) (by omega) hvt)
                  have hjc : (j : Int) ≤ (c3 : Int) := by omega
                  have hNC : w.heap.size < wC.heap.size := Nat.lt_of_lt_of_le hNB hbC1.size
                  have hMC : wc.heap.size < wC.heap.size := Nat.lt_of_lt_of_le hMB hbC1.size
                  clear hB0 hB1 hG0 hG1 hM0 hM1 hMf hrB hTB hrC hkC hpc hal hcvK hWn hRt2
                  go_upto_region 19 with (go_at_call 19; with_reducible refine (hva.out).mono ?_; rintro e wV ⟨rfl, hbV⟩)
                  have hV0 : wV.cell? ⟨w.heap.size, 0, none⟩ = some (.string ⟨#[]⟩) := (hbV.cell (p := ⟨w.heap.size, 0, none⟩) hNC).trans hC0
                  have hV1 : wV.cell? ⟨w.heap.size, 1, none⟩ = some (.slice none 0 0) := (hbV.cell (p := ⟨w.heap.size, 1, none⟩) hNC).trans hC1
                  have hVf0 : wV.frozen? ⟨w.heap.size, 0, none⟩ = false := (hbV.frozen (p := ⟨w.heap.size, 0, none⟩) hNC).trans hCf0
                  have hVf1 : wV.frozen? ⟨w.heap.size, 1, none⟩ = false := (hbV.frozen (p := ⟨w.heap.size, 1, none⟩) hNC).trans hCf1
                  have hVM0 : wV.cell? ⟨wc.heap.size, 0, none⟩ = some (.string NM) := (hbV.cell (p := ⟨wc.heap.size, 0, none⟩) hMC).trans hCM0
                  have hVM1 : wV.cell? ⟨wc.heap.size, 1, none⟩ = some (.slice none 0 0) := (hbV.cell (p := ⟨wc.heap.size, 1, none⟩) hMC).trans hCM1
                  have hVMf : wV.frozen? ⟨wc.heap.size, 1, none⟩ = false := (hbV.frozen (p := ⟨wc.heap.size, 1, none⟩) hMC).trans hCMf
                  have hbWV : Below w.heap.size w wV := hbC.trans (hbV.mono hbC.size)
                  obtain ⟨wD, hwD⟩ : ∃ wD, wV.setCell ⟨wc.heap.size, 1, none⟩ (.slice (some ⟨b, o + 7 + (k + 1) + 7, none⟩) j c3) = wD := ⟨_, rfl⟩
                  have hneNM : ∀ i, (⟨wc.heap.size, 1, none⟩ : Addr) ≠ ⟨w.heap.size, i, none⟩ := fun i h => by injection h with h _; omega
                  have hneM : (⟨wc.heap.size, 1, none⟩ : Addr) ≠ ⟨wc.heap.size, 0, none⟩ := fun h => by injection h with _ h; omega
                  have hD0 : wD.cell? ⟨w.heap.size, 0, none⟩ = some (.string ⟨#[]⟩) := by rw [← hwD, World.cell?_setCell_other _ _ _ _ (hneNM 0)]; exact hV0
                  have hD1 : wD.cell? ⟨w.heap.size, 1, none⟩ = some (.slice none 0 0) := by rw [← hwD, World.cell?_setCell_other _ _ _ _ (hneNM 1)]; exact hV1
                  have hDf0 : wD.frozen? ⟨w.heap.size, 0, none⟩ = false := by rw [← hwD, World.frozen?_setCell]; exact hVf0
                  have hDf1 : wD.frozen? ⟨w.heap.size, 1, none⟩ = false := by rw [← hwD, World.frozen?_setCell]; exact hVf1
                  have hDM0 : wD.cell? ⟨wc.heap.size, 0, none⟩ = some (.string NM) := by rw [← hwD, World.cell?_setCell_other _ _ _ _ hneM]; exact hVM0
                  have hDM1 : wD.cell? ⟨wc.heap.size, 1, none⟩ = some (.slice (some ⟨b, o + 7 + (k + 1) + 7, none⟩) j c3) := by rw [← hwD]; exact World.cell?_setCell_same _ _ _ hVM1
                  have hbD : Below w.heap.size w wD := by rw [← hwD]; exact hbWV.setCell (p := ⟨wc.heap.size, 1, none⟩) (Nat.le_of_lt hMN) _
                  have hwDH := hide hwD
                  clear hwD hva hV0 hV1 hVf0 hVf1 hVM0 hC0 hC1 hCf0 hCf1 hCM0 hCM1 hCMf hneNM hneM
                  go_upto_region 20 with fail
                  rw [hwDH.out]
                  clear hwDH hVM1 hVMf
                  have hWf := fin_set wD w.heap.size _ _ (.string NM) (.slice (some ⟨b, o + 7 + (k + 1) + 7, none⟩) j c3) hD0 hD1
                  have hj1 : (j : Int) + 1 ≤ (mt : Int) := by omega
                  rcases Nat.decEq c3 (j + 1) with hcj | hcj
                  · go_region
                    go_wp2
                    refine bodyPost_ret (v := .tuple #[.agg #[.string NM, .slice (some ⟨b, o + 7 + (k + 1) + 7, none⟩) j c3], .slice (some ⟨b, o + 7 + (k + 1) + 7 + (j + 1), none⟩) (mt - (j + 1)) (c3 - (j + 1)), .bool true]) (by simp [results, Tryd.results13, go_sem, hWf.1, hWf.2]) rfl ⟨⟨⟨b, o + 7 + (k + 1) + 7 + (j + 1), none⟩, c3 - (j + 1), c3, ?_, .inr ?_⟩, ?_⟩
                    · rw [hd7, hNM, show mt + 7 + (k + 1) + 7 - (7 + (k + 8 + (j + 1))) = mt - (j + 1) by omega, show o + 7 + (k + 1) + 7 = o + (7 + (k + 8)) by omega]
                    · rw [show o + 7 + (k + 1) + 7 + (j + 1) = o + (7 + (k + 8 + (j + 1))) by omega]
                    · exact ((hbD.setCell (Nat.le_refl _) _).setCell (Nat.le_refl _) _).drew
                  · subst hcj
                    obtain rfl : mt = j + 1 := by omega
                    go_region
                    go_wp2
                    refine bodyPost_ret (v := .tuple #[.agg #[.string NM, .slice (some ⟨b, o + 7 + (k + 1) + 7, none⟩) j (j + 1)], .slice (some ⟨b, o + 7 + (k + 1) + 7, none⟩) 0 0, .bool true]) (by simp [results, Tryd.results13, go_sem, hWf.1, hWf.2]) rfl ⟨⟨⟨b, o + 7 + (k + 1) + 7, none⟩, 0, j + 1, ?_, .inl (by omega)⟩, ?_⟩
                    · rw [hd7, hNM, show j + 1 + 7 + (k + 1) + 7 - (7 + (k + 8 + (j + 1))) = 0 by omega, show o + 7 + (k + 1) + 7 = o + (7 + (k + 8)) by omega]
                    · exact ((hbD.setCell (Nat.le_refl _) _).setCell (Nat.le_refl _) _).drew
      · have hrun := Pl.run_at Pl.nameByte r k (by rw [hmH.out]; exact hk) hall.out (.inl (by rw [hmH.out]; omega))
        have hRn : R = none := by rw [← hRr.out]; unfold Pl.copR; rw [hrun, if_pos (.inr (.inl (by rw [hmH.out]; omega)))]
        subst hRn
        have hW := fin_none wr w.heap.size _ _ hA0 hA1
        obtain ⟨q1, q2⟩ | ⟨q1, q2⟩ := beq_cases (k : Int) 0
        · go_wp2_with fail
          exact bodyPost_ret (v := .tuple #[.agg #[.string ⟨#[]⟩, .slice none 0 0], .slice none 0 0, .bool false]) (by simp [results, Tryd.results13, go_sem, hW.1, hW.2]) rfl ⟨rfl, (hbA.setCell (Nat.le_refl _) _).setCell (Nat.le_refl _) _⟩
        · have q3 : ((k : Int) == (m : Int)) = true := beq_iff_eq.2 (by omega)
          go_wp2_with fail
          exact bodyPost_ret (v := .tuple #[.agg #[.string ⟨#[]⟩, .slice none 0 0], .slice none 0 0, .bool false]) (by simp [results, Tryd.results13, go_sem, hW.1, hW.2]) rfl ⟨rfl, (hbA.setCell (Nat.le_refl _) _).setCell (Nat.le_refl _) _⟩
end Go.Proofs.Qxb6608938aDoor
