/-
  THE WALK of timeid.parseMark: it returns 'pm' of the line's bytes.
-/
import Derived.Test.Qxb6608740aFmtSmall
import Derived.Lib.SplitLaws
import Derived.Deep.DeepCutAuto
import Derived.Deep.CutBlock
import Derived.Deep.RegionWith
import Derived.BigQuiet
import Derived.Deep.QuietTactic
namespace Go.Proofs.Qxb6608740aFmt
open Go.RowKit Go.PlainAid

def nums (l : List UInt8) : List Int := l.map fun c => (c.toNat : Int)
theorem bytes_nums (l : List UInt8) : Lib.bytesOf (nums l) = l := by
  unfold Lib.bytesOf nums
  rw [List.map_map]
  conv => rhs; rw [← List.map_id l]
  refine List.map_congr_left fun c _ => ?_
  simp
theorem nums_len (l : List UInt8) : (nums l).length = l.length := by unfold nums; simp
theorem nums_rng (l : List UInt8) : ∀ x ∈ nums l, 0 ≤ x ∧ x < 256 := by
  intro x hx
  unfold nums at hx
  obtain ⟨c, _, rfl⟩ := List.mem_map.1 hx
  have := c.toNat_lt
  omega
theorem nums_getD (l : List UInt8) (i : Nat) (h : i < l.length) : (nums l).getD i 0 = Pl.B l i := by
  unfold nums
  rw [Pl.B_get l i h, List.getD_eq_getElem?_getD, List.getElem?_map, List.getElem?_eq_getElem h]; rfl
theorem addr_add (b o j : Nat) : (⟨b, o, none⟩ : Addr).add j = ⟨b, o + j, none⟩ := by unfold Addr.add; split <;> simp_all

theorem occ_one (s : List UInt8) (c : UInt8) (j : Nat) : Lib.occAt s [c] j = decide (s[j]? = some c) := by
  unfold Lib.occAt
  rw [← List.head?_drop]
  cases s.drop j with
  | nil => simp
  | cons x r =>
    rw [Bool.eq_iff_iff]
    simp only [List.isPrefixOf, Bool.and_true, beq_iff_eq, List.head?_cons, Option.some.injEq, decide_eq_true_eq]
    exact eq_comm
theorem index_hit1 {p q : List UInt8} {c : UInt8} (h : c ∉ p) : Lib.index (p ++ c :: q) [c] = p.length := by
  refine Lib.index_first (by simp) ?_ ?_
  · rw [occ_one, decide_eq_true_eq]; simp
  · intro j hj
    rw [occ_one, decide_eq_false_iff_not, List.getElem?_append_left hj]
    intro e
    exact h (List.mem_of_getElem? e)
theorem drop_past (p q : List UInt8) (c : UInt8) : (p ++ c :: q).drop (p.length + 1) = q := by
  have e : (p ++ c :: q) = (p ++ [c]) ++ q := by simp
  have hl : p.length + 1 = (p ++ [c]).length := by simp
  rw [e, hl, List.drop_left' rfl]

theorem splitV3 {a b c : List UInt8} (bk o cap : Nat) (ha : (32 : UInt8) ∉ a) (hb : (32 : UInt8) ∉ b) (hcap : (a ++ 32 :: (b ++ 32 :: c)).length ≤ cap) :
    ∃ o3 c3, Lib.splitV [32] 0 2 ⟨bk, o, none⟩ cap (a ++ 32 :: (b ++ 32 :: c)) = [.slice (some ⟨bk, o, none⟩) a.length a.length, .slice (some ⟨bk, o + (a.length + 1), none⟩) b.length b.length, .slice (some ⟨bk, o3, none⟩) c.length c3] ∧ (c.length = 0 ∨ o3 = o + (a.length + 1) + (b.length + 1)) := by
  simp only [List.length_append, List.length_cons] at hcap
  have t1 : Lib.tailAddr ⟨bk, o, none⟩ cap (a.length + [(32 : UInt8)].length) = ⟨bk, o + (a.length + 1), none⟩ := by
    unfold Lib.tailAddr
    rw [if_neg (by simp; omega), addr_add]; rfl
  rw [Lib.splitV_hit [32] 0 1 _ cap _ a.length (index_hit1 ha), t1]
  have d1 : (a ++ 32 :: (b ++ 32 :: c)).drop (a.length + [(32 : UInt8)].length) = b ++ 32 :: c := drop_past a _ 32
  rw [d1, Lib.splitV_hit [32] 0 0 _ _ _ b.length (index_hit1 hb)]
  have d2 : (b ++ 32 :: c).drop (b.length + [(32 : UInt8)].length) = c := drop_past b _ 32
  rw [d2]
  by_cases h : cap - (a.length + [(32 : UInt8)].length) = b.length + [(32 : UInt8)].length
  · refine ⟨o + (a.length + 1), cap - (a.length + 1) - (b.length + 1), ?_, .inl (by simp at h; omega)⟩
    unfold Lib.tailAddr
    rw [if_pos h]
    rfl
  · refine ⟨o + (a.length + 1) + (b.length + 1), cap - (a.length + 1) - (b.length + 1), ?_, .inr rfl⟩
    unfold Lib.tailAddr
    rw [if_neg h, addr_add]
    rfl

theorem split_call (b o c : Nat) (l : List UInt8) (n b2 o2 : Nat) (w : World) (hl : l.length = n) (hr : RowAt w b o l) (h2 : w.cell? ⟨b2, o2, none⟩ = some (.int .u8 32)) (hE : Env w) (hn : n ≤ 1048576) (hcap : n ≤ c) (hc : c ≤ 9223372036854775807) :
    Calls Tryf.prog 27 #[.slice (some ⟨b, o, none⟩) n c, .slice (some ⟨b2, o2, none⟩) 1 1] w fun e w' =>
      e = .returned (.slice (some ⟨w.heap.size, 0, none⟩) (l.count 32 + 1) (l.count 32 + 1)) ∧ ∃ q, w' = (w.alloc (.cells (Lib.splitV [32] 0 (l.count 32) ⟨b, o, none⟩ c l).toArray 22)).drewN q := by
  obtain ⟨⟨m, hm⟩, _⟩ := hE
  have h := Tryf.bytes_Split ⟨b, o, none⟩ ⟨b2, o2, none⟩ n c 1 1 (nums l) [32] m w (by rw [nums_len]; exact hl) rfl (nums_rng l) (by intro y hy; simp at hy; omega)
    (fun i hi => by rw [addr_add, nums_getD l i (by omega)]; exact hr i (by omega))
    (fun i hi => by
      have : i = 0 := by omega
      subst this
      rw [addr_add]; exact h2) hcap (by omega) (by omega) hc (by omega) hm
  have e32 : Lib.bytesOf [32] = [32] := by decide
  rw [bytes_nums, e32, Lib.count_one] at h
  exact h

theorem trim_call (b o c : Nat) (l : List UInt8) (n b2 o2 : Nat) (w : World) (hl : l.length = n) (hr : RowAt w b o l) (h2 : w.cell? ⟨b2, o2, none⟩ = some (.int .u8 45)) (hcap : n ≤ c) :
    Calls Tryf.prog 30 #[.slice (some ⟨b, o, none⟩) n c, .slice (some ⟨b2, o2, none⟩) 1 1] w fun e w' =>
      ∃ o' n' c', e = .returned (.slice (some ⟨b, o', none⟩) n' c') ∧ w' = w ∧ Hid ((Pl.strip l).length = n') ∧ RowAt w b o' (Pl.strip l) ∧ n' ≤ n := by
  have h := Tryf.bytes_TrimPrefix b o n c b2 o2 1 1 (nums l) [45] w (by rw [nums_len]; exact hl) rfl hcap (fun i hi => by rw [nums_getD l i (by omega)]; exact hr i (by omega))
    (fun i hi => by
      have : i = 0 := by omega
      subst this
      exact h2)
  refine h.mono ?_
  rintro e w' ⟨rfl, rfl⟩
  have e45 : Lib.bytesOf [45] = [45] := by decide
  unfold Lib.bytesTrimPrefix
  rw [bytes_nums, e45]
  have hm : Lib.hasPrefix l [45] = Pl.minus l := by
    unfold Lib.hasPrefix Pl.minus
    cases l with
    | nil => rfl
    | cons x r =>
      simp only [List.isPrefixOf, Bool.and_true]
      rw [Bool.eq_iff_iff, beq_iff_eq, beq_iff_eq]; exact eq_comm
  rw [hm]
  cases hmm : Pl.minus l with
  | false =>
    have hs : Pl.strip l = l := by unfold Pl.strip; rw [hmm]; rfl
    rw [hs]
    exact ⟨o, n, c, rfl, rfl, hl, hr, Nat.le_refl _⟩
  | true =>
    have hs : Pl.strip l = l.drop 1 := by unfold Pl.strip; rw [hmm]; rfl
    rw [hs]
    cases l with
    | nil => cases hmm
    | cons x r =>
      have hd : List.drop 1 (x :: r) = r := rfl
      rw [hd]
      have hr' : RowAt w' b (o + 1) r := by
        intro i hi
        have := hr (i + 1) (by simp; omega)
        rw [Pl.B_succ] at this
        rw [show o + 1 + i = o + (i + 1) by omega]; exact this
      rw [if_pos rfl]
      unfold Lib.sliceFrom
      rw [List.length_cons] at hl
      have e1 : ([45] : List Int).length = 1 := rfl
      rw [e1]
      by_cases hc1 : c = 1
      · rw [if_pos hc1]
        have hr0 : r.length = 0 := by omega
        exact ⟨o, n - 1, c - 1, rfl, rfl, hide (by omega), fun i hi => by omega, by omega⟩
      · rw [if_neg hc1]
        exact ⟨o + 1, n - 1, c - 1, rfl, rfl, hide (by omega), hr', by omega⟩

theorem pm3_no {a b c : List UInt8} (h : Pl.validName a = false) : Pl.pm3 a b c = Pl.bad := by
  unfold Pl.pm3; rw [if_neg (by rw [h]; simp)]
theorem pm3_bad1 {a b c : List UInt8} {x : Int} (h : Pl.validName a = true) (h1 : pdR (Pl.strip b) = (x, false)) : Pl.pm3 a b c = Pl.bad := by
  unfold pdR at h1
  unfold Pl.pm3
  rw [if_pos h]
  cases hp : Pl.pd (Pl.strip b) with
  | none => rfl
  | some v => rw [hp] at h1; cases h1
theorem pm3_bad2 {a b c : List UInt8} {y : Int} (h : Pl.validName a = true) (h2 : pdR c = (y, false)) : Pl.pm3 a b c = Pl.bad := by
  unfold pdR at h2
  unfold Pl.pm3
  rw [if_pos h]
  cases hp : Pl.pd (Pl.strip b) with
  | none => rfl
  | some v =>
    cases hq : Pl.pd c with
    | none => rfl
    | some u => rw [hq] at h2; cases h2
theorem pm3_ok {a b c : List UInt8} {x y : Int} (h : Pl.validName a = true) (h1 : pdR (Pl.strip b) = (x, true)) (h2 : pdR c = (y, true)) : Pl.pm3 a b c = (a, if Pl.minus b then -x else x, y, true) := by
  unfold pdR at h1 h2
  unfold Pl.pm3
  rw [if_pos h]
  cases hp : Pl.pd (Pl.strip b) with
  | none => rw [hp] at h1; cases h1
  | some v =>
    cases hq : Pl.pd c with
    | none => rw [hq] at h2; cases h2
    | some u =>
      rw [hp] at h1
      rw [hq] at h2
      injection h1 with h1 _
      injection h2 with h2 _
      subst h1 h2
      rfl
theorem pdR_rng {d : List UInt8} {x : Int} {k : Bool} (h : pdR d = (x, k)) : 0 ≤ x ∧ x ≤ 9223372036854775807 := by
  unfold pdR at h
  cases hp : Pl.pd d with
  | none => rw [hp] at h; injection h with h _; omega
  | some v =>
    rw [hp] at h
    injection h with h _
    unfold Pl.pd at hp
    split at hp
    · split at hp
      · rename_i hb
        injection hp with hp
        unfold Pl.big at hb
        omega
      · cases hp
    · cases hp
theorem pdR_ne {d : List UInt8} {x : Int} (h : pdR d = (x, true)) : 0 < d.length := by
  unfold pdR Pl.pd at h
  cases d with
  | nil => simp [Pl.allDig] at h
  | cons c r => simp
theorem strip_ne {b : List UInt8} (h : 0 < (Pl.strip b).length) : 0 < b.length := by
  unfold Pl.strip at h
  split at h
  · rw [List.length_drop] at h; omega
  · exact h
theorem minus_B {b : List UInt8} (h : 0 < b.length) : (Pl.B b 0 == 45) = Pl.minus b := by
  cases b with
  | nil => cases h
  | cons c r =>
    rw [Pl.B_cons]
    unfold Pl.minus
    rw [Bool.eq_iff_iff, beq_iff_eq, beq_iff_eq]
    constructor
    · intro h; exact UInt8.toNat_inj.1 (by simp; omega)
    · rintro rfl; rfl
theorem ret_mk {r : Pl.Mk} {s : ByteArray} {x y : Int} {k : Bool} (h : r = (s.data.toList, x, y, k)) :
    Ending.returned (.tuple #[.string s, .agg #[.int .i64 x, .int .i64 y], .bool k]) = .returned (.tuple #[.string ⟨r.1.toArray⟩, .agg #[.int .i64 r.2.1, .int .i64 r.2.2.1], .bool r.2.2.2]) := by rw [h]

set_option maxRecDepth 100000 in
set_option maxHeartbeats 2000000 in
theorem mark_any (b o c : Nat) (l : List UInt8) (n : Nat) (w : World) (hl : Hid (l.length = n)) (hr : RowAt w b o l) (hE : Env w) (hn : n ≤ 1048576) (hcap : n ≤ c) (hc : c ≤ 9223372036854775807) (hbk : b < w.heap.size) :
    Calls Tryf.prog 21 #[.slice (some ⟨b, o, none⟩) n c] w fun e w' => e = .returned (.tuple #[.string ⟨(Pl.pm l).1.toArray⟩, .agg #[.int .i64 (Pl.pm l).2.1, .int .i64 (Pl.pm l).2.2.1], .bool (Pl.pm l).2.2.2]) ∧ Below w.heap.size w w' := by
  have hrH := hide hr
  have hEH := hide hE
  clear hr hE
  have hW := ((Below.refl w.heap.size w).alloc (Nat.le_refl _) (.cells #[.int .i64 0, .int .i64 0] 43)).alloc (by simp) (.cells #[.int .u8 32] 5)
  rcases Pl.three_or l with ⟨fa, fb, fc, hl3, ha, hb, hc3, hpm⟩ | ⟨hcnt, hpm⟩
  · obtain ⟨o3, c3, hsv, ho3⟩ := splitV3 (a := fa) (b := fb) (c := fc) b o c ha hb (by rw [← hl3, hl.out]; exact hcap)
    have hcount : l.count 32 = 2 := by rw [hl3]; exact Pl.count3 ha hb hc3
    rw [← hl3] at hsv
    have hpmH := hide hpm
    clear hpm
    go_enter Tryf.func21, Tryf.ntmps21
    go_wp2_with fail
    refine (split_call b o c l n _ _ _ hl.out (hrH.out.below_le hW hbk) ?_ (hEH.out.below hW) hn hcap hc).mono ?_
    · go_simp
    rintro e w' ⟨rfl, q, rfl⟩
    rw [hcount, hsv]
    clear hcount hsv
    have hB3 := below_drewN (hW.alloc hW.size (.cells #[.slice (some ⟨b, o, none⟩) fa.length fa.length, .slice (some ⟨b, o + (fa.length + 1), none⟩) fb.length fb.length, .slice (some ⟨b, o3, none⟩) fc.length c3] 22)) q
    have hll : Hid (fa.length + (fb.length + (fc.length + 1) + 1) = n) := by rw [← hl.out, hl3]; exact hide (by simp)
    have hla : fa.length ≤ n := by have := hll.out; omega
    have hlb : fb.length ≤ n := by have := hll.out; omega
    have hlc : fc.length ≤ n := by have := hll.out; omega
    have ra : Hid (RowAt w b o fa) := by
      have := RowAt.piece (p := []) (q := fa) (r := 32 :: (fb ++ 32 :: fc)) (by rw [List.nil_append, ← hl3]; exact hrH.out)
      exact this
    have rb : Hid (RowAt w b (o + (fa.length + 1)) fb) := by
      have := RowAt.piece (p := fa ++ [32]) (q := fb) (r := 32 :: fc) (w := w) (b := b) (o := o) (by rw [show fa ++ [32] ++ fb ++ 32 :: fc = l by rw [hl3]; simp]; exact hrH.out)
      rw [show (fa ++ [(32 : UInt8)]).length = fa.length + 1 by simp] at this
      exact this
    have rc : Hid (RowAt w b o3 fc) := by
      rcases ho3 with h0 | rfl
      · exact fun i hi => by omega
      · have := RowAt.piece (p := fa ++ 32 :: (fb ++ [32])) (q := fc) (r := []) (w := w) (b := b) (o := o) (by rw [show fa ++ 32 :: (fb ++ [32]) ++ fc ++ [] = l by rw [hl3]; simp]; exact hrH.out)
        rw [show (fa ++ (32 : UInt8) :: (fb ++ [32])).length = fa.length + 1 + (fb.length + 1) by simp; omega, ← Nat.add_assoc] at this
        exact this
    clear hl3 hrH ho3 ha hb hc3 hl
    go_wp2_with fail
    refine (markName_any b o _ fa fa.length _ (hide rfl) (ra.out.below_le hB3 hbk) (by omega)).mono ?_
    rintro e w' ⟨rfl, rfl⟩
    cases hv : Pl.validName fa
    · have hfin : Hid (Pl.pm l = Pl.bad) := hpmH.out.trans (pm3_no hv)
      clear hv
      go_wp2
      have a0 : ((((w.alloc (.cells #[.int .i64 0, .int .i64 0] 43)).alloc (.cells #[.int .u8 32] 5)).alloc (.cells #[.slice (some ⟨b, o, none⟩) fa.length fa.length, .slice (some ⟨b, o + (fa.length + 1), none⟩) fb.length fb.length, .slice (some ⟨b, o3, none⟩) fc.length c3] 22)).drewN q).cell? ⟨w.heap.size, 0, none⟩ = some (.int .i64 0) := by go_simp
      have a1 : ((((w.alloc (.cells #[.int .i64 0, .int .i64 0] 43)).alloc (.cells #[.int .u8 32] 5)).alloc (.cells #[.slice (some ⟨b, o, none⟩) fa.length fa.length, .slice (some ⟨b, o + (fa.length + 1), none⟩) fb.length fb.length, .slice (some ⟨b, o3, none⟩) fc.length c3] 22)).drewN q).cell? ⟨w.heap.size, 1, none⟩ = some (.int .i64 0) := by go_simp
      refine bodyPost_ret (v := .tuple #[.string ⟨#[]⟩, .agg #[.int .i64 0, .int .i64 0], .bool false]) (by simp [results, Tryf.results21, go_sem, a0, a1]) rfl ⟨ret_mk (s := ⟨#[]⟩) hfin.out, ?_⟩
      exact (hB3.setCell (Nat.le_refl _) _).setCell (Nat.le_refl _) _
    have hvH := hide hv
    go_wp2_with fail
    clear hv
    have hW3 := hW.alloc hW.size (.cells #[.slice (some ⟨b, o, none⟩) fa.length fa.length, .slice (some ⟨b, o + (fa.length + 1), none⟩) fb.length fb.length, .slice (some ⟨b, o3, none⟩) fc.length c3] 22)
    have hW4 := below_drewN (hW3.alloc hW3.size (.cells #[.int .u8 45] 5)) q
    clear hW3
    refine (trim_call b (o + (fa.length + 1)) fb.length fb fb.length _ _ _ rfl (rb.out.below_le hW4 hbk) ?_ (Nat.le_refl _)).mono ?_
    · go_simp
    rintro e w' ⟨o', n', c', rfl, rfl, hsl, hsr, hsn⟩
    obtain ⟨s1, k1, hp1⟩ : ∃ s1 k1, pdR (Pl.strip fb) = (s1, k1) := ⟨_, _, rfl⟩
    have hp1H := hide hp1
    obtain ⟨s1a, s1b⟩ := pdR_rng hp1
    clear hp1
    go_wp2_with fail
    refine (digits_any b o' c' (Pl.strip fb) n' _ hsl hsr (hEH.out.below hW4) (by omega)).mono ?_
    rintro e w5 ⟨rfl, hb5⟩
    rw [hp1H.out]
    have c51 : w5.cell? ⟨w.heap.size + 1 + 1, 1, none⟩ = some (.slice (some ⟨b, o + (fa.length + 1), none⟩) fb.length fb.length) := (hb5.cell (p := ⟨w.heap.size + 1 + 1, 1, none⟩) (by simp)).trans (by go_simp)
    have c52 : w5.cell? ⟨w.heap.size + 1 + 1, 2, none⟩ = some (.slice (some ⟨b, o3, none⟩) fc.length c3) := (hb5.cell (p := ⟨w.heap.size + 1 + 1, 2, none⟩) (by simp)).trans (by go_simp)
    have hB5 : Below w.heap.size w w5 := hW4.trans (hb5.mono (by simp; omega))
    obtain ⟨s2, k2, hp2⟩ : ∃ s2 k2, pdR fc = (s2, k2) := ⟨_, _, rfl⟩
    have hp2H := hide hp2
    clear hp2 hsr
    go_wp2_with fail
    refine (digits_any b o3 c3 fc fc.length _ (hide rfl) (rc.out.below_le hB5 hbk) (hEH.out.below hB5) (by omega)).mono ?_
    rintro e w6 ⟨rfl, hb6⟩
    rw [hp2H.out]
    have hs5 : w.heap.size + 4 ≤ w5.heap.size := by have := hb5.size; simp at this; omega
    have hB6 : Below w.heap.size w w6 := hB5.trans (hb6.mono (by omega))
    have hb56 := fun (k j : Nat) (hk : k < w.heap.size + 4) => (hb6.cell (p := ⟨k, j, none⟩) (show k < w5.heap.size by omega)).trans (hb5.cell (p := ⟨k, j, none⟩) (by simp; omega))
    have hf56 := fun (k j : Nat) (hk : k < w.heap.size + 4) => (hb6.frozen (p := ⟨k, j, none⟩) (show k < w5.heap.size by omega)).trans (hb5.frozen (p := ⟨k, j, none⟩) (by simp; omega))
    have c60 : w6.cell? ⟨w.heap.size + 1 + 1, 0, none⟩ = some (.slice (some ⟨b, o, none⟩) fa.length fa.length) := (hb56 _ _ (by omega)).trans (by go_simp)
    have c61 : w6.cell? ⟨w.heap.size + 1 + 1, 1, none⟩ = some (.slice (some ⟨b, o + (fa.length + 1), none⟩) fb.length fb.length) := (hb56 _ _ (by omega)).trans (by go_simp)
    have a60 : w6.cell? ⟨w.heap.size, 0, none⟩ = some (.int .i64 0) := (hb56 _ _ (by omega)).trans (by go_simp)
    have a61 : w6.cell? ⟨w.heap.size, 1, none⟩ = some (.int .i64 0) := (hb56 _ _ (by omega)).trans (by go_simp)
    have f60 : w6.frozen? ⟨w.heap.size, 0, none⟩ = false := (hf56 _ _ (by omega)).trans (by go_simp)
    have f61 : w6.frozen? ⟨w.heap.size, 1, none⟩ = false := (hf56 _ _ (by omega)).trans (by go_simp)
    clear hb56 hf56 hb5 hb6 c51 c52 hW hB3 hW4
    cases k1
    · have hfin : Hid (Pl.pm l = Pl.bad) := hpmH.out.trans (pm3_bad1 hvH.out hp1H.out)
      go_wp2
      refine bodyPost_ret (v := .tuple #[.string ⟨#[]⟩, .agg #[.int .i64 0, .int .i64 0], .bool false]) (by simp [results, Tryf.results21, go_sem, a60, a61]) rfl ⟨ret_mk (s := ⟨#[]⟩) hfin.out, ?_⟩
      exact (hB6.setCell (Nat.le_refl _) _).setCell (Nat.le_refl _) _
    cases k2
    · have hfin : Hid (Pl.pm l = Pl.bad) := hpmH.out.trans (pm3_bad2 hvH.out hp2H.out)
      go_wp2
      refine bodyPost_ret (v := .tuple #[.string ⟨#[]⟩, .agg #[.int .i64 0, .int .i64 0], .bool false]) (by simp [results, Tryf.results21, go_sem, a60, a61]) rfl ⟨ret_mk (s := ⟨#[]⟩) hfin.out, ?_⟩
      exact (hB6.setCell (Nat.le_refl _) _).setCell (Nat.le_refl _) _
    have hfin := hide (hpmH.out.trans (pm3_ok hvH.out hp1H.out hp2H.out))
    have hbl : 0 < fb.length := strip_ne (pdR_ne hp1H.out)
    have hb0 : w6.cell? ⟨b, o + (fa.length + 1), none⟩ = some (.int .u8 (Pl.B fb 0)) := (rb.out.below_le hB6 hbk) 0 hbl
    have hconv := conv_row (c := fa.length) rfl (ra.out.below_le hB6 hbk)
    have hmin := minus_B hbl
    cases hm : Pl.minus fb
    · rw [hm] at hmin
      have hfin2 : Hid (Pl.pm l = (fa, s1, s2, true)) := hfin.out.trans (by rw [hm]; rfl)
      clear hfin hm
      go_wp2
      refine bodyPost_ret (v := .tuple #[.string ⟨fa.toArray⟩, .agg #[.int .i64 s1, .int .i64 s2], .bool true]) (by simp [results, Tryf.results21, go_sem, a60, a61]) rfl ⟨ret_mk (s := ⟨fa.toArray⟩) hfin2.out, ?_⟩
      exact (hB6.setCell (Nat.le_refl _) _).setCell (Nat.le_refl _) _
    · rw [hm] at hmin
      have hfin2 : Hid (Pl.pm l = (fa, -s1, s2, true)) := hfin.out.trans (by rw [hm]; rfl)
      clear hfin hm
      go_wp2
      refine bodyPost_ret (v := .tuple #[.string ⟨fa.toArray⟩, .agg #[.int .i64 (-s1), .int .i64 s2], .bool true]) (by simp [results, Tryf.results21, go_sem, a60, a61]) rfl ⟨ret_mk (s := ⟨fa.toArray⟩) hfin2.out, ?_⟩
      exact (hB6.setCell (Nat.le_refl _) _).setCell (Nat.le_refl _) _
  · have hpmH := hide hpm
    have hne : ((l.count 32 + 1 : Nat) : Int) ≠ 3 := by omega
    clear hpm hcnt
    go_enter Tryf.func21, Tryf.ntmps21
    go_wp2_with fail
    refine (split_call b o c l n _ _ _ hl.out (hrH.out.below_le hW hbk) ?_ (hEH.out.below hW) hn hcap hc).mono ?_
    · go_simp
    rintro e w' ⟨rfl, q, rfl⟩
    have hB3 := below_drewN (hW.alloc hW.size (.cells (Lib.splitV [32] 0 (List.count 32 l) ⟨b, o, none⟩ c l).toArray 22)) q
    have hqq : (((l.count 32 + 1 : Nat) : Int) != 3) = true := by rw [bne_iff_ne]; exact hne
    generalize (Lib.splitV [32] 0 (List.count 32 l) ⟨b, o, none⟩ c l).toArray = F at *
    generalize List.count 32 l + 1 = cnt at *
    clear hne
    go_wp2
    have a0 : ((((w.alloc (.cells #[.int .i64 0, .int .i64 0] 43)).alloc (.cells #[.int .u8 32] 5)).alloc (.cells F 22)).drewN q).cell? ⟨w.heap.size, 0, none⟩ = some (.int .i64 0) := by go_simp
    have a1 : ((((w.alloc (.cells #[.int .i64 0, .int .i64 0] 43)).alloc (.cells #[.int .u8 32] 5)).alloc (.cells F 22)).drewN q).cell? ⟨w.heap.size, 1, none⟩ = some (.int .i64 0) := by go_simp
    refine bodyPost_ret (v := .tuple #[.string ⟨#[]⟩, .agg #[.int .i64 0, .int .i64 0], .bool false]) (by simp [results, Tryf.results21, go_sem, a0, a1]) rfl ⟨ret_mk (s := ⟨#[]⟩) hpmH.out, ?_⟩
    exact (hB3.setCell (Nat.le_refl _) _).setCell (Nat.le_refl _) _
end Go.Proofs.Qxb6608740aFmt
