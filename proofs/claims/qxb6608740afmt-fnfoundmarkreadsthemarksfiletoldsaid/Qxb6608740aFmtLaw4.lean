/-
  WALK: the law FnFoundMarkReadsTheMarksFile: it returns true.
-/
import Derived.Test.Qxb6608740aFmtStart
import Derived.Test.Qxb6608740aFmtModel
import Derived.OwnWalk
import Derived.Laws.CopyOwn
import Derived.Deep.DeepCutAuto
import Derived.Deep.CutBlock
namespace Go.Proofs.Qxb6608740aFmt
open Go.RowKit Go.PlainAid Go.Extern.Stop Go.Stop Go.Extern

def LawPost (w : World) (e : Ending) (w' : World) : Prop := e = .returned (.bool true) ∧ Below w.heap.size w w'
theorem cellsB_one (l : List UInt8) : ∀ u ∈ cellsB l, u.oneCell' = true := by
  intro u hu
  unfold cellsB at hu
  obtain ⟨c, _, rfl⟩ := List.mem_map.1 hu
  rfl
theorem row_of_block {w : World} {g : Nat} {d : List UInt8} (h : w.heap[g]? = some (.cells (cellsB d).toArray 5 (0, 0))) : RowAt w g 0 d := by
  intro i hi
  rw [Nat.zero_add, cell_of_row w g i _ _ _ h]
  unfold cellsB
  simp only [List.getElem?_toArray, List.getElem?_map, List.getElem?_eq_getElem hi, Option.map_some]
  rw [Pl.B_get d i hi]
theorem splice_all {α : Type} (L cs : List α) (h : L.length = cs.length) : splice L 0 cs = cs := by
  unfold splice
  rw [List.take_zero, List.nil_append, Nat.zero_add, ← h, List.drop_length, List.append_nil]
theorem MRes_none {d : List UInt8} {N : Nat} {w : World} {e : Ending} (h : MRes d N w e) (hm : Pl.marks d = none) : ∃ k a, e = .returned (.tuple #[.map none, .iface k (.pointer (some a))]) := by
  unfold MRes at h; rw [hm] at h; exact h
theorem MRes_some {d : List UInt8} {N : Nat} {w : World} {e : Ending} {es : List Pl.Ent} (h : MRes d N w e) (hm : Pl.marks d = some es) : ∃ M, e = .returned (.tuple #[.map (some M), .nilIface]) ∧ N ≤ M ∧ M < w.heap.size ∧ (Pl.names es).Nodup ∧ ∃ k, w.ownsMap Tryf.prog 9 mkElem M k (dOf es) := by
  unfold MRes at h; rw [hm] at h; exact h
/-- The floor that ZZfloorOf lays. -/
theorem floor_new {w : World} {M k : Nat} {es : List Pl.Ent} (hM : M < w.heap.size) (hn : (Pl.names es).Nodup) (ho : w.ownsMap Tryf.prog 9 mkElem M k (dOf es)) : FloorAt (w.alloc (.cells #[.pointer none, .int .i64 0, .int .i32 0, .int .u32 0, .int .i64 0, .map (some M)] 55)) w.heap.size es := by
  refine ⟨?_, ?_, hn, M, k, ?_, Nat.ne_of_lt hM, by simp; omega, ho.alloc _⟩
  · go_simp
  · go_simp
  · go_simp
theorem size5 : (Tryf.prog.info? 5).map (·.size) = some 1 := by kernel_rfl


theorem MM_calls_none {p : Option Addr} {n c : Nat} {d : List UInt8} {s : ByteArray} {w : World} (h : Calls Tryf.prog 6 #[.slice p n c, .string s] w (MM d s w)) (hm : Pl.marks d = none) :
    Calls Tryf.prog 6 #[.slice p n c, .string s] w fun e w' => e = .returned (.tuple #[.bool false, .int .i64 0, .int .i64 0, .bool false]) ∧ Below w.heap.size w w' :=
  h.mono fun e w' he => by unfold MM at he; rw [hm] at he; exact he
theorem MM_calls_some {p : Option Addr} {n c : Nat} {d : List UInt8} {s : ByteArray} {w : World} {es : List Pl.Ent} {x y : Int} {k : Bool} (h : Calls Tryf.prog 6 #[.slice p n c, .string s] w (MM d s w)) (hm : Pl.marks d = some es) (hl : Pl.look es s.data.toList = (x, y, k)) :
    Calls Tryf.prog 6 #[.slice p n c, .string s] w fun e w' => e = .returned (.tuple #[.bool true, .int .i64 x, .int .i64 y, .bool k]) ∧ Below w.heap.size w w' :=
  h.mono fun e w' he => by
    unfold MM at he
    have e2 : Pl.lookO (some es) s.data.toList = (x, y, k) := hl
    rw [hm, e2] at he; exact he
theorem model_any (p : Option Addr) (n c : Nat) (d : List UInt8) (s : ByteArray) (w : World) (hL : Lies w p n c d) (hn : n ≤ 65536) (hcap : n ≤ c) (hc : c ≤ 9223372036854775807) (hbk : ∀ a, p = some a → a.block < w.heap.size) :
    Calls Tryf.prog 6 #[.slice p n c, .string s] w (MM d s w) := by
  obtain ⟨hl, hnil, hsome⟩ := hL
  cases p with
  | none =>
    obtain ⟨rfl, rfl⟩ := hnil rfl
    obtain rfl := List.length_eq_zero_iff.1 hl
    exact model_nil s w
  | some ad =>
    obtain ⟨b, o, rfl, hr⟩ := hsome ad rfl
    by_cases hd : d.getLast? = some 10
    · obtain ⟨bd, rfl⟩ := Pl.last_split hd
      rw [List.length_append] at hl
      have hl1 : ([10] : List UInt8).length = 1 := rfl
      obtain ⟨m, rfl⟩ : ∃ m, n = m + 1 := ⟨n - 1, by omega⟩
      exact model_ok b o m c bd s w (by omega) hr (by omega) hcap hc (hbk _ rfl)
    · exact model_last b o n c d s w hl hr hd hn
theorem lies_below {w w' : World} {p : Option Addr} {n c : Nat} {d : List UInt8} (h : Lies w p n c d) (hb : Below w.heap.size w w') (hbk : ∀ a, p = some a → a.block < w.heap.size) : Lies w' p n c d :=
  ⟨h.1, h.2.1, fun ad had => by
    obtain ⟨b, o, rfl, hr⟩ := h.2.2 ad had
    exact ⟨b, o, rfl, hr.below_le hb (hbk _ had)⟩⟩
theorem blk_below {w w' : World} {p : Option Addr} (h : ∀ a, p = some a → a.block < w.heap.size) (hb : Below w.heap.size w w') : ∀ a, p = some a → a.block < w'.heap.size :=
  fun a ha => Nat.lt_of_lt_of_le (h a ha) hb.size

set_option maxRecDepth 100000 in
set_option maxHeartbeats 1000000 in
theorem guard4_any (p : Option Addr) (n c : Nat) (s : ByteArray) (w : World) :
    Calls Tryf.prog 5 #[.slice p n c, .string s] w fun e w' => SomeBool e ∧ w' = w := by
  by_cases h1 : (n : Int) ≤ 1048576
  rotate_left
  · go_enter Tryf.func5, Tryf.ntmps5
    go_wp2_with fail
    go_ret
    exact ⟨⟨_, rfl⟩, rfl⟩
  by_cases h2 : (s.size : Int) ≤ 1048576
  rotate_left
  · go_enter Tryf.func5, Tryf.ntmps5
    go_wp2_with fail
    go_ret
    exact ⟨⟨_, rfl⟩, rfl⟩
  by_cases h3 : (n : Int) + s.size ≤ 1048576
  · go_enter Tryf.func5, Tryf.ntmps5
    go_wp2_with fail
    go_ret
    exact ⟨⟨_, rfl⟩, rfl⟩
  · go_enter Tryf.func5, Tryf.ntmps5
    go_wp2_with fail
    go_ret
    exact ⟨⟨_, rfl⟩, rfl⟩

set_option maxRecDepth 1000000 in
set_option maxHeartbeats 4000000 in
theorem law4_long (p : Option Addr) (n c : Nat) (s : ByteArray) (w : World) (h : 65536 < (n : Int) ∨ 65536 < (s.size : Int)) :
    Calls Tryf.prog 3 #[.slice p n c, .string s] w (LawPost w) := by
  have hg := hide (guard4_any p n c s w)
  by_cases h1 : 65536 < (n : Int)
  · clear h
    go_enter Tryf.func3, Tryf.ntmps3
    go_wp2_with fail
    refine (hg.out).mono ?_
    rintro ev w' ⟨⟨g, rfl⟩, rfl⟩
    cases g
    all_goals go_wp2_with fail
    all_goals go_ret
    all_goals exact ⟨rfl, Below.refl _ _⟩
  · have h2 : 65536 < (s.size : Int) := by omega
    clear h
    go_enter Tryf.func3, Tryf.ntmps3
    go_wp2_with fail
    refine (hg.out).mono ?_
    rintro ev w' ⟨⟨g, rfl⟩, rfl⟩
    cases g
    all_goals go_wp2_with fail
    all_goals go_ret
    all_goals exact ⟨rfl, Below.refl _ _⟩

set_option maxRecDepth 1000000 in
set_option maxHeartbeats 8000000 in
theorem law4_some (F : Interp) (ad : Addr) (n c : Nat) (d : List UInt8) (s : ByteArray) (w : World) (hF : F.answers w.tape) (hE : Env w) (hl : d.length = n) (hr : ∀ j v, (cellsB d)[j]? = some v → w.cell? (ad.add j) = some v)
    (h1 : (n : Int) ≤ 65536) (h2 : (s.size : Int) ≤ 65536) :
    Calls Tryf.prog 3 #[.slice (some ad) n c, .string s] w (LawPost w) := by
  have hg := hide (guard4_any (some ad) n c s w)
  have hFH := hide hF
  have hEH := hide hE
  have hrH := hide hr
  clear hF hE hr
  obtain ⟨i0, hi, hz0, hz1, hz2⟩ := info_parts Tryf.info5
  go_enter Tryf.func3, Tryf.ntmps3
  go_wp2_with fail
  refine (hg.out).mono ?_
  rintro ev w2 ⟨⟨g, rfl⟩, rfl⟩
  clear hg
  cases g
  · go_wp2_with fail
    go_ret
    exact ⟨rfl, Below.refl _ _⟩
  go_upto_region 7 with (at_make; refine wpList_make_full _ rfl _ _ 22 rfl _ 5 i0 (.int .u8 0) 1 Tryf.underlying22 hi hz0 hz1 .i64 .i64 (n : Int) (n : Int) n rfl rfl rfl rfl (by rw [hz2]; omega) (by unfold maxLen; omega) (Nat.le_refl _) ?_; intro w1 hown1 hgrow1)
  have hb1 : Below w2.heap.size w2 w1 := (Below.refl w2.heap.size w2).grown hgrow1 (Nat.le_refl _) (fun k hk => by cases hk)
  obtain ⟨cur, hgc, hcl⟩ : ∃ cur : List Value, w1.heap[w2.heap.size]? = some (.cells cur.toArray 5 (0, 0)) ∧ cur.length = n := by
    rcases hown1.2 with ⟨h, _⟩ | ⟨g, cap, cur, hv, _, hg, _, _, hcs, _⟩
    · cases h
    · cases hv
      exact ⟨cur.toList, by simpa using hg, by simpa using hcs⟩
  have hr1 : Hid (∀ j v, (cellsB d)[j]? = some v → w1.cell? (ad.add j) = some v) := hide (fun j v hj => (hb1.cell (cell_lt (hrH.out j v hj))).trans (hrH.out j v hj))
  have hgcH := hide hgc
  clear hown1 hgrow1 hgc
  go_upto_region 9 with (refine wpList_copy_splice rfl _ _ 22 22 rfl 5 Tryf.underlying22 size5 (some ⟨w2.heap.size, 0, none⟩) (some ad) n n n c rfl rfl w2.heap.size 0 cur 5 hgcH.out (cellsB d) (by rw [cellsB_len, hl]; exact (Nat.min_self n).symm) (fun _ => ⟨rfl, _, rfl, hr1.out⟩) (by rw [cellsB_len]; omega) (cellsB_one d) w2.heap.size w2 hb1 (Nat.le_refl _) ?_)
  intro w3 hG3 hb3
  have hrow3 : RowAt w3 w2.heap.size 0 d := row_of_block (by
    have h := hG3.out
    rwa [splice_all _ _ (by rw [hcl, cellsB_len, hl])] at h)
  have hN3 : w2.heap.size < w3.heap.size := (Array.getElem?_eq_some_iff.1 hG3.out).1
  have hLH : Hid (Lies w3 (some ⟨w2.heap.size, 0, none⟩) n n d) := hide ⟨hl, (fun h => by cases h), fun ad had => ⟨_, _, (Option.some.inj had).symm, hrow3⟩⟩
  have hbkH : Hid (∀ a : Addr, some (⟨w2.heap.size, 0, none⟩ : Addr) = some a → a.block < w3.heap.size) := hide (fun a ha => by cases ha; exact hN3)
  clear hG3 hr1 hgcH hb1 hcl hrow3
  have hmod := hide (model_any (some ⟨w2.heap.size, 0, none⟩) n n d s w3 hLH.out (by omega) (Nat.le_refl _) (by omega) hbkH.out)
  cases hm : Pl.marks d with
  | none =>
    have hmodN := hide (MM_calls_none hmod.out hm)
    clear hmod
    go_upto_region 10 with (go_at_call 6; (with_reducible refine (hmodN.out).mono ?_); rintro ev wB ⟨rfl, hbB⟩)
    clear hmodN
    have belB := hb3.trans (hbB.mono hb3.size)
    have hmk := hide (zzmarks_any F (some ⟨w2.heap.size, 0, none⟩) n n d wB (by rw [belB.tape]; exact hFH.out) (lies_below hLH.out hbB hbkH.out) (hEH.out.below belB) (by omega) (Nat.le_refl _) (by omega) (blk_below hbkH.out hbB))
    go_wp2_with (go_at_call 7; (with_reducible refine (hmk.out).mono ?_); rintro ev wC ⟨hres, hbC⟩; obtain ⟨k2, a2', rfl⟩ := MRes_none hres hm)
    go_ret
    exact ⟨rfl, belB.trans (hbC.mono belB.size)⟩
  | some es =>
    obtain ⟨x1, x2, fd, hlk⟩ : ∃ x1 x2 fd, Pl.look es s.data.toList = (x1, x2, fd) := ⟨_, _, _, rfl⟩
    have hmodS := hide (MM_calls_some hmod.out hm hlk)
    have hlkH := hide hlk
    clear hmod hlk
    go_upto_region 10 with (go_at_call 6; (with_reducible refine (hmodS.out).mono ?_); rintro ev wB ⟨rfl, hbB⟩)
    clear hmodS
    have belB := hb3.trans (hbB.mono hb3.size)
    have hmk := hide (zzmarks_any F (some ⟨w2.heap.size, 0, none⟩) n n d wB (by rw [belB.tape]; exact hFH.out) (lies_below hLH.out hbB hbkH.out) (hEH.out.below belB) (by omega) (Nat.le_refl _) (by omega) (blk_below hbkH.out hbB))
    go_upto_region 15 with (go_at_call 7; (with_reducible refine (hmk.out).mono ?_); rintro ev wC ⟨hres, hbC⟩; obtain ⟨M, rfl, hM1, hM2, hnd, kk, hown⟩ := MRes_some hres hm)
    have hfl := hide (floor_new hM2 hnd hown)
    have bC := belB.trans (hbC.mono belB.size)
    have hfo := hide (floorOf_any M wC)
    have hz1' := hide (zzfound_any wC.heap.size es s x1 x2 fd (wC.alloc (.cells #[.pointer none, .int .i64 0, .int .i32 0, .int .u32 0, .int .i64 0, .map (some M)] 55)) hfl.out (by unfold maxLen; omega) hlkH.out)
    clear hmk hbC hown hM1
    have bD := below_al (o := .cells #[.pointer none, .int .i64 0, .int .i32 0, .int .u32 0, .int .i64 0, .map (some M)] 55) (Nat.le_refl _) bC
    go_wp2_with (first
      | (go_at_call 9; (with_reducible refine (hfo.out).mono ?_); rintro ev wD ⟨rfl, hwD⟩; rw [hwD]; clear hwD wD)
      | (go_at_call 8; (with_reducible refine (hz1'.out).mono ?_); rintro ev wE ⟨rfl, hbE⟩))
    go_ret
    exact ⟨rfl, bD.trans (hbE.mono bD.size)⟩

set_option maxRecDepth 1000000 in
set_option maxHeartbeats 8000000 in
theorem law4_nil (F : Interp) (s : ByteArray) (w : World) (hF : F.answers w.tape) (hE : Env w) (h2 : (s.size : Int) ≤ 65536) :
    Calls Tryf.prog 3 #[.slice none 0 0, .string s] w (LawPost w) := by
  have hg := hide (guard4_any none 0 0 s w)
  have hFH := hide hF
  have hEH := hide hE
  clear hF hE
  have hm : Pl.marks [] = none := rfl
  go_enter Tryf.func3, Tryf.ntmps3
  go_wp2_with fail
  refine (hg.out).mono ?_
  rintro ev w2 ⟨⟨g, rfl⟩, rfl⟩
  clear hg
  cases g
  · go_wp2_with fail
    go_ret
    exact ⟨rfl, Below.refl _ _⟩
  have hmodN := hide (MM_calls_none (model_nil s w2) hm)
  go_upto_region 10 with (go_at_call 6; (with_reducible refine (hmodN.out).mono ?_); rintro ev wB ⟨rfl, belB⟩)
  clear hmodN
  have hmk := hide (zzmarks_any F none 0 0 [] wB (by rw [belB.tape]; exact hFH.out) ⟨rfl, (fun _ => ⟨rfl, rfl⟩), fun ad had => by cases had⟩ (hEH.out.below belB) (by omega) (Nat.le_refl _) (by omega) (fun a ha => by cases ha))
  go_wp2_with (go_at_call 7; (with_reducible refine (hmk.out).mono ?_); rintro ev wC ⟨hres, hbC⟩; obtain ⟨k2, a2', rfl⟩ := MRes_none hres hm)
  go_ret
  exact ⟨rfl, belB.trans (hbC.mono belB.size)⟩

theorem law4_all (F : Interp) (p : Option Addr) (n c : Nat) (d : List UInt8) (s : ByteArray) (w : World) (hF : F.answers w.tape) (hE : Env w) (hl : d.length = n) (hp : p = none → n = 0 ∧ c = 0) (hr : ∀ ad, p = some ad → ∀ j v, (cellsB d)[j]? = some v → w.cell? (ad.add j) = some v) :
    Calls Tryf.prog 3 #[.slice p n c, .string s] w (LawPost w) := by
  by_cases h : 65536 < (n : Int) ∨ 65536 < (s.size : Int)
  · exact law4_long p n c s w h
  · cases p with
    | none =>
      obtain ⟨rfl, rfl⟩ := hp rfl
      exact law4_nil F s w hF hE (by omega)
    | some ad => exact law4_some F ad n c d s w hF hE hl (hr ad rfl) (by omega) (by omega)
end Go.Proofs.Qxb6608740aFmt
