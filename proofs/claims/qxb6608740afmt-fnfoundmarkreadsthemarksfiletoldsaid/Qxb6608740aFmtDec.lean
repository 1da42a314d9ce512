/-
  THE WALK of zzAppendInt: it appends 'dec' of the number to a row of the call's own.
-/
import Derived.Test.Qxb6608740aFmtBase
import Derived.Deep.DeepCutAuto
import Derived.Deep.CutBlock
namespace Go.Proofs.Qxb6608740aFmt
open Go.RowKit Go.PlainAid

theorem Tryf.info5 : (Tryf.prog.info? 5).map (fun i => (i.zero, i.size, i.bytes)) = some (some (.int .u8 0), 1, 1) := by kernel_rfl

def cellsB (l : List UInt8) : List Value := l.map fun c => Value.int .u8 c.toNat
theorem cellsB_len (l : List UInt8) : (cellsB l).length = l.length := by unfold cellsB; simp
theorem cellsB_app (a b : List UInt8) : cellsB (a ++ b) = cellsB a ++ cellsB b := by unfold cellsB; simp
theorem cellsB_get {l : List UInt8} {j : Nat} {u : Value} (h : (cellsB l)[j]? = some u) : j < l.length ∧ u = .int .u8 (Pl.B l j) := by
  unfold cellsB at h
  rw [List.getElem?_map] at h
  cases hj : l[j]? with
  | none => rw [hj] at h; cases h
  | some c =>
    rw [hj] at h
    have hlt := (List.getElem?_eq_some_iff.1 hj).1
    refine ⟨hlt, ?_⟩
    rw [Pl.B_get l j hlt]
    simp only [Option.map_some, Option.some.injEq] at h
    have : l[j] = c := (List.getElem?_eq_some_iff.1 hj).2
    rw [this]; exact h.symm
/-- v owns the bytes l, in a block from 'base' on. -/
def Owns (w : World) (base : Nat) (v : Value) (l : List UInt8) : Prop := w.ownsRow base 5 1 v l.length (cellsB l)
theorem Owns.block {w : World} {base : Nat} {v : Value} {l : List UInt8} (h : Owns w base v l) : ∀ k, v.ownBlock = some k → base ≤ k ∧ k < w.heap.size := by
  intro k hk
  rcases h.2 with ⟨rfl, _⟩ | ⟨g, cap, cur, rfl, hb, hg, _⟩
  · cases hk
  · simp only [Value.ownBlock, Option.some.injEq] at hk
    subst hk
    exact ⟨hb, (Array.getElem?_eq_some_iff.1 hg).1⟩
theorem Owns.below {w w' : World} {base : Nat} {v : Value} {l : List UInt8} (h : Owns w base v l) (hb : Below w.heap.size w w') : Owns w' base v l := by
  refine ⟨h.1, ?_⟩
  rcases h.2 with h0 | ⟨g, cap, cur, hv, hbg, hg, hrest⟩
  · exact .inl h0
  · refine .inr ⟨g, cap, cur, hv, hbg, ?_, hrest⟩
    rw [hb.block g (Array.getElem?_eq_some_iff.1 hg).1]; exact hg
theorem Owns.alloc {w : World} {base : Nat} {v : Value} {l : List UInt8} (h : Owns w base v l) (o : Obj) : Owns (w.alloc o) base v l := World.ownsRow.alloc h o
theorem own_size {w : World} {base : Nat} {v : Value} {l : List UInt8} (h : Owns w base v l) : ∃ a n c, v = .slice a n c ∧ n = l.length := by
  rcases h.2 with ⟨rfl, h0⟩ | ⟨g, cap, cur, rfl, _⟩
  · exact ⟨none, 0, 0, rfl, h0.symm⟩
  · exact ⟨_, _, _, rfl, rfl⟩

theorem dec_step {f u : Nat} {ds tot : List UInt8} (h : Pl.decF (f + 1) u ++ ds = tot) (hu : u / 10 ≠ 0) : Pl.decF f (u / 10) ++ (UInt8.ofNat (48 + u % 10) :: ds) = tot := by
  rw [← h, Pl.decF, if_neg hu]; simp
theorem dec_last {f u : Nat} {ds tot : List UInt8} (h : Pl.decF (f + 1) u ++ ds = tot) (hu : u / 10 = 0) : UInt8.ofNat (48 + u % 10) :: ds = tot := by
  rw [← h, Pl.decF, if_pos hu]; simp

/-- The block N holds twenty cells, none frozen; from cell k on they hold ds. -/
def Buf (w : World) (N k : Nat) (ds : List UInt8) : Prop := (∀ j, j < 20 → ∃ v, w.cell? ⟨N, j, none⟩ = some v) ∧ (∀ j, j < 20 → w.frozen? ⟨N, j, none⟩ = false) ∧ ∀ j, j < ds.length → w.cell? ⟨N, k + j, none⟩ = some (.int .u8 (Pl.B ds j))
theorem Buf.store {w : World} {N k : Nat} {ds : List UInt8} (h : Buf w N (k + 1) ds) (hk : k < 20) (c : UInt8) : Buf (w.setCell ⟨N, k, none⟩ (.int .u8 c.toNat)) N k (c :: ds) := by
  refine ⟨fun j hj => ?_, fun j hj => ?_, fun j hj => ?_⟩
  · by_cases e : j = k
    · subst e
      obtain ⟨v, hv⟩ := h.1 j hj
      exact ⟨_, World.cell?_setCell_same _ _ _ hv⟩
    · obtain ⟨v, hv⟩ := h.1 j hj
      exact ⟨v, (World.cell?_setCell_other _ _ _ _ (fun e2 => by injection e2 with _ e2; omega)).trans hv⟩
  · have := h.2.1 j hj
    simpa using this
  · cases j with
    | zero =>
      obtain ⟨v, hv⟩ := h.1 k hk
      exact World.cell?_setCell_same _ _ _ hv
    | succ j =>
      have := h.2.2 j (by simpa using hj)
      rw [Pl.B_succ]
      rw [show k + (j + 1) = k + 1 + j by omega]
      exact (World.cell?_setCell_other _ _ _ _ (fun e2 => by injection e2 with _ e2; omega)).trans this

theorem dig_int (u : Nat) : ((UInt8.ofNat (48 + u % 10)).toNat : Int) = 48 + (u : Int) % 10 := by rw [Pl.digByte]; omega
theorem pow_div {u k : Nat} (h : u < 10 ^ (k + 1)) : u / 10 < 10 ^ k := by rw [Nat.pow_succ] at h; omega
theorem pow_pos' {u k : Nat} (h : u < 10 ^ k) (hu : u ≠ 0) : 0 < k := by
  rcases Nat.eq_zero_or_pos k with rfl | h1
  · simp at h; omega
  · exact h1

set_option maxRecDepth 100000 in
set_option maxHeartbeats 1000000 in
theorem appendInt_any (base : Nat) (v : Value) (bs : List UInt8) (x : Int) (w : World) (hown : Owns w base v bs) (hbase : base ≤ w.heap.size) (hbs : bs.length ≤ 2097152) (hx0 : -9223372036854775808 ≤ x) (hx1 : x ≤ 9223372036854775807) :
    Calls Tryf.prog 13 #[v, .int .i64 x] w fun e w' => ∃ v', e = .returned v' ∧ Owns w' base v' (bs ++ Pl.dec x) ∧ Below base w w' := by
  obtain ⟨i0, hi, hz0, hz1, hz2⟩ := info_parts Tryf.info5
  have hownH := hide hown
  clear hown
  go_enter Tryf.func13, Tryf.ntmps13
  go_upto_if 9 with fail
  go_cut [0, 5] from 8 to 19 (fun vv uv w' => ∃ (v1 : Value) (u0 : Nat) (bs1 : List UInt8), v1 = vv ∧ uv = .int .u64 u0 ∧ u0 ≤ 9223372036854775808 ∧ Hid (Owns w' base v1 bs1) ∧ base ≤ w'.heap.size ∧ bs1.length ≤ 2097153 ∧ Below base w w' ∧ Hid (bs1 ++ Pl.decF 20 u0 = bs ++ Pl.dec x))
  case first =>
    by_cases hneg : x < 0
    · go_wp2_with (at_builtin; refine wpList_append_own _ rfl _ _ 22 rfl base 5 i0 (.int .u8 0) 1 1 Tryf.underlying22 hi hz0 hz1 hz2 rfl (by decide) _ _ _ rfl (hownH.out.alloc _) ⟨w.heap.size, 0, none⟩ 1 1 [.int .u8 45] rfl rfl ?c1 ?c2 ?c3 ?c4 ?c5 ?_)
      case c1 =>
        intro j u hj
        match j, hj with
        | 0, hj => simp at hj; subst hj; simp [Addr.add]
      case c2 => intro u hu; simp at hu; subst hu; rfl
      case c3 => unfold maxLen; omega
      case c4 => omega
      case c5 => simp; omega
      intro v' w2 hown2 hgrow2 _
      have hown3 : Hid (Owns w2 base v' (bs ++ [45])) := by
        unfold Owns
        rw [cellsB_app, List.length_append]
        exact hown2
      have hbel2 : Below base w w2 := ((Below.refl base w).alloc hbase _).grown hgrow2 (by simp; omega) (fun k hk => (hownH.out.block k hk).1)
      have hdec : Hid (bs ++ [45] ++ Pl.decF 20 ((-x).toNat) = bs ++ Pl.dec x) := by
        unfold Pl.dec
        rw [if_pos hneg]
        exact hide (by simp)
      have hsz2 : base ≤ w2.heap.size := Nat.le_trans hbase hbel2.size
      clear hown2 hgrow2
      go_wp2
      go_meet
      case rel => exact ⟨v', (-x).toNat, bs ++ [45], rfl, by go_num, by omega, hown3, hsz2, by simp; omega, hbel2, hdec⟩
    · have hdec : Hid (bs ++ Pl.decF 20 x.toNat = bs ++ Pl.dec x) := by
        unfold Pl.dec
        rw [if_neg hneg]
        exact hide rfl
      go_wp2
      go_meet
      case rel => exact ⟨v, x.toNat, bs, rfl, by go_num, by omega, hownH, hbase, by omega, Below.refl _ _, hdec⟩
  clear hownH
  obtain ⟨v1, u0, bs1, rfl, rfl, hu0, hown1, hb1, hbs1, hbel1, hdec⟩ := hcut
  go_wp2_with fail
  have hbel2 := (Below.refl wc.heap.size wc).alloc (Nat.le_refl _) (.cells #[.int .u8 0, .int .u8 0, .int .u8 0, .int .u8 0, .int .u8 0, .int .u8 0, .int .u8 0, .int .u8 0, .int .u8 0, .int .u8 0, .int .u8 0, .int .u8 0, .int .u8 0, .int .u8 0, .int .u8 0, .int .u8 0, .int .u8 0, .int .u8 0, .int .u8 0, .int .u8 0] 58)
  go_loopw [5, 7] (fun uv iv wr => ∃ (u k : Nat) (ds : List UInt8), uv = .int .u64 u ∧ iv = .int .i64 ((k : Int) + 1) ∧ k < 20 ∧ u ≤ 9223372036854775808 ∧ Hid (u < 10 ^ (k + 1)) ∧ Hid (Buf wr wc.heap.size (k + 1) ds) ∧ Hid (ds.length + (k + 1) = 20) ∧ Below wc.heap.size wc wr ∧ wc.heap.size < wr.heap.size ∧ Hid (Pl.decF (k + 1) u ++ ds = Pl.decF 20 u0)) (fun _ iv _ => (intOf iv).toNat)
  case atStart =>
    refine ⟨u0, 19, [], rfl, rfl, by omega, hu0, hide (by have := Pl.pow20; omega), ?_, hide rfl, hbel2, by simp, hide (by simp)⟩
    refine ⟨fun j hj => ?_, fun j hj => ?_, fun j hj => by simp at hj⟩
    · rw [World.cell?_alloc_new]
      match j, hj with
      | 0, _ | 1, _ | 2, _ | 3, _ | 4, _ | 5, _ | 6, _ | 7, _ | 8, _ | 9, _ | 10, _ | 11, _ | 12, _ | 13, _ | 14, _ | 15, _ | 16, _ | 17, _ | 18, _ | 19, _ => exact ⟨_, rfl⟩
      | n + 20, hj => exact absurd hj (by omega)
    · exact World.frozen?_alloc_new _ _ _ _
  case round =>
    obtain ⟨u, k, ds, rfl, rfl, hk, hu, hup, hbuf, hdl, hbr, hszr, hdd⟩ := hrel
    obtain ⟨v0, hv0⟩ := hbuf.out.1 k hk
    have hf0 := hbuf.out.2.1 k hk
    have hlen : Tryf.prog.arrayLen 58 = 20 := by kernel_rfl
    have hund : Tryf.prog.underlying 58 = some (.array 20 5) := by kernel_rfl
    have hele : Tryf.prog.elem 58 = 5 := by kernel_rfl
    have hk20 : (k : Int) ≤ ((20 : Nat) : Int) := by omega
    have hk20n : k ≤ 20 := by omega
    have hk20i : (k : Int) ≤ 20 := by omega
    have hk21 : (20 : Nat) ≠ k := by omega
    have hst := hbuf.out.store hk (UInt8.ofNat (48 + u % 10))
    rw [dig_int] at hst
    by_cases hz : u / 10 = 0
    · have hq : (((u : Int) / 10) == 0) = true := beq_iff_eq.2 (by omega)
      have hbelS := hbr.setCell (p := ⟨wc.heap.size, k, none⟩) (Nat.le_refl _) (.int .u8 (48 + (u : Int) % 10))
      have hownS := hide (hown1.out.below hbelS)
      have hds0 := dec_last hdd.out hz
      have hLl0 : (UInt8.ofNat (48 + u % 10) :: ds).length = 20 - k := by have := hdl.out; rw [List.length_cons]; omega
      generalize UInt8.ofNat (48 + u % 10) :: ds = L at hst hds0 hLl0
      have hstH := hide hst
      have hds := hide hds0
      have hLl := hide hLl0
      clear hst hds0 hLl0
      go_wp2_with (at_builtin; refine wpList_append_own _ rfl _ _ 22 rfl base 5 i0 (.int .u8 0) 1 1 Tryf.underlying22 hi hz0 hz1 hz2 rfl (by decide) _ _ _ rfl hownS.out ⟨wc.heap.size, k, none⟩ (20 - k) (20 - k) (cellsB L) rfl ?c0 ?c1 ?c2 ?c3 ?c4 ?c5 ?_)
      case c0 => rw [cellsB_len, Nat.mul_one]; exact hLl.out
      case c1 =>
        intro j u1 hj
        obtain ⟨hj1, rfl⟩ := cellsB_get hj
        rw [show (⟨wc.heap.size, k, none⟩ : Addr).add j = ⟨wc.heap.size, k + j, none⟩ by simp only [Addr.add]; split <;> simp_all]
        exact hstH.out.2.2 j hj1
      case c2 =>
        intro u1 hu1
        obtain ⟨j, hj⟩ := List.getElem?_of_mem hu1
        obtain ⟨_, rfl⟩ := cellsB_get hj
        rfl
      case c3 => unfold maxLen; omega
      case c4 => omega
      case c5 => simp; omega
      intro v' w2 hown2 hgrow2 _
      have hown3 : Owns w2 base v' (bs ++ Pl.dec x) := by
        rw [← hdec.out, ← hds.out]
        unfold Owns
        rw [cellsB_app, List.length_append, hLl.out]
        exact hown2
      have hbel3 : Below base w w2 := (hbel1.trans (hbelS.mono hb1)).grown hgrow2 (by simp; omega) (fun k hk => (hownS.out.block k hk).1)
      clear hown2 hgrow2
      go_wp2_with fail
      exact bodyPost_ret (v := v') (by simp [results, Tryf.results13, go_sem]) rfl ⟨v', rfl, hown3, hbel3⟩
    · have hq : (((u : Int) / 10) == 0) = false := beq_eq_false_iff_ne.2 (by omega)
      have hstH := hide hst
      clear hst
      have hk1 := pow_pos' (pow_div hup.out) hz
      have hup2 := hide (pow_div hup.out)
      have hdd2 : Hid (Pl.decF k (u / 10) ++ (UInt8.ofNat (48 + u % 10) :: ds) = Pl.decF 20 u0) := hide (dec_step hdd.out hz)
      obtain ⟨k', rfl⟩ : ∃ k', k = k' + 1 := ⟨k - 1, by omega⟩
      go_wp2_with fail
      go_roundw
      case rel =>
        refine ⟨u / 10, k', UInt8.ofNat (48 + u % 10) :: ds, rfl, by go_num, by omega, by omega, hup2, hstH, ?_, hbr.setCell (Nat.le_refl _) _, by simpa using hszr, hdd2⟩
        have := hdl.out
        exact hide (by simp only [List.length_cons]; omega)
      case measure => simp [intOf]; omega
end Go.Proofs.Qxb6608740aFmt
