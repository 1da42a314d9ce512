/-
  WALK: the closure that bytes.SplitSeq hands back (bytes.splitSeq$1), inside the wide fence: the lines come one by one.
-/
import Derived.Test.Qxb6608740aFmtBase
import Derived.Test.Qxb6608740aFmtLines
import Derived.RangeFuncNested
import Derived.RangeFuncBound
import Derived.RangeFuncCalls
import Derived.RangeFuncLeaves
import Derived.Shelf.Abstract
import Derived.Shelf.RegionOpen
import Derived.OwnWalkIn
import Derived.TacticsInMore
import Derived.LoopNIn
import Derived.LoopIn
namespace Go.Proofs.Qxb6608740aFmt
open Go.RowKit Go.PlainAid Go.Shelf
attribute [local go_sem] Oper.semAt_some

/-- Where the first newline lies; -1: there is none. -/
def nlI (l : List UInt8) : Int := if (10 : UInt8) ∈ l then (l.idxOf 10 : Int) else -1
def leftIn (bs : Nat) (w : World) : Nat := match w.cell? ⟨bs, 0, none⟩ with
  | some (.slice _ m _) => m
  | _ => 0

set_option maxRecDepth 100000 in
set_option maxHeartbeats 2000000 in
theorem seq_in (hix : ∀ (b o n c bq : Nat) (l : List UInt8) (W : World), l.length = n → RowAt W b o l → W.cell? ⟨bq, 0, none⟩ = some (.int .u8 10) →
      Calls Tryf.prog 35 #[.slice (some ⟨b, o, none⟩) n c, .slice (some ⟨bq, 0, none⟩) 1 1] W fun e W' => e = .returned (.int .i64 (nlI l)) ∧ W' = W)
    (n l bp bs bv bq b o m0 c0 B : Nat) (body : List UInt8) (J : List (List UInt8) → World → Prop) (Jx : World → Prop) (W : World)
    (hn : 1 ≤ n) (hbs : bs < B) (hbp : bp < B) (hbv : bv < B) (hbq : bq < B) (hb : b < B) (hne1 : bs ≠ bp) (hne2 : bs ≠ bv) (hne3 : bs ≠ bq) (hne4 : bs ≠ b)
    (hJs : ∀ pre W v, J pre W → J pre (W.setCell ⟨bs, 0, none⟩ v))
    (hY : ∀ pre x o' W, J pre W → RowAt W b o' x → x.length ≤ m0 → (∃ post, Pl.lines body = pre ++ x :: post) → YieldAt Fence.wide (n - 1) Tryf.prog l #[.slice (some ⟨b, o', none⟩) x.length x.length] W fun e W' =>
      (e = .returned (.bool true) ∧ J (pre ++ [x]) W' ∧ ∀ p : Addr, p.block < B → W'.cell? p = W.cell? p ∧ W'.frozen? p = W.frozen? p) ∨ (e = .returned (.bool false) ∧ Jx W'))
    (hl : body.length = m0) (hc1 : m0 + 1 ≤ c0) (hc2 : c0 ≤ 9223372036854775807)
    (hr : RowAt W b o body) (hcs : W.cell? ⟨bs, 0, none⟩ = some (.slice (some ⟨b, o, none⟩) m0 c0)) (hfs : W.frozen? ⟨bs, 0, none⟩ = false)
    (hcp : W.cell? ⟨bp, 0, none⟩ = some (.slice (some ⟨bq, 0, none⟩) 1 1)) (hcv : W.cell? ⟨bv, 0, none⟩ = some (.int .i64 0)) (hcq : W.cell? ⟨bq, 0, none⟩ = some (.int .u8 10)) (h0 : J [] W) :
    CallsIn Fence.wide n Tryf.prog 33 #[.func (.yield l) #[] #[], .pointer (some ⟨bp, 0, none⟩), .pointer (some ⟨bs, 0, none⟩), .pointer (some ⟨bv, 0, none⟩)] W fun e W' => (∃ v, e = .returned v) ∧
      (J (Pl.lines body) W' ∨ Jx W') := by
  refine callsIn_of_wp Tryf.func33 rfl trivial ?_ rfl
  simp only [Tryf.ntmps33, List.size_toArray, List.length_cons, List.length_nil, Nat.reduceAdd, Nat.reduceSub, Array.replicate_succ, Array.replicate_zero, List.push_toArray, List.append_toArray, List.nil_append, List.cons_append]
  gi_wp2
  gi_loopw [7] (fun _ wr => ∃ (pre : List (List UInt8)) (rest : List UInt8) (o' m c : Nat), Pl.lines body = pre ++ Pl.lines rest ∧ rest.length = m ∧ m ≤ m0 ∧ m + 1 ≤ c ∧ c ≤ 9223372036854775807 ∧ Hid (RowAt wr b o' rest) ∧
      wr.cell? ⟨bs, 0, none⟩ = some (.slice (some ⟨b, o', none⟩) m c) ∧ wr.frozen? ⟨bs, 0, none⟩ = false ∧ wr.cell? ⟨bp, 0, none⟩ = some (.slice (some ⟨bq, 0, none⟩) 1 1) ∧ wr.cell? ⟨bv, 0, none⟩ = some (.int .i64 0) ∧ wr.cell? ⟨bq, 0, none⟩ = some (.int .u8 10) ∧ Hid (J pre wr))
    (fun _ wr => leftIn bs wr)
  case atStart => exact ⟨[], body, o, m0, c0, rfl, hl, Nat.le_refl _, hc1, hc2, hide hr, hcs, hfs, hcp, hcv, hcq, hide h0⟩
  case round =>
    clear hcs hfs hcp hcv hcq hr h0
    obtain ⟨pre, rest, o', m, c, hpre, hlr, hmm, hmc, hcc, hrr, hcs, hfs, hcp, hcv, hcq, hJ⟩ := hrel
    have hrrH := hide hrr
    have hlrH := hide hlr
    have hpreH := hide hpre
    by_cases hin : (10 : UInt8) ∈ rest
    · obtain ⟨x, r, hxr, hx⟩ := List.eq_append_cons_of_mem hin
      have hnl : nlI rest = (x.length : Int) := by
        unfold nlI
        rw [if_pos hin, hxr, List.idxOf_append, if_neg hx, List.idxOf_cons_self]; simp
      subst hxr
      have hxl : x.length + (r.length + 1) = m := by rw [← hlr]; simp
      have hrx : RowAt wr b o' x := RowAt.piece (p := []) (q := x) (r := 10 :: r) (by simpa using hrr.out)
      have hrr2 : RowAt wr b (o' + (x.length + 1)) r := by
        have := RowAt.piece (p := x ++ [10]) (q := r) (r := []) (w := wr) (b := b) (o := o') (by simpa using hrr.out)
        simpa using this
      have hsplit : Pl.lines body = pre ++ x :: Pl.lines r := by rw [hpre, Pl.lines_app, Pl.lines_none x hx]; rfl
      obtain ⟨fn, tmps, assign, bdy, hy, hR⟩ := hY pre x o' wr hJ.out hrx (by omega) ⟨_, hsplit⟩
      generalize hxk : x.length = k at *
      have hkc : c ≠ k + 1 := by omega
      have hk1 : (k : Int) ≤ c := by omega
      have hk2 : (k : Int) + 1 ≤ m := by omega
      have hRH := hide hR
      have hrr2H := hide hrr2
      clear hlr hrr hpre hR hrx hrr2 hpreH
      gi_wp2_with (refine ⟨trivial, ?_⟩; gi_at_call 35; refine (callsIn_wide.2 (hix b o' m c bq _ _ hlrH.out hrrH.out.out hcq)).mono ?_; rintro e W' ⟨rfl, rfl⟩; rw [hnl])
      refine hRH.out.mono ?_
      rintro e W3 (⟨rfl, hJ3, hk3⟩ | ⟨rfl, hJx3⟩)
      · have hcs3 := ((hk3 ⟨bs, 0, none⟩ hbs).1).trans hcs
        have hfs3 := ((hk3 ⟨bs, 0, none⟩ hbs).2).trans hfs
        have hcp3 := ((hk3 ⟨bp, 0, none⟩ hbp).1).trans hcp
        have hcv3 := ((hk3 ⟨bv, 0, none⟩ hbv).1).trans hcv
        have hcq3 := ((hk3 ⟨bq, 0, none⟩ hbq).1).trans hcq
        have hrr3 : Hid (RowAt W3 b (o' + (k + 1)) r) := hide fun i hi => ((hk3 ⟨b, o' + (k + 1) + i, none⟩ hb).1).trans (hrr2H.out i hi)
        have hlm : leftIn bs W' = m := by unfold leftIn; rw [hcs]
        have hJ3H := hide hJ3
        clear hJ3 hk3
        gi_wp2
        have hsame : ∀ v, (W3.setCell ⟨bs, 0, none⟩ v).cell? ⟨bs, 0, none⟩ = some v := fun v => World.cell?_setCell_same _ _ _ hcs3
        have hoth : ∀ v (p : Addr), bs ≠ p.block → (W3.setCell ⟨bs, 0, none⟩ v).cell? p = W3.cell? p := fun v p h => World.cell?_setCell_other _ _ _ _ (fun e => h (by rw [← e]))
        refine ⟨⟨pre ++ [x], r, o' + (k + 1), m - (k + 1), c - (k + 1), ?_, by omega, by omega, by omega, by omega, hide fun i hi => (hoth _ ⟨b, _, none⟩ hne4).trans (hrr3.out i hi), hsame _, (World.frozen?_setCell _ _ _ _).trans hfs3, (hoth _ ⟨bp, 0, none⟩ hne1).trans hcp3, (hoth _ ⟨bv, 0, none⟩ hne2).trans hcv3, (hoth _ ⟨bq, 0, none⟩ hne3).trans hcq3, hide (hJs _ _ _ hJ3H.out)⟩, ?_⟩
        · rw [hsplit]; simp
        · rw [hlm]; unfold leftIn; rw [hsame]; show m - (k + 1) < m; omega
      · gi_wp2
        exact bodyPost_ret (v := .tuple #[]) (results_none rfl _ _ _) rfl ⟨⟨_, rfl⟩, .inr hJx3⟩
    · have hnl : nlI rest = -1 := by unfold nlI; rw [if_neg hin]
      have hone := Pl.lines_none rest hin
      rw [hone] at hpre
      obtain ⟨fn, tmps, assign, bdy, hy, hR⟩ := hY pre rest o' wr hJ.out hrr.out (by omega) ⟨[], hpre⟩
      rw [hlr] at hy
      have hRH := hide hR
      clear hlr hrr hpreH hR
      gi_wp2_with (refine ⟨trivial, ?_⟩; gi_at_call 35; refine (callsIn_wide.2 (hix b o' m c bq rest _ hlrH.out hrrH.out.out hcq)).mono ?_; rintro e W' ⟨rfl, rfl⟩; rw [hnl])
      refine hRH.out.mono ?_
      rintro e W3 (⟨rfl, hJ3, hk3⟩ | ⟨rfl, hJx3⟩)
      · gi_wp2
        go_end0
        exact ⟨⟨_, rfl⟩, .inl (by rw [hpre]; exact hJ3)⟩
      · gi_wp2
        go_end0
        exact ⟨⟨_, rfl⟩, .inr hJx3⟩
end Go.Proofs.Qxb6608740aFmt
