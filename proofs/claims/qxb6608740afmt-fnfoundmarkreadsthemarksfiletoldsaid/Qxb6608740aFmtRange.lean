/-
  THE STATEMENT 'for line := range bytes.SplitSeq(..)' (its iterator keeps what is left in a cell of its own): out of the loop's body and the iterator's walk.
-/
import Derived.Test.Qxb6608740aFmtSeq
import Derived.Test.Qxb6608740aFmtShelf
import Derived.Maps.OwnIn
import Derived.Maps.OwnSet
namespace Go.Proofs.Qxb6608740aFmt
open Go.RowKit Go.PlainAid Go.Shelf

/-- Whatever lies below B, but for block bs, lies as it lay. -/
structure Stay (B bs : Nat) (w w' : World) : Prop where
  os : w'.os = w.os
  tape : w'.tape = w.tape
  output : w'.output = w.output
  size : w.heap.size ≤ w'.heap.size
  block : ∀ k, k < B → k ≠ bs → w'.heap[k]? = w.heap[k]?
theorem Stay.of_below {B bs : Nat} {w w' : World} (h : Below B w w') : Stay B bs w w' := ⟨h.os, h.tape, h.output, h.size, fun k hk _ => h.block k hk⟩
theorem Stay.putObj {B bs : Nat} (w : World) {l : Nat} (hl : B ≤ l) (o : Obj) : Stay B bs w (w.putObj l o) :=
  ⟨rfl, rfl, rfl, by simp, fun k hk _ => World.putObj_heap_other (by omega)⟩
theorem Stay.setCell {B bs : Nat} (w : World) (v : Value) : Stay B bs w (w.setCell ⟨bs, 0, none⟩ v) := by
  have h := grownBy_setCell' w bs v
  exact ⟨h.os, h.tape, h.output, h.size, fun k _ hne => by
    rcases Nat.lt_or_ge k w.heap.size with hk | hk
    · exact h.block k hk (fun e => hne (by cases e; rfl))
    · rw [Array.getElem?_eq_none hk, Array.getElem?_eq_none (by
        have : (w.setCell ⟨bs, 0, none⟩ v).heap.size = w.heap.size := by simp
        omega)]⟩

/-- How a round's body may be left. -/
def linePost (B : Nat) (I : List (List UInt8) → World → Prop) (Ix : World → Prop) (xs : List (List UInt8)) (W : World) : Exit → Act → World → Prop
  | .normal, _, W' => KeepsFrom B W W' ∧ (∀ p : Addr, p.block < B → W'.cell? p = W.cell? p ∧ W'.frozen? p = W.frozen? p) ∧ I xs W'
  | .ret, _, W' => KeepsFrom B W W' ∧ Ix W'
  | _, _, _ => False

theorem index_call (b o n c bq : Nat) (l : List UInt8) (W : World) (hl : l.length = n) (hr : RowAt W b o l) (hq : W.cell? ⟨bq, 0, none⟩ = some (.int .u8 10)) :
    Calls Tryf.prog 35 #[.slice (some ⟨b, o, none⟩) n c, .slice (some ⟨bq, 0, none⟩) 1 1] W fun e W' => e = .returned (.int .i64 (nlI l)) ∧ W' = W := by
  have h := Tryf.bytes_Index_one b o n c bq 0 1 (l.map fun x => (x.toNat : Int)) 10 W (by rw [List.length_map]; exact hl) (fun i hi => by
    rw [hr i (by omega), Pl.B_get l i (by omega), List.getD_eq_getElem?_getD, List.getElem?_map, List.getElem?_eq_getElem (by omega)]; rfl) hq
  refine h.mono ?_
  rintro e W' ⟨rfl, rfl⟩
  refine ⟨?_, rfl⟩
  have hb : Lib.bytesOf (l.map fun x => (x.toNat : Int)) = l := by
    unfold Lib.bytesOf
    rw [List.map_map]
    conv => rhs; rw [← List.map_id l]
    refine List.map_congr_left fun c _ => ?_
    simp
  have hi : ∀ l : List UInt8, Lib.indexByte l 10 = nlI l := by
    intro l
    induction l with
    | nil => rfl
    | cons x r ih =>
      rw [Lib.indexByte, ih]
      unfold nlI
      by_cases hx : x = 10
      · subst hx; simp
      · rw [if_neg (by simpa using hx)]
        have hx2 : (x == 10) = false := by simpa using hx
        by_cases hm : (10 : UInt8) ∈ r
        · have h1 : (10 : UInt8) ∈ x :: r := List.mem_cons_of_mem _ hm
          rw [if_pos hm, if_pos h1, List.idxOf_cons, hx2]
          rw [if_neg (by simp)]
          simp
        · have h1 : ¬ (10 : UInt8) ∈ x :: r := by
            rw [List.mem_cons, not_or]; exact ⟨fun e => hx e.symm, hm⟩
          rw [if_neg hm, if_neg h1]; rfl
  rw [hb, ← hi l]; rfl
/-- ████ THE STATEMENT ████ -/
theorem range_lines {g : Operand} {ps : Array Tmp} {assign body : Code} {Q : Exit → Act → World → Prop} {a : Act} {w : World} {n : Nat} (h1 : 3 ≤ n) (hps : ps.size = 1)
    {bp bs bv bq b o m0 c0 : Nat} (hg : a.eval g = .func (.func 33) #[] #[.pointer (some ⟨bp, 0, none⟩), .pointer (some ⟨bs, 0, none⟩), .pointer (some ⟨bv, 0, none⟩)]) (bd : List UInt8)
    (hbs : bs < w.heap.size) (hbp : bp < w.heap.size) (hbv : bv < w.heap.size) (hbq : bq < w.heap.size) (hb : b < w.heap.size) (hne1 : bs ≠ bp) (hne2 : bs ≠ bv) (hne3 : bs ≠ bq) (hne4 : bs ≠ b)
    (hl : bd.length = m0) (hc1 : m0 + 1 ≤ c0) (hc2 : c0 ≤ 9223372036854775807)
    (hr : RowAt w b o bd) (hcs : w.cell? ⟨bs, 0, none⟩ = some (.slice (some ⟨b, o, none⟩) m0 c0)) (hfs : w.frozen? ⟨bs, 0, none⟩ = false)
    (hcp : w.cell? ⟨bp, 0, none⟩ = some (.slice (some ⟨bq, 0, none⟩) 1 1)) (hcv : w.cell? ⟨bv, 0, none⟩ = some (.int .i64 0)) (hcq : w.cell? ⟨bq, 0, none⟩ = some (.int .u8 10))
    (I : List (List UInt8) → World → Prop) (Ix : World → Prop) (hI : ∀ pre W W', I pre W → Stay w.heap.size bs W W' → I pre W') (hIx : ∀ W W', Ix W → Stay w.heap.size bs W W' → Ix W') (h0 : I [] w)
    (a₁ : Value → Act)
    (hassign : ∀ (l : Nat) (v : Value) (W : World) (K : Act → World → Prop), K (a₁ v) W →
      assign.wpIn (Fence.wide.inRound l) (n - 1 - 1) Tryf.prog (Exit.then K (fun _ _ _ => False)) { tmps := (ps.zip #[v]).foldl (fun t (p, v) => t.setIfInBounds p v) a.tmps, defers := [] } W)
    (hbody : ∀ (l : Nat) (pre : List (List UInt8)) (x : List UInt8) (o' : Nat) (W : World), I pre W → RowAt W b o' x → x.length ≤ m0 → (∃ post, Pl.lines bd = pre ++ x :: post) → w.heap.size ≤ W.heap.size →
      body.wpIn (Fence.wide.inRound l) (n - 1 - 1) Tryf.prog (linePost w.heap.size I Ix (pre ++ [x]) W) (a₁ (.slice (some ⟨b, o', none⟩) x.length x.length)) W)
    (hdone : ∀ (D : Nat) (W : World), w.heap.size ≤ D → I (Pl.lines bd) W → W.heap[D]? = some (.deferred (some [])) → Q .normal { a with defers := { target := .collected D, args := #[] } :: a.defers } W)
    (hstop : ∀ (D : Nat) (W : World), w.heap.size ≤ D → Ix W → W.heap[D]? = some (.deferred (some [])) → Code.ret.wpIn Fence.wide n Tryf.prog Q { a with defers := { target := .collected D, args := #[] } :: a.defers } W) :
    (Code.rangeFunc g ps assign body).wpIn Fence.wide n Tryf.prog Q a w := by
  refine wpIn_rangeFunc fun fn hfn => ?_
  obtain ⟨rec, hrec⟩ : ∃ rec : LoopState → Option Code → Loop, rec = fun st pe => { state := st, pending := pe, fn, tmps := a.tmps, params := ps, assign, body, defers := w.heap.size } := ⟨_, rfl⟩
  obtain ⟨W1, hW1⟩ : ∃ W1, (w.alloc (.deferred (some []))).alloc (.loop (rec .ready none)) = W1 := ⟨_, rfl⟩
  have hbel : Below w.heap.size w W1 := by rw [← hW1]; exact ((Below.refl _ w).alloc (Nat.le_refl _) _).alloc (by simp) _
  have hLp : W1.heap[w.heap.size + 1]? = some (.loop (rec .ready none)) := by
    rw [← hW1]; have := World.alloc_heap_new (w.alloc (.deferred (some []))) (.loop (rec .ready none)); rwa [World.size_alloc] at this
  have hDf : W1.heap[w.heap.size]? = some (.deferred (some [])) := by
    rw [← hW1]; exact (Below.heap_alloc _ _ _ (by simp)).trans (World.alloc_heap_new w _)
  refine ⟨w.heap.size + 1, [{ target := .collected w.heap.size, args := #[] }], W1, { target := .fn (.func 33) #[.pointer (some ⟨bp, 0, none⟩), .pointer (some ⟨bs, 0, none⟩), .pointer (some ⟨bv, 0, none⟩)], args := #[.func (.yield (w.heap.size + 1)) #[] #[]] }, W1, 33,
    #[.func (.yield (w.heap.size + 1)) #[] #[]] ++ #[.pointer (some ⟨bp, 0, none⟩), .pointer (some ⟨bs, 0, none⟩), .pointer (some ⟨bv, 0, none⟩)], W1, ?_, ?_, fun _ _ => trivial, ?_, fun _ => by omega, ?_⟩
  · rw [← hW1, hrec]; exact run_enterLoop_outer _ _ _ _ _
  · simp only [resolve, hg]
    simp [go_sem]
  · simp [invoke, go_sem]
  have cK : ∀ {p : Addr}, p.block < w.heap.size → W1.cell? p = w.cell? p := fun h => hbel.cell h
  refine (seq_in index_call (n - 1) (w.heap.size + 1) bp bs bv bq b o m0 c0 w.heap.size bd
    (fun pre W => I pre W ∧ W.heap[w.heap.size + 1]? = some (.loop (rec .ready none)) ∧ W.heap[w.heap.size]? = some (.deferred (some [])))
    (fun W => Ix W ∧ W.heap[w.heap.size + 1]? = some (.loop (rec .done (some .ret))) ∧ W.heap[w.heap.size]? = some (.deferred (some [])))
    W1 (by omega) hbs hbp hbv hbq hb hne1 hne2 hne3 hne4 ?_ ?_ hl hc1 hc2 (hr.below_le hbel hb) ((cK hbs).trans hcs) ((hbel.frozen hbs).trans hfs) ((cK hbp).trans hcp) ((cK hbv).trans hcv) ((cK hbq).trans hcq) ⟨hI _ _ _ h0 (.of_below hbel), hLp, hDf⟩).mono ?_
  · -- the iterator's own store
    rintro pre W v ⟨hi, hl', hd⟩
    have hg' := grownBy_setCell' W bs v
    refine ⟨hI _ _ _ hi (.setCell W v), ?_, ?_⟩
    · exact (hg'.block _ (Array.getElem?_eq_some_iff.1 hl').1 (fun e => by cases e; omega)).trans hl'
    · exact (hg'.block _ (Array.getElem?_eq_some_iff.1 hd).1 (fun e => by cases e; omega)).trans hd
  · -- one round
    rintro pre x o' W ⟨hi, hlp, hdf⟩ hrx hxl hpost
    have hlt : w.heap.size + 1 < W.heap.size := (Array.getElem?_eq_some_iff.1 hlp).1
    have hy := run_yield (P := Tryf.prog) (args := #[.slice (some ⟨b, o', none⟩) x.length x.length]) hlp (by rw [hrec]; exact hps.symm)
    rw [hrec] at hy
    refine ⟨fn, _, assign, body, hy, roundIn_of_wpIn hfn (hassign _ _ W _ ⟨_, run_beginRound hlp (by rw [hrec]), ?_⟩)⟩
    obtain ⟨Wb, hWb⟩ : ∃ Wb, W.putObj (w.heap.size + 1) (.loop { rec .ready none with state := .busy }) = Wb := ⟨_, rfl⟩
    rw [hWb]
    have hst : Stay w.heap.size bs W Wb := by rw [← hWb]; exact .putObj W (by omega) _
    have hlb : Wb.heap[w.heap.size + 1]? = some (.loop { rec .ready none with state := .busy }) := by rw [← hWb]; exact World.putObj_heap_same hlt
    have hdb : Wb.heap[w.heap.size]? = some (.deferred (some [])) := by rw [← hWb]; exact (World.putObj_heap_other (by omega)).trans hdf
    have hcb : ∀ p : Addr, p.block < w.heap.size → Wb.cell? p = W.cell? p ∧ Wb.frozen? p = W.frozen? p := fun p hp => by
      have e : Wb.heap[p.block]? = W.heap[p.block]? := by rw [← hWb]; exact World.putObj_heap_other (by omega)
      exact ⟨World.cell?_of_block e, World.frozen?_of_block e⟩
    have hsz : w.heap.size ≤ Wb.heap.size := by rw [← hWb]; simp; omega
    refine wpIn_mono (hbody _ pre x o' Wb (hI _ _ _ hi hst) (fun i hi' => ((hcb ⟨b, o' + i, none⟩ hb).1).trans (hrx i hi')) hxl hpost hsz) ?_
    have fin : ∀ (jump : Option Code) (W3 : World), KeepsFrom w.heap.size Wb W3 →
        (Instr.endRound (w.heap.size + 1) jump).run Tryf.prog W3 = .ok (.bool jump.isNone) (W3.putObj (w.heap.size + 1) (.loop (rec (if jump.isNone then .ready else .done) jump))) ∧
        (W3.putObj (w.heap.size + 1) (.loop (rec (if jump.isNone then .ready else .done) jump))).heap[w.heap.size + 1]? = some (.loop (rec (if jump.isNone then .ready else .done) jump)) ∧
        (W3.putObj (w.heap.size + 1) (.loop (rec (if jump.isNone then .ready else .done) jump))).heap[w.heap.size]? = some (.deferred (some [])) := fun jump W3 hk3 => by
      have hl3 := hk3.same _ _ (by omega) hlb rfl
      have hrun := run_endRound (P := Tryf.prog) jump hl3
      rw [hrec] at hrun ⊢
      exact ⟨hrun, World.putObj_heap_same (Array.getElem?_eq_some_iff.1 hl3).1, (World.putObj_heap_other (by omega)).trans (hk3.same _ _ (Nat.le_refl _) hdb rfl)⟩
    rintro e a3 W3 hp
    cases e with
    | normal =>
      obtain ⟨hk3, hc3, hi3⟩ := hp
      obtain ⟨hrun, hl4, hd4⟩ := fin none W3 hk3
      refine ⟨_, _, hrun, .inl ⟨rfl, ⟨hI _ _ _ hi3 (.putObj W3 (by omega) _), hl4, hd4⟩, fun p hp => ?_⟩⟩
      have e : (W3.putObj (w.heap.size + 1) (.loop (rec (if (none : Option Code).isNone then .ready else .done) none))).heap[p.block]? = W3.heap[p.block]? := World.putObj_heap_other (by omega)
      exact ⟨(World.cell?_of_block e).trans (((hc3 p hp).1).trans (hcb p hp).1), (World.frozen?_of_block e).trans (((hc3 p hp).2).trans (hcb p hp).2)⟩
    | ret =>
      obtain ⟨hk3, hi3⟩ := hp
      obtain ⟨hrun, hl4, hd4⟩ := fin (some .ret) W3 hk3
      exact ⟨_, _, hrun, .inr ⟨rfl, hIx _ _ hi3 (.putObj W3 (by omega) _), hl4, hd4⟩⟩
    | exit id => exact hp.elim
    | goto t => exact hp.elim
    | panic ch => exact hp.elim
    | outgrown => exact hp.elim
  · -- behind the iterator
    rintro e W2 ⟨⟨v, rfl⟩, (⟨hi, hlp, hdf⟩ | ⟨hi, hlp, hdf⟩)⟩
    · exact ⟨none, _, by have := run_endLoop (P := Tryf.prog) hlp (by rw [hrec]; simp); rw [hrec] at this; exact this, hdone _ _ (Nat.le_refl _) (hI _ _ _ hi (.putObj W2 (by omega) _)) ((World.putObj_heap_other (by omega)).trans hdf)⟩
    · exact ⟨some .ret, _, by have := run_endLoop (P := Tryf.prog) hlp (by rw [hrec]; simp); rw [hrec] at this; exact this, hstop _ _ (Nat.le_refl _) (hIx _ _ hi (.putObj W2 (by omega) _)) ((World.putObj_heap_other (by omega)).trans hdf)⟩
end Go.Proofs.Qxb6608740aFmt
