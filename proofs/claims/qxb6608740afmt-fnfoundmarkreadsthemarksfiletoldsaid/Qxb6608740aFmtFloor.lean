/-
  WALKS: ZZparseMarks, ZZfloorOf, (*Floor).foundMark under its lock, ZZfoundMark.
-/
import Derived.Test.Qxb6608740aFmtMarksB
import Derived.Test.Qxb6608740aFmtLocks
import Derived.Conc.MuLone
import Derived.Maps.OwnSet
import Derived.Deep.QuietTactic
namespace Go.Proofs.Qxb6608740aFmt
open Go.RowKit Go.PlainAid Go.Extern.Stop Go.Stop Go.Extern Go.Maps Go.MuLone

/-- What ZZparseMarks is asked of. -/
theorem marks_any (F : Interp) (p : Option Addr) (n c : Nat) (d : List UInt8) (w : World) (hF : F.answers w.tape) (hL : Lies w p n c d) (hE : Env w) (hn : n ≤ 1000001) (hcap : n ≤ c) (hc : c ≤ 9223372036854775807) (hbk : ∀ a, p = some a → a.block < w.heap.size) :
    Calls Tryf.prog 15 #[.slice p n c] w fun e w' => MRes d w.heap.size w' e ∧ Below w.heap.size w w' := by
  by_cases hd : d.getLast? = some 10
  · obtain ⟨bd, rfl⟩ := Pl.last_split hd
    have hl := hL.1
    rw [List.length_append] at hl
    have hl1 : ([10] : List UInt8).length = 1 := rfl
    cases p with
    | none => have := (hL.2.1 rfl).1; omega
    | some ad =>
      obtain ⟨b, o, rfl, hr⟩ := hL.2.2 ad rfl
      obtain ⟨m, rfl⟩ : ∃ m, n = m + 1 := ⟨n - 1, by omega⟩
      exact marks_ok F b o m c bd w hF (by omega) hr hE (by omega) hcap hc (hbk _ rfl)
  · exact marks_bad F p n c d w hF hL hd hn hbk

set_option maxRecDepth 100000 in
theorem zzmarks_any (F : Interp) (p : Option Addr) (n c : Nat) (d : List UInt8) (w : World) (hF : F.answers w.tape) (hL : Lies w p n c d) (hE : Env w) (hn : n ≤ 1000001) (hcap : n ≤ c) (hc : c ≤ 9223372036854775807) (hbk : ∀ a, p = some a → a.block < w.heap.size) :
    Calls Tryf.prog 7 #[.slice p n c] w fun e w' => MRes d w.heap.size w' e ∧ Below w.heap.size w w' := by
  have hm := hide (marks_any F p n c d w hF hL hE hn hcap hc hbk)
  clear hL hE hF
  unfold MRes at *
  cases hd : Pl.marks d with
  | none =>
    rw [hd] at hm
    go_enter Tryf.func7, Tryf.ntmps7
    go_wp2_with (go_at_call 15; refine (hm.out).mono ?_; rintro e w1 ⟨⟨k, a, rfl⟩, hb1⟩)
    go_ret2
    exact ⟨⟨_, _, rfl⟩, hb1⟩
  | some es =>
    rw [hd] at hm
    go_enter Tryf.func7, Tryf.ntmps7
    go_wp2_with (go_at_call 15; refine (hm.out).mono ?_; rintro e w1 ⟨⟨M, rfl, hM⟩, hb1⟩)
    go_ret2
    exact ⟨⟨M, rfl, hM⟩, hb1⟩

theorem floorOf_any (M : Nat) (w : World) :
    Calls Tryf.prog 9 #[.map (some M)] w fun e w' => e = .returned (.pointer (some ⟨w.heap.size, 0, none⟩)) ∧ w' = w.alloc (.cells #[.pointer none, .int .i64 0, .int .i32 0, .int .u32 0, .int .i64 0, .map (some M)] 55) := by
  go_enter Tryf.func9, Tryf.ntmps9
  go_wp2
  go_ret
  exact ⟨rfl, rfl⟩

/-- A cell that is written and written back: its block lies as it lay. -/
theorem back_block {w W : World} {g i : Nat} {v u : Value} (hc : w.cell? ⟨g, i, none⟩ = some u) (hb : W.heap[g]? = (w.setCell ⟨g, i, none⟩ v).heap[g]?) : (W.setCell ⟨g, i, none⟩ u).heap[g]? = w.heap[g]? := by
  unfold World.cell? at hc
  unfold World.setCell at hb ⊢
  simp only [Array.getElem?_modify] at hb ⊢
  cases hw : w.heap[g]? with
  | none => rw [hw] at hb; rw [hb]; rfl
  | some ob =>
    rw [hw] at hb hc
    rw [hb]
    cases ob with
    | cells cs e fz =>
      simp only [Option.map_some]
      simp at hc
      congr 2
      obtain ⟨hi, hv⟩ := Array.getElem?_eq_some_iff.1 hc
      simp
      rw [← hv]
      apply Array.ext
      · simp
      · intro j h1 h2
        rw [Array.getElem_setIfInBounds]
        split
        · rename_i e; subst e; rfl
        · rfl
    | _ => simp at hc
theorem lookup_mark_p (w : World) {ops : Array Oper} {rest : List Oper} {o : Oper} {a : Act} {Q : Exit → Act → World → Prop} (hg : o.guard = none) (m x : Operand) (hop : o.op = Op.lookup 26 m x true) (b n : Nat) (D : DataW Unit)
    (hm : a.eval m = .map (some b)) (hown : w.ownsMap Tryf.prog 9 mkElem b n D) (key : Value) (kl : Lit) (hx : a.eval x = key) (hkey : keyOf Tryf.prog 9 key = some kl)
    (hK : ∀ s q : Int, D.atKey kl (mkD 0 0) = mkD s q → wpList Tryf.prog ops Q rest (a.put o.dst (.tuple #[.agg #[.int .i64 s, .int .i64 q], .bool (Maps.has D kl)])) w) : wpList Tryf.prog ops Q (o :: rest) a w :=
  wpList_lookup_own_ok w hg m x 26 hop 9 43 law9 Tryf.underlying26 mkElem (zero43 w) (mkD 0 0) [] rfl b n D hm hown key kl hx hkey (fun v ps hv => by
    obtain ⟨s, q, rfl, hz⟩ := mkElem_inv hv
    exact hK s q (congrArg Prod.fst hz))
set_option maxRecDepth 100000 in
set_option maxHeartbeats 1000000 in
theorem found_any (g M k : Nat) (D : DataW Unit) (s : ByteArray) (w : World) (c2 : w.cell? ⟨g, 2, none⟩ = some (.int .i32 0)) (f2 : w.frozen? ⟨g, 2, none⟩ = false) (c5 : w.cell? ⟨g, 5, none⟩ = some (.map (some M))) (hM : M ≠ g) (hown : w.ownsMap Tryf.prog 9 mkElem M k D) (hs : s.size ≤ maxLen) :
    Calls Tryf.prog 16 #[.pointer (some ⟨g, 0, none⟩), .string s] w fun e w' => ∃ a b, e = .returned (.tuple #[.agg #[.int .i64 a, .int .i64 b], .bool (Maps.has D (.string s.data.toList))]) ∧ D.atKey (.string s.data.toList) (mkD 0 0) = mkD a b ∧ Below w.heap.size w w' := by
  have hkey : keyOf Tryf.prog 9 (.string s) = some (.string s.data.toList) := WideMaps.keyOf_string_mk Tryf.underlying9 hs
  have hgl : g < w.heap.size := cell_lt c2
  have hgl1 : g < w.heap.size + 1 := by omega
  go_enter_defers Tryf.func16, Tryf.ntmps16
  have c2a : (w.alloc (.cells #[.int .i64 0, .int .i64 0] 43)).cell? ⟨g, 2, none⟩ = some (.int .i32 0) := (World.cell?_alloc_lt _ _ _ hgl).trans c2
  have f2a : (w.alloc (.cells #[.int .i64 0, .int .i64 0] 43)).frozen? ⟨g, 2, none⟩ = false := (World.frozen?_alloc_old _ _ _ (Nat.ne_of_lt hgl)).trans f2
  have h1 := (hown.setCell (a := ⟨g, 2, none⟩) hM (.int .i32 1)).alloc (.cells #[.int .i64 0, .int .i64 0] 43)
  have h2 := (hown.alloc (.cells #[.int .i64 0, .int .i64 0] 43)).setCell (a := ⟨g, 2, none⟩) hM (.int .i32 1)
  go_wp2_with (first
    | (go_at_call 22; refine (lock_free Tryf.muLib ⟨g, 2, none⟩ _ c2a f2a).mono ?_; rintro e w' ⟨rfl, rfl⟩)
    | (at_lookup; refine lookup_mark_p _ rfl _ _ rfl M k D rfl (by first | exact h1 | exact h2) _ _ rfl hkey ?_; intro s0 q0 hat))
  obtain ⟨W, hW⟩ : ∃ W, ((w.setCell ⟨g, 2, none⟩ (.int .i32 1)).alloc (.cells #[.int .i64 s0, .int .i64 q0] 43)).alloc (.cells #[.int .i64 s0, .int .i64 q0] 43) = W := ⟨_, rfl⟩
  have hsz : w.heap.size + 2 = W.heap.size := by rw [← hW]; simp
  have r0 : W.cell? ⟨w.heap.size, 0, none⟩ = some (.int .i64 s0) := by
    rw [← hW, World.cell?_alloc_lt _ _ _ (by simp)]
    go_simp
  have r1 : W.cell? ⟨w.heap.size, 1, none⟩ = some (.int .i64 q0) := by
    rw [← hW, World.cell?_alloc_lt _ _ _ (by simp)]
    go_simp
  have m2 : W.cell? ⟨g, 2, none⟩ = some (.int .i32 1) := by
    rw [← hW, World.cell?_alloc_lt _ _ _ (by simp; omega), World.cell?_alloc_lt _ _ _ (by simp; omega)]
    exact World.cell?_setCell_same _ _ _ c2
  have z2 : W.frozen? ⟨g, 2, none⟩ = false := by
    rw [← hW, World.frozen?_alloc_old _ _ _ (by simp; omega), World.frozen?_alloc_old _ _ _ (by simp; omega), World.frozen?_setCell]
    exact f2
  have hblk : ∀ j, j < w.heap.size → W.heap[j]? = (w.setCell ⟨g, 2, none⟩ (.int .i32 1)).heap[j]? := fun j hj => by
    rw [← hW]
    exact (Below.heap_alloc _ _ _ (by simp; omega)).trans (Below.heap_alloc _ _ _ (by simp; omega))
  have hbel : Below w.heap.size w (W.setCell ⟨g, 2, none⟩ (.int .i32 0)) := by
    refine ⟨by rw [← hW]; rfl, by rw [← hW]; rfl, by rw [← hW]; rfl, by simp; omega, fun j hj => ?_⟩
    by_cases e : j = g
    · subst e
      exact back_block c2 (hblk j hj)
    · rw [Below.heap_setCell _ _ _ _ e, hblk j hj, Below.heap_setCell _ _ _ _ e]
  have hne : ∀ i, (⟨g, 2, none⟩ : Addr) ≠ ⟨w.heap.size, i, none⟩ := fun i h => by injection h with h _; omega
  have r0' : (W.setCell ⟨g, 2, none⟩ (.int .i32 0)).cell? ⟨w.heap.size, 0, none⟩ = some (.int .i64 s0) := (World.cell?_setCell_other _ _ _ _ (hne 0)).trans r0
  have r1' : (W.setCell ⟨g, 2, none⟩ (.int .i32 0)).cell? ⟨w.heap.size, 1, none⟩ = some (.int .i64 q0) := (World.cell?_setCell_other _ _ _ _ (hne 1)).trans r1
  rw [hW]
  refine leaves_cons (f := 23) (args := #[.pointer (some ⟨g, 2, none⟩)]) (by simp) (by simp [go_sem]) ?_
  refine (unlock_deferred Tryf.muLib ⟨g, 2, none⟩ .returning _ m2 z2).mono ?_
  rintro e u' w'' ⟨rfl, rfl, rfl⟩
  exact ⟨.tuple #[.agg #[.int .i64 s0, .int .i64 q0], .bool (Maps.has D (.string s.data.toList))], by simp [results, Tryf.results16, go_sem, r0', r1'], s0, q0, rfl, hat, hbel⟩

/-- A floor at block g over the map of the marks es. -/
structure FloorAt (w : World) (g : Nat) (es : List Pl.Ent) : Prop where
  c2 : w.cell? ⟨g, 2, none⟩ = some (.int .i32 0)
  f2 : w.frozen? ⟨g, 2, none⟩ = false
  nd : (Pl.names es).Nodup
  own : ∃ M k, w.cell? ⟨g, 5, none⟩ = some (.map (some M)) ∧ M ≠ g ∧ M < w.heap.size ∧ w.ownsMap Tryf.prog 9 mkElem M k (dOf es)
theorem FloorAt.below {w w' : World} {g : Nat} {es : List Pl.Ent} (h : FloorAt w g es) (hb : Below w.heap.size w w') : FloorAt w' g es := by
  obtain ⟨c2, f2, nd, M, k, c5, hne, hM, hown⟩ := h
  have hg : g < w.heap.size := cell_lt c2
  exact ⟨(hb.cell (p := ⟨g, 2, none⟩) hg).trans c2, (hb.frozen (p := ⟨g, 2, none⟩) hg).trans f2, nd, M, k, (hb.cell (p := ⟨g, 5, none⟩) hg).trans c5, hne, Nat.lt_of_lt_of_le hM hb.size, own_below hown hM hb⟩
set_option maxRecDepth 100000 in
theorem zzfound_any (g : Nat) (es : List Pl.Ent) (s : ByteArray) (a b : Int) (fd : Bool) (w : World) (hf : FloorAt w g es) (hs : s.size ≤ maxLen) (hlk : Pl.look es s.data.toList = (a, b, fd)) :
    Calls Tryf.prog 8 #[.pointer (some ⟨g, 0, none⟩), .string s] w fun e w' => e = .returned (.tuple #[.int .i64 a, .int .i64 b, .bool fd]) ∧ Below w.heap.size w w' := by
  obtain ⟨c2, f2, nd, M, k, c5, hne, hM, hown⟩ := hf
  have hh := has_dOf es s.data.toList
  have ha := at_dOf es s.data.toList nd
  rw [hlk] at hh ha
  have hm := hide (found_any g M k (dOf es) s w c2 f2 c5 hne hown hs)
  rw [hh] at hm
  have haH := hide ha
  clear ha hh hown hlk
  go_enter Tryf.func8, Tryf.ntmps8
  go_wp2_with (go_at_call 16; refine (hm.out).mono ?_; rintro e w1 ⟨a', b', rfl, hat, hb1⟩; obtain ⟨rfl, rfl⟩ := mkD_inj (hat.symm.trans haH.out))
  go_quiet (fail)
  go_wp2
  refine bodyPost_ret (v := .tuple #[.int .i64 a', .int .i64 b', .bool fd]) (by simp [results, Tryf.results8, go_sem]) rfl ⟨rfl, ?_⟩
  exact below_drewN (below_al (Nat.le_refl _) hb1) _
end Go.Proofs.Qxb6608740aFmt
