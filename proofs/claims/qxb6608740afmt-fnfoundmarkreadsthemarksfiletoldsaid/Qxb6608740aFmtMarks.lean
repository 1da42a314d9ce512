/-
  WALK: timeid.parseMarks.
-/
import Derived.Test.Qxb6608740aFmtMaps
import Derived.Test.Qxb6608740aFmtMark
import Derived.Test.Qxb6608740aFmtErrf
import Derived.BigQuiet
namespace Go.Proofs.Qxb6608740aFmt
open Go.RowKit Go.PlainAid Go.Shelf Go.Extern.Stop Go.Stop Go.Extern Go.Maps
attribute [local go_sem] Oper.semAt_some

theorem splitSeq_any (p : Option Addr) (n c : Nat) (q : Addr) (w : World) :
    Calls Tryf.prog 20 #[.slice p n c, .slice (some q) 1 1] w fun e w' => e = .returned (.func (.func 33) #[] #[.pointer (some ⟨w.heap.size + 1, 0, none⟩), .pointer (some ⟨w.heap.size, 0, none⟩), .pointer (some ⟨w.heap.size + 1 + 1, 0, none⟩)]) ∧
      w' = ((w.alloc (.cells #[.slice p n c] 22)).alloc (.cells #[.slice (some q) 1 1] 22)).alloc (.cells #[.int .i64 0] 3) := by
  go_enter Tryf.func20, Tryf.ntmps20
  go_wp2
  go_ret
  exact ⟨rfl, rfl⟩

theorem law9 : Keyed Tryf.prog 9 := string_keyed Tryf.underlying9
theorem zero43 (w : World) : (zeroValue 43).run Tryf.prog w = .ok (.agg #[.int .i64 0, .int .i64 0]) w := by kernel_rfl

theorem fold_app (a b : List (List UInt8)) : ∀ acc : List Pl.Ent, Pl.fold (a ++ b) acc = (match Pl.fold a acc with
    | none => none
    | some es => Pl.fold b es) := by
  induction a with
  | nil => intro acc; rfl
  | cons x t ih =>
    intro acc
    rw [List.cons_append, Pl.fold, Pl.fold]
    by_cases h : Pl.okL x = true ∧ (Pl.pm x).1 ∉ Pl.names acc
    · rw [if_pos h, if_pos h, ih]
    · rw [if_neg h, if_neg h]
theorem lines_len (l : List UInt8) : (Pl.lines l).length ≤ l.length + 1 := by
  induction l with
  | nil => simp [Pl.lines]
  | cons c r ih =>
    rw [Pl.lines]
    split
    · simp; omega
    · cases h : Pl.lines r with
      | nil => simp
      | cons x t => rw [h] at ih; simp at ih ⊢; omega
theorem marks_lines (bd : List UInt8) : Pl.marks (bd ++ [10]) = Pl.fold (Pl.lines bd) [] := by
  unfold Pl.marks; rw [Pl.lnsO_snoc]
theorem pm_len (x : List UInt8) : (Pl.pm x).1.length ≤ x.length := by
  rcases Pl.three_or x with ⟨a, b, c, hx, _, _, _, h⟩ | ⟨_, h⟩
  · rw [h, hx]
    unfold Pl.pm3 Pl.bad
    split
    · split
      · simp
      · split
        · simp
        · simp
    · simp
  · rw [h]; simp [Pl.bad]
theorem own_below {W W' : World} {M k : Nat} {D : DataW Unit} (h : W.ownsMap Tryf.prog 9 mkElem M k D) (hM : M < W.heap.size) (hb : Below W.heap.size W W') : W'.ownsMap Tryf.prog 9 mkElem M k D := by
  obtain ⟨es, clk, hm, hr⟩ := h
  exact ⟨es, clk, (hb.block M hM).trans hm, hr⟩
/-- 'v, ok := m[k]', the value's shape written out. -/
theorem lookup_mark {F : Fence} {nF : Nat} (w : World) {ops : Array Oper} {rest : List Oper} {o : Oper} {a : Act} {Q : Exit → Act → World → Prop} (hg : o.guard = none) (m x : Operand) (hop : o.op = Op.lookup 26 m x true) (b n : Nat) (D : DataW Unit)
    (hm : a.eval m = .map (some b)) (hown : w.ownsMap Tryf.prog 9 mkElem b n D) (key : Value) (kl : Lit) (hx : a.eval x = key) (hkey : keyOf Tryf.prog 9 key = some kl)
    (hK : ∀ s q : Int, D.atKey kl (mkD 0 0) = mkD s q → wpListIn F nF Tryf.prog ops Q rest (a.put o.dst (.tuple #[.agg #[.int .i64 s, .int .i64 q], .bool (Maps.has D kl)])) w) : wpListIn F nF Tryf.prog ops Q (o :: rest) a w :=
  wpListIn_lookup_own_ok w hg m x 26 hop 9 43 law9 Tryf.underlying26 mkElem (zero43 w) (mkD 0 0) [] rfl b n D hm hown key kl hx hkey (fun v ps hv => by
    obtain ⟨s, q, rfl, hz⟩ := mkElem_inv hv
    exact hK s q (congrArg Prod.fst hz))
theorem below_al {B : Nat} {a w : World} {o : Obj} (hB : B ≤ a.heap.size) (h : Below B a w) : Below B a (w.alloc o) := h.alloc (Nat.le_trans hB h.size) _
theorem start_w (w : World) (b o n c : Nat) : ∃ W0, ((((((((w.alloc (.cells #[.map none] 26)).alloc (.cells #[.nilIface] 28)).alloc (.map #[] 0)).alloc (.cells #[.map (some (w.heap.size + 1 + 1))] 26)).alloc (.cells #[.int .u8 10] 5)).alloc (.cells #[.slice (some ⟨b, o, none⟩) n c] 22)).alloc (.cells #[.slice (some ⟨w.heap.size + 1 + 1 + 1 + 1, 0, none⟩) 1 1] 22)).alloc (.cells #[.int .i64 0] 3)) = W0 ∧ W0.heap.size = w.heap.size + 8 ∧ Below w.heap.size w W0 ∧ W0.cell? ⟨w.heap.size, 0, none⟩ = some (.map none) ∧ W0.cell? ⟨w.heap.size + 1, 0, none⟩ = some .nilIface ∧ W0.cell? ⟨w.heap.size + 1 + 1 + 1, 0, none⟩ = some (.map (some (w.heap.size + 1 + 1))) ∧ W0.cell? ⟨w.heap.size + 1 + 1 + 1 + 1, 0, none⟩ = some (.int .u8 10) ∧ W0.cell? ⟨w.heap.size + 1 + 1 + 1 + 1 + 1, 0, none⟩ = some (.slice (some ⟨b, o, none⟩) n c) ∧ W0.cell? ⟨w.heap.size + 1 + 1 + 1 + 1 + 1 + 1, 0, none⟩ = some (.slice (some ⟨w.heap.size + 1 + 1 + 1 + 1, 0, none⟩) 1 1) ∧ W0.cell? ⟨w.heap.size + 1 + 1 + 1 + 1 + 1 + 1 + 1, 0, none⟩ = some (.int .i64 0) ∧ W0.frozen? ⟨w.heap.size, 0, none⟩ = false ∧ W0.frozen? ⟨w.heap.size + 1, 0, none⟩ = false ∧ W0.frozen? ⟨w.heap.size + 1 + 1 + 1 + 1 + 1, 0, none⟩ = false ∧ W0.ownsMap Tryf.prog 9 mkElem (w.heap.size + 1 + 1) 0 (dOf []) := by
  have q := Nat.le_refl w.heap.size
  refine ⟨_, rfl, by simp, below_al q (below_al q (below_al q (below_al q (below_al q (below_al q (below_al q (below_al q (Below.refl w.heap.size w)))))))), by go_simp, by go_simp, by go_simp, by go_simp, by go_simp, by go_simp, by go_simp, by go_simp, by go_simp, by go_simp, ?_⟩
  have h := World.ownsMap_made ((w.alloc (.cells #[.map none] 26)).alloc (.cells #[.nilIface] 28)) Tryf.prog 9 mkElem
  simp only [World.size_alloc] at h
  exact (((((h.alloc _).alloc _).alloc _).alloc _).alloc _)
theorem keeps_below {B : Nat} {W W' : World} (h : Below W.heap.size W W') : KeepsFrom B W W' := ⟨h.size, fun k _ _ hk _ => (h.block k (Array.getElem?_eq_some_iff.1 hk).1).trans hk⟩
theorem cells_below {B : Nat} {W W' : World} (h : Below W.heap.size W W') (hB : B ≤ W.heap.size) : ∀ p : Addr, p.block < B → W'.cell? p = W.cell? p ∧ W'.frozen? p = W.frozen? p := fun p hp =>
  ⟨h.cell (p := p) (by omega), h.frozen (p := p) (by omega)⟩
/-- A store into a map turns no cell. -/
theorem cells_map {W W' : World} {M : Nat} (hg : W.grownBy W' (some M)) {e1 e2 : Array MapEntry} {c1 c2 : Nat} (h1 : W.heap[M]? = some (.map e1 c1)) (h2 : W'.heap[M]? = some (.map e2 c2)) {B : Nat} (hB : B ≤ W.heap.size) : ∀ p : Addr, p.block < B → W'.cell? p = W.cell? p ∧ W'.frozen? p = W.frozen? p := fun p hp => by
  by_cases e : p.block = M
  · constructor
    · unfold World.cell?; rw [e, h1, h2]
    · unfold World.frozen?; rw [e, h1, h2]
  · have hb := hg.block p.block (by omega) (fun e' => e (by cases e'; rfl))
    exact ⟨World.cell?_of_block hb, World.frozen?_of_block hb⟩

/-- What parseMarks hands back. -/
def MRes (d : List UInt8) (N : Nat) (w' : World) (e : Ending) : Prop := match Pl.marks d with
  | none => ∃ k a, e = .returned (.tuple #[.map none, .iface k (.pointer (some a))])
  | some es => ∃ M, e = .returned (.tuple #[.map (some M), .nilIface]) ∧ N ≤ M ∧ M < w'.heap.size ∧ (Pl.names es).Nodup ∧ ∃ k, w'.ownsMap Tryf.prog 9 mkElem M k (dOf es)

/-- Between two rounds. -/
structure LoopI (w : World) (pre : List (List UInt8)) (W : World) : Prop where
  fold : ∃ es, Pl.fold pre [] = some es ∧ (Pl.names es).Nodup ∧ ∃ k, k ≤ pre.length ∧ W.ownsMap Tryf.prog 9 mkElem (w.heap.size + 1 + 1) k (dOf es)
  c0 : W.cell? ⟨w.heap.size, 0, none⟩ = some (.map none)
  f0 : W.frozen? ⟨w.heap.size, 0, none⟩ = false
  c1 : W.cell? ⟨w.heap.size + 1, 0, none⟩ = some .nilIface
  f1 : W.frozen? ⟨w.heap.size + 1, 0, none⟩ = false
  c3 : W.cell? ⟨w.heap.size + 1 + 1 + 1, 0, none⟩ = some (.map (some (w.heap.size + 1 + 1)))
  bel : Below w.heap.size w W
/-- A round has left by 'return'. -/
structure LoopX (w : World) (d : List UInt8) (W : World) : Prop where
  bad : Pl.marks d = none
  c0 : W.cell? ⟨w.heap.size, 0, none⟩ = some (.map none)
  c1 : ∃ k a, W.cell? ⟨w.heap.size + 1, 0, none⟩ = some (.iface k (.pointer (some a)))
  bel : Below w.heap.size w W
theorem stay_below {w W W' : World} {B bs : Nat} (h : Below w.heap.size w W) (hB : w.heap.size ≤ B) (hbs : w.heap.size ≤ bs) (hs : Stay B bs W W') : Below w.heap.size w W' :=
  ⟨hs.os.trans h.os, hs.tape.trans h.tape, hs.output.trans h.output, Nat.le_trans h.size hs.size, fun k hk => (hs.block k (by omega) (by omega)).trans (h.block k hk)⟩
theorem LoopI.stay {w W W' : World} {pre : List (List UInt8)} (h : LoopI w pre W) (hs : Stay (w.heap.size + 8) (w.heap.size + 1 + 1 + 1 + 1 + 1) W W') : LoopI w pre W' := by
  have cc : ∀ k, k < 8 → k ≠ 5 → W'.heap[w.heap.size + k]? = W.heap[w.heap.size + k]? := fun k hk h5 => hs.block _ (by omega) (by omega)
  obtain ⟨es, hf, hn, k, hk, es', clk, hm, hr⟩ := h.fold
  refine ⟨⟨es, hf, hn, k, hk, es', clk, (cc 2 (by omega) (by omega)).trans hm, hr⟩, ?_, ?_, ?_, ?_, ?_, stay_below h.bel (by omega) (by omega) hs⟩
  · exact (World.cell?_of_block (cc 0 (by omega) (by omega))).trans h.c0
  · exact (World.frozen?_of_block (cc 0 (by omega) (by omega))).trans h.f0
  · exact (World.cell?_of_block (cc 1 (by omega) (by omega))).trans h.c1
  · exact (World.frozen?_of_block (cc 1 (by omega) (by omega))).trans h.f1
  · exact (World.cell?_of_block (cc 3 (by omega) (by omega))).trans h.c3
theorem LoopX.stay {w W W' : World} {d : List UInt8} (h : LoopX w d W) (hs : Stay (w.heap.size + 8) (w.heap.size + 1 + 1 + 1 + 1 + 1) W W') : LoopX w d W' := by
  have cc : ∀ k, k < 8 → k ≠ 5 → W'.heap[w.heap.size + k]? = W.heap[w.heap.size + k]? := fun k hk h5 => hs.block _ (by omega) (by omega)
  obtain ⟨k, a, hc1⟩ := h.c1
  exact ⟨h.bad, (World.cell?_of_block (cc 0 (by omega) (by omega))).trans h.c0, ⟨k, a, (World.cell?_of_block (cc 1 (by omega) (by omega))).trans hc1⟩, stay_below h.bel (by omega) (by omega) hs⟩

set_option maxRecDepth 100000 in
set_option maxHeartbeats 4000000 in
theorem marks_ok (F : Interp) (b o n c : Nat) (bd : List UInt8) (w : World) (hF : F.answers w.tape) (hl : bd.length = n) (hr : RowAt w b o (bd ++ [10])) (hE : Env w) (hn : n ≤ 1000000) (hcap : n + 1 ≤ c) (hc : c ≤ 9223372036854775807) (hbk : b < w.heap.size) :
    Calls Tryf.prog 15 #[.slice (some ⟨b, o, none⟩) (n + 1) c] w fun e w' => MRes (bd ++ [10]) w.heap.size w' e ∧ Below w.heap.size w w' := by
  have hlast : w.cell? ⟨b, o + n, none⟩ = some (.int .u8 10) := by
    have h := hr n (by simp; omega)
    have e : Pl.B (bd ++ [10]) n = 10 := by
      have := Pl.B_right bd [10] 0
      rw [Nat.add_zero, hl] at this
      rw [this]; rfl
    rwa [e] at h
  have hrb : Hid (RowAt w b o bd) := hide (RowAt.piece (p := []) (q := bd) (r := [10]) (by simpa using hr))
  have hmm := @run_makeMap Tryf.prog
  have hEH := hide hE
  have hFH := hide hF
  clear hr hE hF
  refine (callsIn_wide (n := 3)).1 ?_
  refine callsIn_of_wp_marks Tryf.func15 rfl trivial ?_ rfl
  simp only [Tryf.ntmps15, List.size_toArray, List.length_cons, List.length_nil, Nat.reduceAdd, Nat.reduceSub, Array.replicate_succ, Array.replicate_zero, List.push_toArray, List.append_toArray, List.nil_append, List.cons_append]
  gi_wp2_with (refine ⟨trivial, ?_⟩; gi_at_call 20; refine (callsIn_wide.2 (splitSeq_any _ _ _ _ _)).mono ?_; rintro e w' ⟨rfl, rfl⟩)
  obtain ⟨W0, hW0, hsz, hbel, k0, k1, k3, k4, k5, k6, k7, z0, z1, z5, hm2⟩ := start_w w b o n c
  rw [hW0]
  clear hW0
  have hszH := hide hsz
  clear hsz
  have e8 : ∀ k, k < 8 → w.heap.size + k < W0.heap.size := fun k hk => by have := hszH.out; omega
  refine range_lines (b := b) (o := o) (m0 := n) (c0 := c) (bp := w.heap.size + 1 + 1 + 1 + 1 + 1 + 1) (bs := w.heap.size + 1 + 1 + 1 + 1 + 1) (bv := w.heap.size + 1 + 1 + 1 + 1 + 1 + 1 + 1) (bq := w.heap.size + 1 + 1 + 1 + 1) (by omega) rfl rfl bd (e8 5 (by omega)) (e8 6 (by omega)) (e8 7 (by omega)) (e8 4 (by omega)) (Nat.lt_of_lt_of_le hbk hbel.size) (by omega) (by omega) (by omega) (by omega) hl hcap hc (hrb.out.below_le hbel hbk) k5 z5 k6 k7 k4
    (LoopI w) (LoopX w (bd ++ [10])) (fun pre W W' h hs => h.stay (by rw [← hszH.out]; exact hs)) (fun W W' h hs => h.stay (by rw [← hszH.out]; exact hs)) ⟨⟨[], rfl, by simp [Pl.names], 0, Nat.le_refl _, hm2⟩, k0, z0, k1, z1, k3, hbel⟩
    (fun v => { tmps := #[.slice (some ⟨b, o, none⟩) (n + 1) c, undef, .pointer (some ⟨w.heap.size, 0, none⟩), .pointer (some ⟨w.heap.size + 1, 0, none⟩), .int .i64 n, .pointer (some ⟨w.heap.size + 1 + 1 + 1, 0, none⟩), v, undef, undef, undef, undef, undef, .slice (some ⟨b, o, none⟩) (n + 1) c, .int .i64 ((n : Int) + 1), .int .i64 n, .int .i64 n, .bool (decide ((n : Int) < 0)), .bool (decide ((n : Int) < 0)), .slice (some ⟨b, o, none⟩) (n + 1) c, .int .i64 n, .pointer (some ⟨b, o + n, none⟩), .int .u8 10, .bool false, .bool (decide ((n : Int) < 0)), undef, undef, undef, undef, .map (some (w.heap.size + 1 + 1)), .slice (some ⟨b, o, none⟩) (n + 1) c, .int .i64 n, .slice (some ⟨b, o, none⟩) n c, .slice (some ⟨w.heap.size + 1 + 1 + 1 + 1, 0, none⟩) 1 1, .func (.func 33) #[] #[.pointer (some ⟨w.heap.size + 1 + 1 + 1 + 1 + 1 + 1, 0, none⟩), .pointer (some ⟨w.heap.size + 1 + 1 + 1 + 1 + 1, 0, none⟩), .pointer (some ⟨w.heap.size + 1 + 1 + 1 + 1 + 1 + 1 + 1, 0, none⟩)], v, undef, undef, undef, undef, undef, undef, undef, undef, undef, undef, undef, undef, undef, undef, undef, undef, undef, undef, undef, undef, undef, undef, undef, undef, undef, undef, undef], defers := [] }) ?assign ?body ?done ?stop
  case assign =>
    intro l v W K hK
    gi_wp2
    exact hK
  case body =>
    rintro l pre x o' W ⟨⟨es, hf, hnd, k, hk, hown⟩, c0, f0, c1, f1, c3, belW⟩ hrx hxl ⟨post, hpost⟩ hszW
    dsimp only
    have hNW : w.heap.size + 8 ≤ W.heap.size := by have := hszH.out; omega
    have hlen : pre.length < 1000001 := by
      have h1 := lines_len bd
      rw [hpost] at h1
      simp at h1
      omega
    obtain ⟨nm, st, sq, ok, hpm⟩ : ∃ nm st sq ok, Pl.pm x = (nm, st, sq, ok) := ⟨_, _, _, _, rfl⟩
    have hbW : b < W.heap.size := Nat.lt_of_lt_of_le hbk belW.size
    have hmk := hide (mark_any b o' x.length x x.length W (hide rfl) hrx (hEH.out.below belW) (by omega) (Nat.le_refl _) (by omega) hbW)
    rw [hpm] at hmk
    have hfoldX : Hid (Pl.fold (Pl.lines bd) [] = (if ok = true ∧ nm ∉ Pl.names es then Pl.fold post (es ++ [(nm, st, sq)]) else none)) := hide (by
      rw [hpost, fold_app, hf]
      simp only
      rw [Pl.fold]
      have e1 : Pl.okL x = ok := by unfold Pl.okL; rw [hpm]
      have e2 : Pl.ent x = (nm, st, sq) := by unfold Pl.ent; rw [hpm]
      rw [e1, e2, hpm])
    have hownH := hide hown
    have hrxH := hide hrx
    have hfH := hide hf
    have hpmH := hide hpm
    clear hown hrx hf hpm
    cases ok with
    | false =>
      have hbad : Hid (Pl.marks (bd ++ [10]) = none) := hide (by rw [marks_lines, hfoldX.out, if_neg (by simp)])
      clear hfoldX
      gi_wp2_with (refine ⟨trivial, ?_⟩; gi_at_call 21; refine (CallsIn.inRound l (callsIn_wide.2 hmk.out)).mono ?_; rintro e W1 ⟨rfl, hb1⟩)
      have hb2 : Below W.heap.size W ((W1.alloc (.cells #[.int .i64 st, .int .i64 sq] 43)).alloc (.cells #[.iface 22 (.slice (some ⟨b, o', none⟩) x.length x.length)] 20)) := below_al (Nat.le_refl _) (below_al (Nat.le_refl _) hb1)
      have hF2 : F.answers ((W1.alloc (.cells #[.int .i64 st, .int .i64 sq] 43)).alloc (.cells #[.iface 22 (.slice (some ⟨b, o', none⟩) x.length x.length)] 20)).tape := by rw [hb2.tape, belW.tape]; exact hFH.out
      have hV : ((W1.alloc (.cells #[.int .i64 st, .int .i64 sq] 43)).alloc (.cells #[.iface 22 (.slice (some ⟨b, o', none⟩) x.length x.length)] 20)).cell? ⟨W1.heap.size + 1, 0, none⟩ = some (.iface 22 (.slice (some ⟨b, o', none⟩) x.length x.length)) := by go_simp
      have hop := op_lies "fmt.errorf" (w := (W1.alloc (.cells #[.int .i64 st, .int .i64 sq] 43)).alloc (.cells #[.iface 22 (.slice (some ⟨b, o', none⟩) x.length x.length)] 20)) (p := some ⟨b, o', none⟩) (n := x.length) (c := x.length) (l := x) ⟨rfl, (fun h => by cases h), fun ad had => ⟨b, o', (Option.some.inj had).symm, hrxH.out.below_le hb2 hbW⟩⟩
      refine ⟨trivial, (CallsIn.inRound l (callsIn_wide.2 (errf1 F _ _ _ hF2 hV hop))).mono ?_⟩
      rintro e W3 ⟨⟨kk, aa, rfl⟩, hb3⟩
      have hb3' : Below W.heap.size W W3 := hb2.trans (hb3.mono hb2.size)
      have d0 := (hb3'.cell (p := ⟨w.heap.size, 0, none⟩) (by show w.heap.size < W.heap.size; omega)).trans c0
      have d1 := (hb3'.cell (p := ⟨w.heap.size + 1, 0, none⟩) (by show w.heap.size + 1 < W.heap.size; omega)).trans c1
      have g0 := (hb3'.frozen (p := ⟨w.heap.size, 0, none⟩) (by show w.heap.size < W.heap.size; omega)).trans f0
      have g1 := (hb3'.frozen (p := ⟨w.heap.size + 1, 0, none⟩) (by show w.heap.size + 1 < W.heap.size; omega)).trans f1
      have belW3 : Below w.heap.size w W3 := belW.trans (hb3'.mono belW.size)
      clear hb1 hb2 hb3 hV hop hF2 hownH hmk
      gi_wp2
      have hne : (⟨w.heap.size + 1, 0, none⟩ : Addr) ≠ ⟨w.heap.size, 0, none⟩ := fun h => by injection h with h _; omega
      exact ⟨(keeps_below hb3').trans (((KeepsOthers.setCell W3 ⟨w.heap.size, 0, none⟩ _).trans (KeepsOthers.setCell _ ⟨w.heap.size + 1, 0, none⟩ _)).from _), hbad.out,
        (World.cell?_setCell_other _ _ _ _ hne).trans (World.cell?_setCell_same _ _ _ d0),
        ⟨kk, aa, World.cell?_setCell_same _ _ _ ((World.cell?_setCell_other _ _ _ _ (Ne.symm hne)).trans d1)⟩,
        (belW3.setCell (p := ⟨w.heap.size, 0, none⟩) (Nat.le_refl _) _).setCell (p := ⟨w.heap.size + 1, 0, none⟩) (Nat.le_succ _) _⟩
    | true =>
      have hnl : nm.length ≤ x.length := by have h := pm_len x; rw [hpmH.out] at h; exact h
      have hkey : keyOf Tryf.prog 9 (.string ⟨nm.toArray⟩) = some (.string nm) := WideMaps.keyOf_string_mk Tryf.underlying9 (by show nm.length ≤ maxLen; unfold maxLen; omega)
      have hMlt : w.heap.size + 1 + 1 < W.heap.size := by omega
      have hlook := Pl.look_has es nm
      have hhas := has_dOf es nm
      by_cases hin : nm ∈ Pl.names es
      · have hdup : Maps.has (dOf es) (.string nm) = true := by rw [hhas]; exact hlook.2 hin
        have hbad : Hid (Pl.marks (bd ++ [10]) = none) := hide (by rw [marks_lines, hfoldX.out, if_neg (fun h => h.2 hin)])
        clear hfoldX hlook hhas
        gi_wp2_with (first
          | (refine ⟨trivial, ?_⟩; gi_at_call 21; refine (CallsIn.inRound l (callsIn_wide.2 hmk.out)).mono ?_; rintro e W1 ⟨rfl, hb1⟩; have hc3 := (hb1.cell (p := ⟨w.heap.size + 1 + 1 + 1, 0, none⟩) (by show w.heap.size + 1 + 1 + 1 < W.heap.size; omega)).trans c3; have hlt1 : w.heap.size + 1 + 1 + 1 < W1.heap.size := Nat.lt_of_lt_of_le (by omega) hb1.size; have hlt2 : w.heap.size + 1 + 1 + 1 < W1.heap.size + 1 := (by omega); have hlt3 : w.heap.size + 1 + 1 + 1 < W1.heap.size + 1 + 1 := (by omega))
          | (gi_at_lookup; refine lookup_mark _ rfl _ _ rfl (w.heap.size + 1 + 1) k (dOf es) rfl (own_below hownH.out hMlt (below_al (Nat.le_refl _) hb1)) _ _ rfl hkey ?_; intro s0 q0 _))
        have hb2 : Below W.heap.size W (((W1.alloc (.cells #[.int .i64 st, .int .i64 sq] 43)).alloc (.cells #[.int .i64 s0, .int .i64 q0] 43)).alloc (.cells #[.iface 9 (.string ⟨nm.toArray⟩)] 20)) := below_al (Nat.le_refl _) (below_al (Nat.le_refl _) (below_al (Nat.le_refl _) hb1))
        have hF2 : F.answers (((W1.alloc (.cells #[.int .i64 st, .int .i64 sq] 43)).alloc (.cells #[.int .i64 s0, .int .i64 q0] 43)).alloc (.cells #[.iface 9 (.string ⟨nm.toArray⟩)] 20)).tape := by rw [hb2.tape, belW.tape]; exact hFH.out
        have hV : (((W1.alloc (.cells #[.int .i64 st, .int .i64 sq] 43)).alloc (.cells #[.int .i64 s0, .int .i64 q0] 43)).alloc (.cells #[.iface 9 (.string ⟨nm.toArray⟩)] 20)).cell? ⟨W1.heap.size + 1 + 1, 0, none⟩ = some (.iface 9 (.string ⟨nm.toArray⟩)) := by go_simp
        have hop : ∃ a b, (FmtStop.operand "fmt.errorf" true 113 false (.iface 9 (.string ⟨nm.toArray⟩))).run Tryf.prog (((W1.alloc (.cells #[.int .i64 st, .int .i64 sq] 43)).alloc (.cells #[.int .i64 s0, .int .i64 q0] 43)).alloc (.cells #[.iface 9 (.string ⟨nm.toArray⟩)] 20)) = .ok (a, b) (((W1.alloc (.cells #[.int .i64 st, .int .i64 sq] 43)).alloc (.cells #[.int .i64 s0, .int .i64 q0] 43)).alloc (.cells #[.iface 9 (.string ⟨nm.toArray⟩)] 20)) := ⟨_, _, Tryf.op9_113w _ _ _⟩
        refine ⟨trivial, (CallsIn.inRound l (callsIn_wide.2 (errf2 F _ _ _ hF2 hV hop))).mono ?_⟩
        rintro e W3 ⟨⟨kk, aa, rfl⟩, hb3⟩
        have hb3' : Below W.heap.size W W3 := hb2.trans (hb3.mono hb2.size)
        have d0 := (hb3'.cell (p := ⟨w.heap.size, 0, none⟩) (by show w.heap.size < W.heap.size; omega)).trans c0
        have d1 := (hb3'.cell (p := ⟨w.heap.size + 1, 0, none⟩) (by show w.heap.size + 1 < W.heap.size; omega)).trans c1
        have g0 := (hb3'.frozen (p := ⟨w.heap.size, 0, none⟩) (by show w.heap.size < W.heap.size; omega)).trans f0
        have g1 := (hb3'.frozen (p := ⟨w.heap.size + 1, 0, none⟩) (by show w.heap.size + 1 < W.heap.size; omega)).trans f1
        have belW3 : Below w.heap.size w W3 := belW.trans (hb3'.mono belW.size)
        clear hb1 hb2 hb3 hV hop hF2 hownH hmk
        gi_wp2
        have hne : (⟨w.heap.size + 1, 0, none⟩ : Addr) ≠ ⟨w.heap.size, 0, none⟩ := fun h => by injection h with h _; omega
        exact ⟨(keeps_below hb3').trans (((KeepsOthers.setCell W3 ⟨w.heap.size, 0, none⟩ _).trans (KeepsOthers.setCell _ ⟨w.heap.size + 1, 0, none⟩ _)).from _), hbad.out,
          (World.cell?_setCell_other _ _ _ _ hne).trans (World.cell?_setCell_same _ _ _ d0),
          ⟨kk, aa, World.cell?_setCell_same _ _ _ ((World.cell?_setCell_other _ _ _ _ (Ne.symm hne)).trans d1)⟩,
          (belW3.setCell (p := ⟨w.heap.size, 0, none⟩) (Nat.le_refl _) _).setCell (p := ⟨w.heap.size + 1, 0, none⟩) (Nat.le_succ _) _⟩
      · have hdup : Maps.has (dOf es) (.string nm) = false := by
          rw [hhas, Bool.eq_false_iff]; exact fun h => hin (hlook.1 h)
        have hfoldN : Hid (Pl.fold (pre ++ [x]) [] = some (es ++ [(nm, st, sq)])) := hide (by
          rw [fold_app, hfH.out]
          simp only
          have e1 : Pl.okL x = true := by unfold Pl.okL; rw [hpmH.out]
          have e2 : Pl.ent x = (nm, st, sq) := by unfold Pl.ent; rw [hpmH.out]
          rw [Pl.fold, e1, e2, hpmH.out, if_pos ⟨rfl, hin⟩]; rfl)
        have hndN : (Pl.names (es ++ [(nm, st, sq)])).Nodup := by
          rw [Pl.names_app, List.nodup_append]
          refine ⟨hnd, by simp [Pl.names], ?_⟩
          intro a ha b hb e
          simp [Pl.names] at hb
          subst hb e
          exact hin ha
        clear hfoldX hlook hhas
        gi_wp2_with (first
          | (refine ⟨trivial, ?_⟩; gi_at_call 21; refine (CallsIn.inRound l (callsIn_wide.2 hmk.out)).mono ?_; rintro e W1 ⟨rfl, hb1⟩; have hc3 := (hb1.cell (p := ⟨w.heap.size + 1 + 1 + 1, 0, none⟩) (by show w.heap.size + 1 + 1 + 1 < W.heap.size; omega)).trans c3; have hlt1 : w.heap.size + 1 + 1 + 1 < W1.heap.size := Nat.lt_of_lt_of_le (by omega) hb1.size; have hlt2 : w.heap.size + 1 + 1 + 1 < W1.heap.size + 1 := (by omega); have hlt3 : w.heap.size + 1 + 1 + 1 < W1.heap.size + 1 + 1 := (by omega))
          | (gi_at_lookup; refine lookup_mark _ rfl _ _ rfl (w.heap.size + 1 + 1) k (dOf es) rfl (own_below hownH.out hMlt (below_al (Nat.le_refl _) hb1)) _ _ rfl hkey ?_; intro s0 q0 _)
          | (gi_at_mapUpdate; refine wpListIn_mapUpdate_own _ rfl _ _ _ 26 rfl 9 43 law9 Tryf.underlying26 mkElem (w.heap.size + 1 + 1) k (dOf es) rfl (own_below hownH.out hMlt (below_al (Nat.le_refl _) (below_al (Nat.le_refl _) hb1))) (by unfold maxLen; omega) _ _ _ rfl rfl hkey _ [] (mkElem_mk st sq) ?_; intro w1 hownN hgrow))
        have hb2 : Below W.heap.size W ((W1.alloc (.cells #[.int .i64 st, .int .i64 sq] 43)).alloc (.cells #[.int .i64 s0, .int .i64 q0] 43)) := below_al (Nat.le_refl _) (below_al (Nat.le_refl _) hb1)
        generalize (W1.alloc (.cells #[.int .i64 st, .int .i64 sq] 43)).alloc (.cells #[.int .i64 s0, .int .i64 q0] 43) = W2 at hb2 hgrow
        obtain ⟨_, _, hm1, _⟩ := own_below hownH.out hMlt hb2
        have hownN' := hownN
        obtain ⟨_, _, hm2, _⟩ := hownN'
        have hcells : ∀ p : Addr, p.block < W0.heap.size → w1.cell? p = W.cell? p ∧ w1.frozen? p = W.frozen? p := fun p hp =>
          ⟨((cells_map hgrow hm1 hm2 (Nat.le_trans hszW hb2.size) p hp).1).trans (cells_below hb2 hszW p hp).1, ((cells_map hgrow hm1 hm2 (Nat.le_trans hszW hb2.size) p hp).2).trans (cells_below hb2 hszW p hp).2⟩
        have n0 := e8 0 (by omega)
        have n1 := e8 1 (by omega)
        have n2 := e8 2 (by omega)
        have n3 := e8 3 (by omega)
        refine ⟨(keeps_below hb2).trans (KeepsFrom.of_grownBy hgrow (fun j e => by cases e; exact n2)), hcells, ⟨_, hfoldN.out, hndN, k + 1, by simp; omega, by rw [dOf_snoc]; exact hownN⟩, ?_, ?_, ?_, ?_, ?_, ?_⟩
        · exact ((hcells ⟨w.heap.size, 0, none⟩ n0).1).trans c0
        · exact ((hcells ⟨w.heap.size, 0, none⟩ n0).2).trans f0
        · exact ((hcells ⟨w.heap.size + 1, 0, none⟩ n1).1).trans c1
        · exact ((hcells ⟨w.heap.size + 1, 0, none⟩ n1).2).trans f1
        · exact ((hcells ⟨w.heap.size + 1 + 1 + 1, 0, none⟩ n3).1).trans c3
        · exact (belW.trans (hb2.mono belW.size)).grown hgrow (Nat.le_trans belW.size hb2.size) (fun j e => by cases e; omega)
  case done =>
    intro D W hD hI hK
    have hD8 : w.heap.size + 8 ≤ D := by have := hszH.out; omega
    clear hszH e8
    obtain ⟨hfold, c0, f0, c1, f1, c3, belW⟩ := hI
    have hfoldH := hide hfold
    clear hfold
    gi_wp2
    obtain ⟨Wd, hWd⟩ : ∃ Wd, (W.setCell ⟨w.heap.size, 0, none⟩ (.map (some (w.heap.size + 1 + 1)))).setCell ⟨w.heap.size + 1, 0, none⟩ .nilIface = Wd := ⟨_, rfl⟩
    have hKd : Wd.heap[D]? = some (.deferred (some [])) := by rw [← hWd]; exact ((KeepsOthers.setCell W ⟨w.heap.size, 0, none⟩ _).trans (KeepsOthers.setCell _ ⟨w.heap.size + 1, 0, none⟩ _)).same D _ hK rfl
    have hne : (⟨w.heap.size + 1, 0, none⟩ : Addr) ≠ ⟨w.heap.size, 0, none⟩ := fun h => by injection h with h _; omega
    have e0 : Wd.cell? ⟨w.heap.size, 0, none⟩ = some (.map (some (w.heap.size + 1 + 1))) := by
      rw [← hWd, World.cell?_setCell_other _ _ _ _ hne]; exact World.cell?_setCell_same _ _ _ c0
    have e1 : Wd.cell? ⟨w.heap.size + 1, 0, none⟩ = some .nilIface := by
      rw [← hWd]; exact World.cell?_setCell_same _ _ _ ((World.cell?_setCell_other _ _ _ _ (Ne.symm hne)).trans c1)
    have hbd : Below w.heap.size w Wd := by rw [← hWd]; exact (belW.setCell (p := ⟨w.heap.size, 0, none⟩) (Nat.le_refl _) _).setCell (p := ⟨w.heap.size + 1, 0, none⟩) (Nat.le_succ _) _
    have hmap : Wd.heap[w.heap.size + 1 + 1]? = W.heap[w.heap.size + 1 + 1]? := by
      rw [← hWd]
      exact (Below.heap_setCell _ _ _ _ (by simp)).trans (Below.heap_setCell _ _ _ _ (by simp; omega))
    rw [hWd]
    clear hWd
    have g0 := (World.cell?_of_block (w := Wd) (w' := Wd.putObj D (.deferred none)) (a := ⟨w.heap.size, 0, none⟩) (World.putObj_heap_other (by show w.heap.size ≠ D; omega))).trans e0
    have g1 := (World.cell?_of_block (w := Wd) (w' := Wd.putObj D (.deferred none)) (a := ⟨w.heap.size + 1, 0, none⟩) (World.putObj_heap_other (by show w.heap.size + 1 ≠ D; omega))).trans e1
    refine ⟨by simp, .inl ⟨_, _, rfl, run_takeDeferred hKd, ?_⟩⟩
    refine ⟨.tuple #[.map (some (w.heap.size + 1 + 1)), .nilIface], by simp [results, Tryf.results15, go_sem, g0, g1], ?_, ?_⟩
    · obtain ⟨es, hf, hnd, k, _, es', clk, hm, hr⟩ := hfoldH.out
      unfold MRes
      rw [marks_lines, hf]
      have hmlt : w.heap.size + 1 + 1 < Wd.heap.size := (Array.getElem?_eq_some_iff.1 (hmap.trans hm)).1
      exact ⟨_, rfl, by omega, by simpa using hmlt, hnd, k, es', clk, (World.putObj_heap_other (by omega)).trans (hmap.trans hm), hr⟩
    · exact hbd.trans (belowK_b (w := w) (Nat.le_refl _) Wd D _ _ (by omega) hKd rfl rfl)
  case stop =>
    intro D W hD hX hK
    have hD8 : w.heap.size + 8 ≤ D := by have := hszH.out; omega
    clear hszH e8
    obtain ⟨hbad, c0, ⟨kk, aa, c1⟩, belW⟩ := hX
    have hbadH := hide hbad
    clear hbad
    gi_wp2
    have g0 := (World.cell?_of_block (w := W) (w' := W.putObj D (.deferred none)) (a := ⟨w.heap.size, 0, none⟩) (World.putObj_heap_other (by show w.heap.size ≠ D; omega))).trans c0
    have g1 := (World.cell?_of_block (w := W) (w' := W.putObj D (.deferred none)) (a := ⟨w.heap.size + 1, 0, none⟩) (World.putObj_heap_other (by show w.heap.size + 1 ≠ D; omega))).trans c1
    refine ⟨by simp, .inl ⟨_, _, rfl, run_takeDeferred hK, ?_⟩⟩
    refine ⟨.tuple #[.map none, .iface kk (.pointer (some aa))], by simp [results, Tryf.results15, go_sem, g0, g1], ?_, ?_⟩
    · unfold MRes
      rw [hbadH.out]
      exact ⟨_, _, rfl⟩
    · exact belW.trans (belowK_b (w := w) (Nat.le_refl _) W D _ _ (by omega) hK rfl rfl)
end Go.Proofs.Qxb6608740aFmt
