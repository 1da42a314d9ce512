/-
  SEAT b6608938aD: FnCompactOpReadsWrittenOp: THE ROW AND THE TIED CARD, PROVED.
-/
import Derived.Test.Qxb6608938aDoorTie
import Derived.Test.Qxb6608938aDoorCards
import Derived.Test.Qxb6608938aDoorMain
import Derived.ChangeSlices
import Derived.Carry
import Derived.Lib.LaidU8T
import Derived.PinnedBridge
import Derived.ProofKit
import Derived.OpenShut
import Derived.ShutString
import Derived.LaidMore
import Derived.Lay
import Derived.SevenTiedAt
import Derived.Stop.Joined
import Derived.HandedShaped
import Derived.Below
import Derived.Shelf.Vars
import Derived.DataShut
namespace Go.Proofs.Qxb6608938aDoor
open Go.ChangeShapes Go.WideShapes Go.ChangeAt Go.RowKit
open Go.ChangeMaps (open_string shut_string)

/-- The wrap for a row that lists variables, THE WORLD's SHAPE KEPT. -/
theorem returns_listed_shaped {H : Type} {enc : TypeId × Value → H} {a : Assume} {C : Checked} {os : Os} {f : FuncId} {fn : Func} {s : ChangeSpec} {conds : List PathCond} {apart fresh handsOn again : Bool} {X : World → Array Value → Prop}
    (hX : ∀ (w w' : World) (args : Array Value), w.heap = w'.heap → X w args → X w' args)
    (own : ownKnob C.prog.godebug = none) (started : os.Started) (noInit : C.prog.inits.idxOf? f = none) (hfn : C.prog.funcs[f]? = some fn)
    (witness : ∃ (w : World) (tape : Tape) (i : Input), w.os = os ∧ (w.forCall tape i).Shaped C.prog ∧ i.vars = [] ∧ Input.okWide C.prog (w.forCall tape i) .any w.heap.size f i ∧
      ((s.pre enc C.prog fn conds apart (w.forCall tape i).memory i.args ∧ X (w.forCall tape i).memory i.args) ∧ sizedMet enc C.prog fn (OpenSpec.ofChange s) apart (w.forCall tape i).memory i.args) ∧ a.holds C.prog (lone (Frame.enter C.prog f i.args .normal) [] (w.forCall tape i)))
    (contract : ∀ (W : World) (base : Nat) (args : Array Value) (ds gs : List (DataW H)) (before : List MemPlace),
      (∀ (j : Nat) t v, fn.params[j]? = some t → args[j]? = some v → Value.okWide C.prog W .any base t v) →
      DataW.Whole enc C.prog fn.params.toList s.vars apart W args.toList ds gs before →
      conds.all (PathCond.test C.prog ⟨fn.params.toList, ds, s.plain.varTypes C.prog, gs⟩) = true →
      (DataW.weightsEach C.prog (fn.params.toList ++ s.plain.varTypes C.prog) (ds ++ gs)).all (· ≤ reachBytes) = true → X W args → W.ShapedOpen C.prog →
      Calls C.prog f args W fun e W' => ∃ v, e = .returned v ∧ s.post enc C.prog fn apart fresh handsOn again W args v W') :
    ReturnsInHanded a C os f .any (fun w args => (s.pre enc C.prog fn conds apart w args ∧ X w args) ∧ sizedMet enc C.prog fn (OpenSpec.ofChange s) apart w args) (s.post enc C.prog fn apart fresh handsOn again) := by
  refine returnsInHanded_of_calls own started noInit witness ?_
  intro w tape i _ hsh _ hok hpre _
  obtain ⟨_, _, _, fn', hfn', _, _, _, _, hval⟩ := hok
  have e : fn' = fn := Option.some.inj (hfn'.symm.trans hfn)
  subst e
  obtain ⟨⟨⟨ds, gs, before, hw, hc⟩, hx⟩, hz⟩ := hpre
  have hw' := DataW.Whole.of_heap (w' := w.forCall tape i) (by rfl) hw
  refine (contract (w.forCall tape i) w.heap.size i.args ds gs before hval hw' hc (hz.weights hw) (hX _ _ _ (by rfl) hx) hsh).mono fun e W' ⟨v, he, hp⟩ => ?_
  subst he
  exact ChangeSpec.post_blind hp

theorem own : ownKnob Tryd.prog.godebug = none := by kernel_rfl
theorem law_all (s : ByteArray) (p1 p2 : Option Addr) (n1 c1 n2 c2 : Nat) (x : Int) (la lr : List UInt8) (w : World) (hT : Lib.Utf8Tabs 0 1 w) (hA : Holds w p1 n1 c1 la) (hB : Holds w p2 n2 c2 lr) :
    Calls Tryd.prog 4 #[.string s, .slice p1 n1 c1, .slice p2 n2 c2, .int .i64 x] w (LawPost w) := by
  by_cases h : 65536 < (s.size : Int) ∨ 65536 < (n1 : Int) ∨ 65536 < (n2 : Int)
  · exact law_long s p1 p2 n1 c1 n2 c2 x w h
  · exact law_main s p1 p2 n1 c1 n2 c2 x la lr w hT hA hB (by omega) (by omega) (by omega)
theorem laidOut : laidOutB Tryd.prog = true := by kernel_rfl
theorem cells5 : Tryd.prog.cellsOf 5 = 1 := by kernel_rfl
def u8ren : Go.Shelf.Ren := ⟨fun n => n, fun | 5 => 5 | 119 => 38 | 138 => 40 | 139 => 41 | n => n, fun | 3 => 0 | 4 => 1 | n => n⟩
theorem u8types : U8Types Tryd.prog u8ren := ⟨Tryd.underlying5, Tryd.underlying38, Tryd.underlying40, Tryd.underlying41⟩
theorem accept_eq : (Rows.laid_unicode_utf8_acceptRanges : DataW Unit) = Lib.acceptData := by kernel_rfl
theorem tabs_of {W : World} (hL : laidMetH Tryd.prog Rows.fnCompactOpReadsWrittenOpRow.laid W) : Lib.Utf8Tabs 0 1 W := by
  rw [MakeChecks.laidMetH_plain _ _ _ (by kernel_rfl)] at hL
  exact utf8Tabs_of_readsT u8types ⟨by kernel_rfl, by kernel_rfl, by kernel_rfl, by kernel_rfl, by kernel_rfl, by kernel_rfl, by kernel_rfl⟩ (Pinned.utf8First_eq ▸ Lib.laidMet.reads hL (.tail _ (.head _))) (accept_eq ▸ Lib.laidMet.reads hL (.head _))
/-- A slice of bytes among the arguments. -/
theorem holds_of {H : Type} {enc : TypeId × Value → H} {W : World} {a : Option Addr} {len cap fuel : Nat} {x : DataW H × List MemPlace} (hlt : ∀ y ∈ x.2, y.block < W.heap.size)
    (h : DataW.trod enc Tryd.prog W 0 (fun _ => true) true fuel 22 [.slice a len cap] = some x) : ∃ l, Holds W a len cap l := by
  rcases open_ints Tryd.underlying22 Tryd.underlying5 cells5 h with ⟨hcs, _⟩ | ⟨a', len', cap', zs, hcs, _, hl, _, hz, hx, hcell, hwz⟩
  · simp at hcs
    obtain ⟨rfl, rfl, rfl⟩ := hcs
    exact ⟨[], rfl, fun _ => ⟨rfl, rfl⟩, .inl rfl⟩
  · simp at hcs
    obtain ⟨rfl, rfl, rfl⟩ := hcs
    have hzl : zs.length = cap := by simpa using hz
    refine ⟨(zs.take len).map fun z => UInt8.ofNat z.toNat, by simp; omega, (fun h => by cases h), ?_⟩
    rcases Nat.eq_zero_or_pos len with h0 | h0
    · exact .inl h0
    · right
      have hc0 := hcell 0 (by omega)
      have hp : a' = ⟨a'.block, a'.off, none⟩ := by
        obtain ⟨ab, ao, sub⟩ := a'
        cases sub with
        | none => rfl
        | some q =>
          exfalso
          simp [World.cell?, Addr.add] at hc0
          split at hc0 <;> cases hc0
      refine ⟨a'.block, a'.off, by rw [← hp], ?_, ?_⟩
      · intro i hi
        simp at hi
        have hc := hcell i (by omega)
        rw [hp, add_at] at hc
        rw [hc]
        have hw := (Lit.wf_int_iff .u8 (zs.getD i 0)).1 (hwz _ (by
          rw [List.getD_eq_getElem?_getD, List.getElem?_eq_getElem (by omega)]; exact List.getElem_mem _))
        have hw' : 0 ≤ zs.getD i 0 ∧ zs.getD i 0 ≤ 255 := hw
        congr 2
        unfold Pl.B
        simp only [List.getD_eq_getElem?_getD] at hw' ⊢
        rw [List.getElem?_map, List.getElem?_take, if_pos (by omega)]
        rw [List.getElem?_eq_getElem (by omega)] at hw' ⊢
        simp only [Option.map_some, Option.getD_some] at hw' ⊢
        rw [UInt8.toNat_ofNat']
        omega
      · exact hlt (.cell a'.block (a'.off + 0)) (by rw [hx]; exact MemPlace.mem_row.2 ⟨0, by omega, rfl⟩)
theorem wf_bounds {n : Int} (h : (Lit.int .i64 n).wf = true) : -9223372036854775808 ≤ n ∧ n ≤ 9223372036854775807 := by
  have h2 := (Lit.wf_int_iff .i64 n).1 h
  exact h2

set_option maxRecDepth 100000 in
theorem lifted (os : Os) (started : os.Started) (H : Type) (enc : TypeId × Value → H) :
    ReturnsInHanded {} Tryd.checked os 4 .any (fun w args => (Rows.fnCompactOpReadsWrittenOpSpec.pre enc Tryd.prog Tryd.f4 Rows.fnCompactOpReadsWrittenOpRow.domain false w args ∧ laidMetH Tryd.prog Rows.fnCompactOpReadsWrittenOpRow.laid w) ∧ sizedMet enc Tryd.prog Tryd.f4 (OpenSpec.ofChange Rows.fnCompactOpReadsWrittenOpSpec) false w args)
      (Rows.fnCompactOpReadsWrittenOpSpec.post enc Tryd.prog Tryd.f4 false true false false) := by
  refine returns_listed_shaped (C := Tryd.checked) (X := fun w _ => laidMetH Tryd.prog Rows.fnCompactOpReadsWrittenOpRow.laid w) (fun _ _ _ hh h => h.of_heap hh) own started (by kernel_rfl) Tryd.func4
    (ChangeSpec.witness_shaped (enc := enc) (C := Tryd.checked) (os := os) (X := fun w _ => laidMetH Tryd.prog Rows.fnCompactOpReadsWrittenOpRow.laid w) false (World.laidAll Tryd.prog os Rows.fnCompactOpReadsWrittenOpRow.laid) #[.string ByteArray.empty, .slice none 0 0, .slice none 0 0, .int .i64 0] 8 (World.laidAll_os _ _ _)
      (World.shaped_of_ZipB (by kernel_rfl) (by kernel_rfl)) (by kernel_rfl) (by kernel_rfl) (by kernel_rfl)
      (by rw [MakeChecks.laidMetH_plain _ _ _ (by kernel_rfl)]; exact laidMet_laidAll _ (by kernel_rfl) (by kernel_rfl))) ?_
  intro W base args ds gs before hval0 hW _ _ hL hsh
  have hval : ∀ (j : Nat) t v, Tryd.f4.params[j]? = some t → args[j]? = some v → Value.okWide Tryd.prog W .any base t v := hval0
  have hW' := hW
  obtain ⟨p, q, hA0, hV, rfl, _, _⟩ := hW
  have hA : DataW.TrodAll enc Tryd.prog W 0 (fun _ => true) true Tryd.f4.params.toList args.toList ds p := hA0
  rw [Tryd.params4] at hA hval
  obtain ⟨v0, v1, v2, v3, d0, d1, d2, d3, p0, p1, p2, p3, rfl, rfl, rfl, h0, h1, h2, h3⟩ := trodAll_four hA
  obtain ⟨rfl, rfl⟩ := trodVars_none hV
  obtain ⟨s, rfl, rfl, rfl, ws⟩ := open_string Tryd.underlying9 (hval 0 9 v0 rfl rfl) h0
  obtain ⟨a1, n1, c1, rfl⟩ := okWide_slice Tryd.underlying22 (hval 1 22 v1 rfl rfl)
  obtain ⟨a2, n2, c2, rfl⟩ := okWide_slice Tryd.underlying22 (hval 2 22 v2 rfl rfl)
  obtain ⟨x, rfl, rfl, rfl, w3⟩ := open_int Tryd.underlying3 (hval 3 3 v3 rfl rfl) h3
  clear hA0 hval0
  simp only [List.append_nil] at hW'
  have hlt : ∀ y ∈ ([] ++ p1 ++ p2 : List MemPlace), y.block < W.heap.size := fun y hy => by simpa using hW'.lt y hy
  have h1k := h1
  have h2k := h2
  obtain ⟨f1, hf1⟩ := h1
  obtain ⟨f2, hf2⟩ := h2
  obtain ⟨la, hA1⟩ := holds_of (fun y hy => hlt y (by simp; exact .inl hy)) hf1
  obtain ⟨lr, hA2⟩ := holds_of (fun y hy => hlt y (by simp; exact .inr hy)) hf2
  have hargs1 : ∀ (W' : World), Below W.heap.size W W' → DataW.Trod enc Tryd.prog W' 0 (fun b => decide (b < W.heap.size)) true 22 (.slice a1 n1 c1) d1 p1 :=
    fun W' hn => Below.trod laidOut (by kernel_rfl) (of_decide_eq_true (by kernel_rfl)) h1k hn (fun y hy => hlt y (by simp; exact .inl hy))
  have hargs2 : ∀ (W' : World), Below W.heap.size W W' → DataW.Trod enc Tryd.prog W' 0 (fun b => decide (b < W.heap.size)) true 22 (.slice a2 n2 c2) d2 p2 :=
    fun W' hn => Below.trod laidOut (by kernel_rfl) (of_decide_eq_true (by kernel_rfl)) h2k hn (fun y hy => hlt y (by simp; exact .inr hy))
  refine (law_all s a1 a2 n1 c1 n2 c2 x la lr W (tabs_of hL) hA1 hA2).mono fun e W' ⟨he, bel⟩ => ?_
  subst he
  exact ⟨_, rfl, _, _, _, [], _, [], hW', trodAll_mk1 (shut_bool Tryd.underlying4 _), trodAll_mk4 (shut_string Tryd.underlying9 ws) (hargs1 _ bel) (hargs2 _ bel) (shut_int Tryd.underlying3 w3), rfl, bel.frame _, fun h => by cases h⟩

theorem row_holds : Rows.FnCompactOpReadsWrittenOpSaid :=
  OpenClaim.holds_of_wide 4 Tryd.f4 rfl rfl rfl rfl rfl rfl rfl ⟨rfl, rfl, rfl, rfl, rfl⟩ rfl rfl rfl rfl rfl (by kernel_rfl) Tryd.func4 (by kernel_rfl)
    (of_decide_eq_true (by kernel_rfl)) (by unfold Func.isWrapper; first | (rw [if_pos (by decide +kernel)]; kernel_rfl) | (rw [if_neg (by decide +kernel)]; exact ⟨rfl, rfl⟩))
    (fun os started H enc _ => lifted os started H enc)

/-- ████ THE STATEMENT ████ -/
theorem card_holds : Rows.FnCompactOpReadsWrittenOpCardSaid :=
  Claim7.holds_tied_plain_at .later [] Rows.fnCompactOpReadsWrittenOpCard.laidKinds true Rows.fnCompactOpReadsWrittenOpCard.stood.harness false row_holds (fun _ h => by cases h) (by kernel_rfl) (fun _ h => by cases h) fnCompactOpReadsWrittenOp_row_tie rfl ⟨rfl, rfl⟩ (by kernel_rfl) rfl
    (fun f fn hf hfn => by
      obtain rfl : f = 4 := Option.some.inj ((show Tryd.prog.funcNamed Rows.fnCompactOpReadsWrittenOpRow.func = some 4 by kernel_rfl).symm.trans hf) |>.symm
      obtain rfl : fn = Tryd.f4 := (Option.some.inj (Tryd.func4.symm.trans hfn)).symm
      exact ⟨by kernel_rfl, fun j t ht => by
        rw [Tryd.params4] at ht
        have hmem : t ∈ [9, 22, 22, 3] := by simpa using Array.mem_of_getElem? ht
        have hall : ([9, 22, 22, 3].all fun u => !Tryd.prog.wantsStandIn u) = true := by kernel_rfl
        exact (show Tryd.prog.wantsStandIn t = false by simpa using List.all_eq_true.1 hall t hmem)⟩)
    (by kernel_rfl)
#print axioms card_holds
end Go.Proofs.Qxb6608938aDoor
