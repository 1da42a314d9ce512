/-
  SEAT b6608740aD: FnParseMarkReadsWhatIsWritten: THE ROW AND THE TIED CARD, PROVED.
-/
import Derived.Test.Qxb6608740aDoorTie
import Derived.Test.Qxb6608740aDoorCards
import Derived.Test.Qxb6608740aDoorLaw
import Derived.ProofKit
import Derived.OpenShut
import Derived.ShutString
import Derived.LaidMore
import Derived.Lay
import Derived.SevenTiedAt
import Derived.Stop.Joined
import Derived.HandedShaped
import Derived.Below
import Derived.Shelf.Vars
import Derived.DataShut
import Derived.Stop.LaidErr
namespace Go.Proofs.Qxb6608740aDoor
open Go.ChangeShapes Go.WideShapes Go.ChangeAt Go.RowKit
open Go.ChangeMaps (open_string shut_string)

/-- The wrap for a row that lists variables, THE WORLD's SHAPE KEPT. -/
theorem returns_listed_shaped {H : Type} {enc : TypeId × Value → H} {a : Assume} {C : Checked} {os : Os} {f : FuncId} {fn : Func} {s : ChangeSpec} {conds : List PathCond} {apart fresh handsOn again : Bool} {X : World → Array Value → Prop}
    (hX : ∀ (w w' : World) (args : Array Value), w.heap = w'.heap → X w args → X w' args)
    (own : ownKnob C.prog.godebug = none) (started : os.Started) (noInit : C.prog.inits.idxOf? f = none) (hfn : C.prog.funcs[f]? = some fn)
    (witness : ∃ (w : World) (tape : Tape) (i : Input), w.os = os ∧ (w.forCall tape i).Shaped C.prog ∧ i.vars = [] ∧ Input.okWide C.prog (w.forCall tape i) .any w.heap.size f i ∧
      ((s.pre enc C.prog fn conds apart (w.forCall tape i).memory i.args ∧ X (w.forCall tape i).memory i.args) ∧ sizedMet enc C.prog fn (OpenSpec.ofChange s) apart (w.forCall tape i).memory i.args) ∧ a.holds C.prog (lone (Frame.enter C.prog f i.args .normal) [] (w.forCall tape i)))
    (contract : ∀ (W : World) (base : Nat) (args : Array Value) (ds gs : List (DataW H)) (before : List MemPlace),
      (∀ (j : Nat) t v, fn.params[j]? = some t → args[j]? = some v → Value.okWide C.prog W .any base t v) →
      DataW.Whole enc C.prog fn.params.toList s.vars apart W args.toList ds gs before →
      conds.all (PathCond.test C.prog ⟨fn.params.toList, ds, s.plain.varTypes C.prog, gs⟩) = true →
      (DataW.weightsEach C.prog (fn.params.toList ++ s.plain.varTypes C.prog) (ds ++ gs)).all (· ≤ reachBytes) = true → X W args → W.ShapedOpen C.prog →
      Calls C.prog f args W fun e W' => ∃ v, e = .returned v ∧ s.post enc C.prog fn apart fresh handsOn again W args v W') :
    ReturnsInHanded a C os f .any (fun w args => (s.pre enc C.prog fn conds apart w args ∧ X w args) ∧ sizedMet enc C.prog fn (OpenSpec.ofChange s) apart w args) (s.post enc C.prog fn apart fresh handsOn again) := by
  refine returnsInHanded_of_calls own started noInit witness ?_
  intro w tape i _ hsh _ hok hpre _
  obtain ⟨_, _, _, fn', hfn', _, _, _, _, hval⟩ := hok
  have e : fn' = fn := Option.some.inj (hfn'.symm.trans hfn)
  subst e
  obtain ⟨⟨⟨ds, gs, before, hw, hc⟩, hx⟩, hz⟩ := hpre
  have hw' := DataW.Whole.of_heap (w' := w.forCall tape i) (by rfl) hw
  refine (contract (w.forCall tape i) w.heap.size i.args ds gs before hval hw' hc (hz.weights hw) (hX _ _ _ (by rfl) hx) hsh).mono fun e W' ⟨v, he, hp⟩ => ?_
  subst he
  exact ChangeSpec.post_blind hp

/-- What the listed value of a package-level variable of an interface type says of its cell. -/
theorem laid_iface {P : Program} {n nm : String} {d : DataW Unit} {r : List (String × DataW Unit)} {W : World} {g : Nat} {ti : TypeId} {ms : Array (String × TypeId)}
    (h : laidMet P ((n, .iface nm d) :: r) W) (hg : P.globalNamed n = some g) (ht : (P.globals[g]?).map (·.type) = some ti) (hi : P.underlying ti = some (.interface ms)) :
    ∃ v, W.cell? ⟨g, 0, none⟩ = some v ∧ (v = .nilIface ∨ ∃ te pe, v = .iface te pe) := by
  obtain ⟨ps, ⟨g0, t0, cs0, f0, p0, q0, hg0, ht0, hv0, hd0, _, e0⟩, _, _⟩ := h
  obtain rfl := Option.some.inj (hg.symm.trans hg0)
  obtain rfl := Option.some.inj (ht.symm.trans ht0)
  obtain ⟨l0⟩ := cs0
  obtain ⟨f1, u, v, hl, _, _⟩ := iface_of_trod hi hd0
  have hl' : l0 = [.iface u v] := hl
  subst hl'
  exact ⟨_, by simpa using World.var?_cell hg0 hv0 0, .inr ⟨_, _, rfl⟩⟩

theorem own : ownKnob Tryd.prog.godebug = none := by kernel_rfl
theorem env_of {W : World} (hsh : W.ShapedOpen Tryd.prog) (hL : laidMetH Tryd.prog Rows.fnParseMarkReadsWhatIsWrittenRow.laid W) : Env W := by
  rw [MakeChecks.laidMetH_plain _ _ _ (by kernel_rfl)] at hL
  have h4 := (((laidMet.tail (show laidMet Tryd.prog (_ :: _ :: _ :: _ :: ("strconv.ErrRange", Rows.laid_strconv_ErrRange) :: _) W from hL)).tail).tail).tail
  exact ⟨cell_of_shapedOpen_int (zero := #[.int .i64 0]) (t := 3) hsh (of_decide_eq_true (by kernel_rfl)) (by kernel_rfl) rfl (by kernel_rfl) (by kernel_rfl) Tryd.underlying3,
    laid_iface (ti := 45) h4 (by kernel_rfl) (by kernel_rfl) Tryd.underlying45⟩
theorem wf_bounds {n : Int} (h : (Lit.int .i64 n).wf = true) : -9223372036854775808 ≤ n ∧ n ≤ 9223372036854775807 := by
  have h2 := (Lit.wf_int_iff .i64 n).1 h
  exact h2

set_option maxRecDepth 100000 in
theorem lifted (os : Os) (started : os.Started) (H : Type) (enc : TypeId × Value → H) :
    ReturnsInHanded {} Tryd.checked os 4 .any (fun w args => (Rows.fnParseMarkReadsWhatIsWrittenSpec.pre enc Tryd.prog Tryd.f4 Rows.fnParseMarkReadsWhatIsWrittenRow.domain false w args ∧ laidMetH Tryd.prog Rows.fnParseMarkReadsWhatIsWrittenRow.laid w) ∧ sizedMet enc Tryd.prog Tryd.f4 (OpenSpec.ofChange Rows.fnParseMarkReadsWhatIsWrittenSpec) false w args)
      (Rows.fnParseMarkReadsWhatIsWrittenSpec.post enc Tryd.prog Tryd.f4 false true false false) := by
  refine returns_listed_shaped (C := Tryd.checked) (X := fun w _ => laidMetH Tryd.prog Rows.fnParseMarkReadsWhatIsWrittenRow.laid w) (fun _ _ _ hh h => h.of_heap hh) own started (by kernel_rfl) Tryd.func4
    (ChangeSpec.witness_shaped (enc := enc) (C := Tryd.checked) (os := os) (X := fun w _ => laidMetH Tryd.prog Rows.fnParseMarkReadsWhatIsWrittenRow.laid w) false (World.laidAll Tryd.prog os Rows.fnParseMarkReadsWhatIsWrittenRow.laid) #[.string ByteArray.empty, .int .i64 0, .int .i64 0] 8 (World.laidAll_os _ _ _)
      (World.shaped_of_ZipB (by kernel_rfl) (by kernel_rfl)) (by kernel_rfl) (by kernel_rfl) (by kernel_rfl)
      (by rw [MakeChecks.laidMetH_plain _ _ _ (by kernel_rfl)]; exact laidMet_laidAll _ (by kernel_rfl) (by kernel_rfl))) ?_
  intro W base args ds gs before hval0 hW _ _ hL hsh
  have hval : ∀ (j : Nat) t v, Tryd.f4.params[j]? = some t → args[j]? = some v → Value.okWide Tryd.prog W .any base t v := hval0
  have hW' := hW
  obtain ⟨p, q, hA0, hV, rfl, _, _⟩ := hW
  have hA : DataW.TrodAll enc Tryd.prog W 0 (fun _ => true) true Tryd.f4.params.toList args.toList ds p := hA0
  rw [Tryd.params4] at hA hval
  obtain ⟨v0, v1, v2, d0, d1, d2, p0, p1, p2, rfl, rfl, rfl, h0, h1, h2⟩ := trodAll_three hA
  obtain ⟨rfl, rfl⟩ := trodVars_none hV
  obtain ⟨s, rfl, rfl, rfl, ws⟩ := open_string Tryd.underlying9 (hval 0 9 v0 rfl rfl) h0
  obtain ⟨st, rfl, rfl, rfl, w1⟩ := open_int Tryd.underlying2 (hval 1 2 v1 rfl rfl) h1
  obtain ⟨sq, rfl, rfl, rfl, w2⟩ := open_int Tryd.underlying2 (hval 2 2 v2 rfl rfl) h2
  clear hA0 hval0
  simp only [List.append_nil] at hW'
  refine (law_walk s st sq W (env_of hsh hL) (wf_bounds w1).1 (wf_bounds w1).2 (wf_bounds w2).1 (wf_bounds w2).2).mono fun e W' ⟨he, bel⟩ => ?_
  subst he
  exact ⟨_, rfl, _, _, _, [], _, [], hW', trodAll_mk1 (shut_bool Tryd.underlying4 _), trodAll_mk3 (shut_string Tryd.underlying9 ws) (shut_int Tryd.underlying2 w1) (shut_int Tryd.underlying2 w2), rfl, bel.frame _, fun h => by cases h⟩

theorem row_holds : Rows.FnParseMarkReadsWhatIsWrittenSaid :=
  OpenClaim.holds_of_wide 4 Tryd.f4 rfl rfl rfl rfl rfl rfl rfl ⟨rfl, rfl, rfl, rfl, rfl⟩ rfl rfl rfl rfl rfl (by kernel_rfl) Tryd.func4 (by kernel_rfl)
    (of_decide_eq_true (by kernel_rfl)) (by unfold Func.isWrapper; first | (rw [if_pos (by decide +kernel)]; kernel_rfl) | (rw [if_neg (by decide +kernel)]; exact ⟨rfl, rfl⟩))
    (fun os started H enc _ => lifted os started H enc)

/-- ████ THE STATEMENT ████ -/
theorem card_holds : Rows.FnParseMarkReadsWhatIsWrittenCardSaid :=
  Claim7.holds_tied_plain_at .later [] Rows.fnParseMarkReadsWhatIsWrittenCard.laidKinds true Rows.fnParseMarkReadsWhatIsWrittenCard.stood.harness true row_holds (fun _ h => by cases h) (by kernel_rfl) (fun _ h => by cases h) fnParseMarkReadsWhatIsWritten_row_tie rfl ⟨rfl, rfl⟩ (by kernel_rfl) rfl
    (fun f fn hf hfn => by
      obtain rfl : f = 4 := Option.some.inj ((show Tryd.prog.funcNamed Rows.fnParseMarkReadsWhatIsWrittenRow.func = some 4 by kernel_rfl).symm.trans hf) |>.symm
      obtain rfl : fn = Tryd.f4 := (Option.some.inj (Tryd.func4.symm.trans hfn)).symm
      exact ⟨by kernel_rfl, fun j t ht => by
        rw [Tryd.params4] at ht
        have hmem : t ∈ [9, 2, 2] := by simpa using Array.mem_of_getElem? ht
        have hall : ([9, 2, 2].all fun u => !Tryd.prog.wantsStandIn u) = true := by kernel_rfl
        exact (show Tryd.prog.wantsStandIn t = false by simpa using List.all_eq_true.1 hall t hmem)⟩)
    (by kernel_rfl)
#print axioms card_holds
end Go.Proofs.Qxb6608740aDoor
