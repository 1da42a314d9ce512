/-
  SEAT b6608740aF: FnFoundMarkReadsTheMarksFile: THE TOLD AND TIED CARD, PROVED.
-/
import Derived.Test.Qxb6608740aFmtTie
import Derived.Test.Qxb6608740aFmtCards
import Derived.Test.Qxb6608740aFmtLaw4
import Derived.ProofKit
import Derived.OpenShut
import Derived.ShutString
import Derived.ChangeSlices
import Derived.Carry
import Derived.LaidMore
import Derived.Lay
import Derived.SevenTiedAt
import Derived.Stop.Joined
import Derived.Stop.JoinedShaped
import Derived.Stop.JoinedTold
import Derived.HandedShaped
import Derived.Below
import Derived.Shelf.Vars
import Derived.DataShut
import Derived.Stop.LaidErr
namespace Go.Proofs.Qxb6608740aFmt
open Go.ChangeShapes Go.WideShapes Go.ChangeAt Go.RowKit
open Go.ChangeMaps (open_string shut_string)
open Go.Extern.Stop Go.Stop Go.Extern

/-- What the listed value of a package-level variable of an interface type says of its cell. -/
theorem laid_iface {P : Program} {n nm : String} {d : DataW Unit} {r : List (String × DataW Unit)} {W : World} {g : Nat} {ti : TypeId} {ms : Array (String × TypeId)}
    (h : laidMet P ((n, .iface nm d) :: r) W) (hg : P.globalNamed n = some g) (ht : (P.globals[g]?).map (·.type) = some ti) (hi : P.underlying ti = some (.interface ms)) :
    ∃ v, W.cell? ⟨g, 0, none⟩ = some v ∧ (v = .nilIface ∨ ∃ te pe, v = .iface te pe) := by
  obtain ⟨ps, ⟨g0, t0, cs0, f0, p0, q0, hg0, ht0, hv0, hd0, _, e0⟩, _, _⟩ := h
  obtain rfl := Option.some.inj (hg.symm.trans hg0)
  obtain rfl := Option.some.inj (ht.symm.trans ht0)
  obtain ⟨l0⟩ := cs0
  obtain ⟨f1, u, v, hl, _, _⟩ := iface_of_trod hi hd0
  have hl' : l0 = [.iface u v] := hl
  subst hl'
  exact ⟨_, by simpa using World.var?_cell hg0 hv0 0, .inr ⟨_, _, rfl⟩⟩

theorem own : ownKnob Tryf.prog.godebug = none := by kernel_rfl
theorem laidOut : laidOutB Tryf.pinned.checked.prog = true := by kernel_rfl
theorem cells5 : Tryf.prog.cellsOf 5 = 1 := by kernel_rfl
theorem stops : Tryf.pinned.checked.prog.stops = ["fmt.errorf"] := by kernel_rfl
theorem stopKnobs : Tryf.pinned.checked.prog.stopKnobs = [] := by kernel_rfl
theorem quiet (os : Os) : Stop.quiet Tryf.pinned.checked.prog os := by
  intro k hk
  rw [stopKnobs] at hk
  cases hk
theorem env_of {W : World} (hsh : W.ShapedOpen Tryf.prog) (hL : laidMetH Tryf.prog Rows.fnFoundMarkReadsTheMarksFileRow.laid W) : Env W := by
  rw [MakeChecks.laidMetH_plain _ _ _ (by kernel_rfl)] at hL
  have h4 := (((laidMet.tail (show laidMet Tryf.prog (_ :: _ :: _ :: _ :: ("strconv.ErrRange", Rows.laid_strconv_ErrRange) :: _) W from hL)).tail).tail).tail
  exact ⟨cell_of_shapedOpen_int (zero := #[.int .i64 0]) (t := 3) hsh (of_decide_eq_true (by kernel_rfl)) (by kernel_rfl) rfl (by kernel_rfl) (by kernel_rfl) Tryf.underlying3,
    laid_iface (ti := 28) h4 (by kernel_rfl) (by kernel_rfl) Tryf.underlying28⟩
theorem wf_bounds {n : Int} (h : (Lit.int .i64 n).wf = true) : -9223372036854775808 ≤ n ∧ n ≤ 9223372036854775807 := by
  have h2 := (Lit.wf_int_iff .i64 n).1 h
  exact h2
/-- A slice of bytes among the arguments. -/
theorem src_of {H : Type} {enc : TypeId × Value → H} {W : World} {a : Option Addr} {len cap fuel : Nat} {x : DataW H × List MemPlace}
    (h : DataW.trod enc Tryf.prog W 0 (fun _ => true) true fuel 22 [.slice a len cap] = some x) :
    ∃ d : List UInt8, d.length = len ∧ (a = none → len = 0 ∧ cap = 0) ∧ ∀ ad, a = some ad → ∀ j v, (cellsB d)[j]? = some v → W.cell? (ad.add j) = some v := by
  rcases open_ints Tryf.underlying22 Tryf.underlying5 cells5 h with ⟨hcs, _⟩ | ⟨a', len', cap', zs, hcs, _, hl, _, hz, hx, hcell, hwz⟩
  · simp at hcs
    obtain ⟨rfl, rfl, rfl⟩ := hcs
    exact ⟨[], rfl, fun _ => ⟨rfl, rfl⟩, fun ad h => by cases h⟩
  · simp at hcs
    obtain ⟨rfl, rfl, rfl⟩ := hcs
    have hzl : zs.length = cap := by simpa using hz
    refine ⟨(zs.take len).map fun z => UInt8.ofNat z.toNat, by simp; omega, (fun h => by cases h), ?_⟩
    intro ad had j v hj
    obtain rfl := Option.some.inj had
    unfold cellsB at hj
    rw [List.map_map, List.getElem?_map] at hj
    obtain ⟨z, hz', rfl⟩ := Option.map_eq_some_iff.1 hj
    obtain ⟨hjl, rfl⟩ := List.getElem?_eq_some_iff.1 hz'
    have hjl' : j < zs.length := by rw [List.length_take] at hjl; omega
    rw [hcell j hjl', List.getElem_take]
    have hw := (Lit.wf_int_iff .u8 zs[j]).1 (hwz _ (List.getElem_mem _))
    have hw' : 0 ≤ zs[j] ∧ zs[j] ≤ 255 := hw
    rw [List.getD_eq_getElem?_getD, List.getElem?_eq_getElem hjl']
    simp only [Option.getD_some, Function.comp]
    rw [UInt8.toNat_ofNat']
    congr 2
    omega

set_option maxRecDepth 100000 in
theorem lifted (os : Os) (started : os.Started) (H : Type) (enc : TypeId × Value → H) :
    ReturnsInStopped none {} Tryf.checked os 3 .any Input.okWide ((OpenSpec.ofChange Rows.fnFoundMarkReadsTheMarksFileSpec).preRow enc Tryf.prog Tryf.f3 Rows.fnFoundMarkReadsTheMarksFileRow.domain false Rows.fnFoundMarkReadsTheMarksFileRow.laid)
      (fun F => ((OpenSpec.ofChange Rows.fnFoundMarkReadsTheMarksFileSpec).at F).post enc Tryf.prog Tryf.f3 false true false false) (aloneAtReturn Tryf.prog) nothingAlways := by
  refine returnsInStopped_of_row_shaped (C := Tryf.checked) (s := OpenSpec.ofChange Rows.fnFoundMarkReadsTheMarksFileSpec) (by kernel_rfl) own started (by kernel_rfl) Tryf.func3 ?wit ?_
  case wit =>
    intro F
    have hok : Input.okWideB Tryf.checked.prog ((World.laidAll Tryf.prog os Rows.fnFoundMarkReadsTheMarksFileRow.laid).forCall (fun _ _ => 0) ⟨#[], #[.slice none 0 0, .string ByteArray.empty], []⟩) 3 ⟨#[], #[.slice none 0 0, .string ByteArray.empty], []⟩ = true := by kernel_rfl
    exact ⟨World.laidAll Tryf.prog os Rows.fnFoundMarkReadsTheMarksFileRow.laid, F.over fun _ _ => 0, ⟨#[], #[.slice none 0 0, .string ByteArray.empty], []⟩, World.laidAll_os _ _ _, World.shaped_of_ZipB (by kernel_rfl) (by kernel_rfl), (Input.okWide_of_okWideB (base := 0) hok).1, (Input.okWide_of_okWideB hok).2,
      OpenSpec.preRow_of_B rfl 8 (by kernel_rfl) (by kernel_rfl) (by rw [MakeChecks.laidMetH_plain _ _ _ (by kernel_rfl)]; exact laidMet_laidAll _ (by kernel_rfl) (by kernel_rfl)), by
        simp only [Assume.holds]
        exact ⟨by simp, by simp, fun _ => F.over_modest Modest.zero, by simp, by simp⟩, F.over_answers _⟩
  intro F W base args ds gs before _ hF hval0 hW _ _ _ hL hsh _
  have hval : ∀ (j : Nat) t v, Tryf.f3.params[j]? = some t → args[j]? = some v → Value.okWide Tryf.prog W .any base t v := hval0
  have hW' := hW
  obtain ⟨p, q, hA0, hV, rfl, _, _⟩ := hW
  have hA : DataW.TrodAll enc Tryf.prog W 0 (fun _ => true) true Tryf.f3.params.toList args.toList ds p := hA0
  rw [Tryf.params3] at hA hval
  obtain ⟨v0, v1, d0, d1, p0, p1, rfl, rfl, rfl, h0, h1⟩ := trodAll_two hA
  obtain ⟨rfl, rfl⟩ := trodVars_none hV
  obtain ⟨a0, n0, c0, rfl⟩ := okWide_slice Tryf.underlying22 (hval 0 22 v0 rfl rfl)
  obtain ⟨s, rfl, rfl, rfl, ws⟩ := open_string Tryf.underlying9 (hval 1 9 v1 rfl rfl) h1
  clear hA0 hval0
  simp only [List.append_nil] at hW'
  have hlt : ∀ y ∈ p0, y.block < W.heap.size := fun y hy => by simpa using hW'.lt y hy
  have h0k := h0
  obtain ⟨f0, hf0⟩ := h0
  obtain ⟨d, hd1, hd2, hd3⟩ := src_of hf0
  have hargs : ∀ (W' : World), Below W.heap.size W W' → DataW.Trod enc Tryf.prog W' 0 (fun b => decide (b < W.heap.size)) true 22 (.slice a0 n0 c0) d0 p0 :=
    fun W' hn => Below.trod laidOut (by kernel_rfl) (of_decide_eq_true (by kernel_rfl)) h0k hn hlt
  refine (law4_all F a0 n0 c0 d s W hF (env_of hsh hL) hd1 hd2 hd3).mono fun e W' ⟨he, bel⟩ => ?_
  subst he
  exact ⟨_, rfl, _, _, _, [], _, [], hW', trodAll_mk1 (shut_bool Tryf.underlying4 _), trodAll_cons_mk (hargs _ bel) (trodAll_mk1 (shut_string Tryf.underlying9 ws)), rfl, bel.frame _, fun h => by cases h⟩

/-- ████ THE STATEMENT ████ -/
theorem card_holds : Rows.FnFoundMarkReadsTheMarksFileToldSaid :=
  Claim7.holds_of_told_tied_any_at .later 3 Tryf.f3 "fmt.errorf" [] [] _ _ _ _ _ (by kernel_rfl) rfl rfl rfl laidOut (by kernel_rfl) rfl ⟨rfl, rfl, rfl, rfl, rfl, rfl, rfl⟩ rfl rfl (by kernel_rfl) (by kernel_rfl) Tryf.func3 (by kernel_rfl)
    (of_decide_eq_true (by kernel_rfl)) (by unfold Func.isWrapper; first | (rw [if_pos (by decide +kernel)]; kernel_rfl) | (rw [if_neg (by decide +kernel)]; exact ⟨rfl, rfl⟩)) stops.symm rfl stopKnobs.symm (by kernel_rfl)
    (by kernel_rfl) (by kernel_rfl) (by kernel_rfl) (by kernel_rfl) (by kernel_rfl) (by kernel_rfl) (by kernel_rfl) (by kernel_rfl) (by kernel_rfl) rfl (by kernel_rfl) rfl rfl
    rfl rfl
    rfl (by kernel_rfl) (by kernel_rfl) (by kernel_rfl) (by decide) (by kernel_rfl) fnFoundMarkReadsTheMarksFile_row_tie
    (OpenClaim.moreEntering_of (by kernel_rfl) (by kernel_rfl) (by kernel_rfl) (by kernel_rfl) (by kernel_rfl) (by kernel_rfl) (by kernel_rfl) (by kernel_rfl) (by kernel_rfl) (by kernel_rfl))
    ⟨_, WideRow.started_initial, quiet _⟩
    (fun os started _ H enc _ => fun F => lifted os started H enc F.told)
#print axioms card_holds
end Go.Proofs.Qxb6608740aFmt
