/-
  WHAT THE ROW's LISTED VARIABLES SAY OF THE WORLD: Env.
-/
import Derived.Test.Qxb6606304aDoorRows
import Derived.Test.Qxb6606304aDoorLaw2
import Derived.Lib.LaidU8
namespace Go.Proofs.Qxb6606304aDoor
open Go.RowKit Go.PlainAid Go.Lib

theorem c4 : Tryd.prog.cellsOf 4 = 1 := by kernel_rfl
theorem c23 : Tryd.prog.cellsOf 23 = 1 := by kernel_rfl
theorem c26 : Tryd.prog.cellsOf 26 = 1 := by kernel_rfl
theorem c56 : Tryd.prog.cellsOf 56 = 1 := by kernel_rfl
theorem c139 : Tryd.prog.cellsOf 139 = 2 := by kernel_rfl

theorem trod_float {H : Type} {enc : TypeId × Value → H} {P : Program} {w : World} {base : Nat} {spare : Nat → Bool} {held : Bool} {fuel : Nat} {t : TypeId} {cs : List Value} {x : DataW H × List MemPlace} {k : FloatKind} (ht : P.underlying t = some (.float k)) (h : DataW.trod enc P w base spare held fuel t cs = some x) : ∃ n, cs = [.float k n] ∧ x = (.lit (.float k n), []) := by
  cases fuel with
  | zero => simp [DataW.trod] at h
  | succ n =>
    unfold DataW.trod at h
    rw [ht] at h
    split at h <;> simp_all

theorem opt_of {w : World} {n : String} (hn : Tryd.prog.globalNamed n = some 3) (h : VarReads Tryd.prog w n (.lit (.bool true))) : w.cell? ⟨3, 0, none⟩ = some (.bool true) := by
  obtain ⟨g, t, cs, fuel, p, hg, hty, hvar, hd⟩ := h
  obtain rfl := Option.some.inj (hn.symm.trans hg)
  obtain rfl := Option.some.inj ((show (Tryd.prog.globals[3]?).map (·.type) = some 4 by kernel_rfl).symm.trans hty)
  obtain ⟨b, hc, hx⟩ := DataW.trod_bool Tryd.underlying4 hd
  cases hx
  rw [World.var?_cell hg hvar 0, ← Array.getElem?_toList, hc]
  rfl

theorem inf_of {w : World} {n : String} (hn : Tryd.prog.globalNamed n = some 4) (h : VarReads Tryd.prog w n Rows.laid_internal_strconv_float64info) : w.cell? ⟨4, 0, none⟩ = some (.int .u64 52) := by
  obtain ⟨g, t, cs, fuel, p, hg, hty, hvar, hd⟩ := h
  obtain rfl := Option.some.inj (hn.symm.trans hg)
  obtain rfl := Option.some.inj ((show (Tryd.prog.globals[4]?).map (·.type) = some 88 by kernel_rfl).symm.trans hty)
  obtain ⟨xs, n, rfl, hx, _, hxl, hall⟩ := DataW.trod_struct Tryd.underlying88 hd
  have h0 := hall 0 _ rfl
  have hxs : xs.map (·.1) = [.lit (.int .u64 52), .lit (.int .u64 11), .lit (.int .i64 (-1023))] := by
    have := congrArg Prod.fst hx
    simpa [Rows.laid_internal_strconv_float64info] using this.symm
  obtain ⟨b, hb⟩ : ∃ b, xs[0]? = some b := ⟨xs[0]'(by rw [hxl]; decide), List.getElem?_eq_getElem _⟩
  have hb1 : b.1 = .lit (.int .u64 52) := by
    have := congrArg (·[0]?) hxs
    simpa [hb] using this
  rw [hb] at h0
  change DataW.trod _ _ _ _ _ _ _ 56 ((cs.toList.drop 0).take (Tryd.prog.cellsOf 56)) = some b at h0
  rw [c56] at h0
  obtain ⟨z, hz, rfl, _⟩ := DataW.trod_int Tryd.underlying56 h0
  cases hb1
  rw [World.var?_cell hg hvar 0, ← Array.getElem?_toList]
  have := congrArg (·[0]?) hz
  simpa [List.getElem?_take, List.getElem?_drop] using this

theorem pow_of {w : World} {n : String} (hn : Tryd.prog.globalNamed n = some 9) (h : VarReads Tryd.prog w n (.slice (Fl.pbs.map fun b => .lit (.float .f64 b)) [])) : ∃ b o c, w.cell? ⟨9, 0, none⟩ = some (.slice (some ⟨b, o, none⟩) 23 c) ∧ ∀ k, k < 23 → w.cell? ⟨b, o + k, none⟩ = some (.float .f64 (Fl.pb k)) := by
  obtain ⟨g, t, cs, fuel, p, hg, hty, hvar, hd⟩ := h
  obtain rfl := Option.some.inj (hn.symm.trans hg)
  obtain rfl := Option.some.inj ((show (Tryd.prog.globals[9]?).map (·.type) = some 132 by kernel_rfl).symm.trans hty)
  rcases DataW.trod_slice Tryd.underlying132 hd with ⟨_, hx⟩ | ⟨a, len, cap, el, rs, m, rfl, hc0, hx, _, hlc, _, hel, helem, hsp, _⟩
  · cases hx
  have e0 := congrArg Prod.fst hx
  simp only [DataW.slice.injEq] at e0
  obtain ⟨eE, eR⟩ := e0
  have hlen : len = 23 := by
    have := congrArg List.length eE
    rw [List.length_map, List.length_map, hel] at this
    exact this.symm
  subst hlen
  have hk : ∀ k, k < 23 → w.cell? (a.add k) = some (.float .f64 (Fl.pb k)) := fun k hk => by
    have h1 := helem k hk
    rw [c26, Nat.mul_one] at h1
    obtain ⟨b, hb⟩ : ∃ b, el[k]? = some b := ⟨el[k]'(by omega), List.getElem?_eq_getElem (by omega)⟩
    rw [hb] at h1
    obtain ⟨ce, hce, hte⟩ := Option.bind_eq_some_iff.1 h1
    obtain ⟨z, hz, rfl⟩ := trod_float Tryd.underlying26 hte
    have h2 := congrArg (·[k]?) eE
    simp only [List.getElem?_map, hb, Option.map_some] at h2
    obtain ⟨y, hy, hyz⟩ := Option.map_eq_some_iff.1 h2
    cases hyz
    have hpb : Fl.pb k = z := by
      unfold Fl.pb
      rw [List.getD_eq_getElem?_getD, hy]; rfl
    obtain ⟨_, _, hcc⟩ := World.cells?_some hce
    have h3 := hcc 0 (by omega)
    rw [hz] at h3
    rw [hpb]
    simpa [Addr.add] using h3
  obtain ⟨R, oR, sR⟩ := a
  obtain rfl : sR = none := by
    have h00 := hk 0 (by omega)
    have : (Addr.add ⟨R, oR, sR⟩ 0) = ⟨R, oR, sR⟩ := by simp [Addr.add]
    rw [this] at h00
    exact cell_spot h00
  refine ⟨R, oR, cap, ?_, fun k h => ?_⟩
  · rw [World.var?_cell hg hvar 0, ← Array.getElem?_toList, hc0]
    rfl
  · have := hk k h
    rwa [Addr.add_lit] at this

theorem tab_of {w : World} {n : String} (hn : Tryd.prog.globalNamed n = some 11) (h : VarReads Tryd.prog w n Go.Pinned.pow10Tab) : TabW w := by
  intro p h1 h2
  obtain ⟨g, t, cs, fuel, pp, hg, hty, hvar, hd⟩ := h
  obtain rfl := Option.some.inj (hn.symm.trans hg)
  obtain rfl := Option.some.inj ((show (Tryd.prog.globals[11]?).map (·.type) = some 140 by kernel_rfl).symm.trans hty)
  obtain ⟨i, hi⟩ : ∃ i, (p + 348).toNat = i := ⟨_, rfl⟩
  have hi2 : i < 696 := by omega
  obtain ⟨fuel', d, q, hdi, he⟩ := array_elem Tryd.underlying140 hd i hi2
  rw [List.getElem?_map] at hdi
  obtain ⟨y, hy, rfl⟩ := Option.map_eq_some_iff.1 hdi
  rw [c139] at he
  have hcs := ints_of_struct (zs := [(y.1 : Int), (y.2 : Int)]) Tryd.underlying139 (fun j f hj => by
      match j, hj with
      | 0, hj => simp at hj; subst hj; exact ⟨Tryd.underlying23, rfl, c23⟩
      | 1, hj => simp at hj; subst hj; exact ⟨Tryd.underlying23, rfl, c23⟩
      | j + 2, hj => simp at hj) (by rw [c139]; rfl) he
  have hH : Fl.hiT p = y.1 := by
    unfold Fl.hiT
    rw [hi, List.getD_eq_getElem?_getD, hy]; rfl
  have hL : Fl.loT p = y.2 := by
    unfold Fl.loT
    rw [hi, List.getD_eq_getElem?_getD, hy]; rfl
  rw [hi, hH, hL]
  have e0 := congrArg (·[0]?) hcs
  have e1 := congrArg (·[1]?) hcs
  simp only [List.getElem?_take, List.getElem?_drop] at e0 e1
  constructor
  · rw [World.var?_cell hg hvar (i * 2), ← Array.getElem?_toList]
    simpa using e0
  · rw [World.var?_cell hg hvar (i * 2 + 1), ← Array.getElem?_toList]
    simpa using e1

theorem reads_at {W : World} {l : List (String × DataW Unit)} (hL : laidMet Tryd.prog l W) (i : Nat) {x : String × DataW Unit} (h : l[i]? = some x) : VarReads Tryd.prog W x.1 x.2 :=
  laidMet.reads hL (List.mem_of_getElem? h)
theorem env_of {W : World} (hL : laidMet Tryd.prog Rows.fnReadFastPathRow.laid W) : Env W where
  tab := tab_of (by kernel_rfl) (reads_at hL 13 rfl)
  opt := opt_of (by kernel_rfl) (reads_at hL 4 rfl)
  inf := inf_of (by kernel_rfl) (reads_at hL 3 rfl)
  pow := pow_of (by kernel_rfl) (reads_at hL 6 rfl)
end Go.Proofs.Qxb6606304aDoor
