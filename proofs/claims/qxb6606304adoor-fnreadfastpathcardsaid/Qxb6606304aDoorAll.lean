/-
  JOINED: what zzFastPath answers at any string, and that Read then gives the law's own float.
-/
import Derived.Test.Qxb6606304aDoorMsw
import Derived.Test.Qxb6606304aDoorFast
import Derived.Test.Qxb6606304aDoorJoin
namespace Go.Proofs.Qxb6606304aDoor
open Go.RowKit Go.PlainAid
set_option linter.unusedSimpArgs false

/-- r is the float that the law asks for: of the number d at the power p. -/
structure Want (d : Nat) (p : Int) (r : Nat) : Prop where
  le : r ≤ 9218868437227405312
  op : ∀ s, Fl.opB p (wd s (Fl.rungOf d 0)) = some (wd s r)
  z0 : d = 0 → r = 0
  p0 : p = 0 → d ≠ 0 → d < 4503599627370496 → r = Fl.rungOf d 0
  b : ∀ b : Nat, 1 ≤ b → 2 ^ (b - 1) ≤ d → d < 2 ^ b → 50 ≤ b → (p ≤ 0 → 53 ≤ b) → 4503599627370496 ≤ Fl.goM (Fl.usc (d * 2 ^ (64 - b)) (Fl.hiT p) (Fl.loT p)) ∧ Fl.goM (Fl.usc (d * 2 ^ (64 - b)) (Fl.hiT p) (Fl.loT p)) < 9007199254740992 ∧
        Fl.goRung (Fl.usc (d * 2 ^ (64 - b)) (Fl.hiT p) (Fl.loT p)) (53 - (b : Int) - Fl.lgp p) = r
theorem Want.any (d : Nat) (p : Int) (hd : d ≤ 9007199254740992) (hp1 : -22 ≤ p) (hp2 : p ≤ 22) : ∃ r, Want d p r := by
  obtain ⟨r, r1, r2, r3, r4, r5⟩ := Fl.want_all d p hd hp1 hp2
  exact ⟨r, r1, r2, r3, r4, r5⟩
/-- Read gives the law's float. -/
def RdOK (s : ByteArray) (m : Nat) (e10 : Int) (ng : Bool) : Prop := ∀ (W : World) (r : Nat), Env W → Want m e10 r → Calls Tryd.prog 7 #[.string s] W fun ev w' => ev = .returned (.tuple #[.int .i64 0, .float .f64 (wd ng r), .bool false]) ∧ Below W.heap.size W w'
def FA (s : ByteArray) (e : Ending) : Prop := ∃ (m : Nat) (e10 : Int) (ng ok : Bool), e = .returned (.tuple #[.int .u64 m, .int .i64 e10, .bool ng, .bool ok]) ∧ (ok = true → m ≤ 9007199254740992 ∧ -22 ≤ e10 ∧ e10 ≤ 22 ∧ RdOK s m e10 ng)

theorem neg_str {T : ByteArray} {ps : Nat} {neg : Bool} (h : Sgn T 0 ps neg) : ((T.extract 0 ps).toList == [45]) = neg := by
  rw [Lib.extract_toList, List.drop_zero]
  have one : 0 < T.size → ps = 1 → T.data.toList.take (ps - 0) = [T.data.toList.getD 0 0] := fun h0 h1 => by
    rw [h1]
    have : T.data.toList.length = T.size := rfl
    cases hl : T.data.toList with
    | nil => rw [hl] at this; simp at this; omega
    | cons c t => rfl
  have hB : bt T 0 = ((T.data.toList.getD 0 0).toNat : Int) := B_bt T 0
  rcases h with ⟨h1, h2, _⟩ | ⟨h1, h2, h3, h4⟩ | ⟨h1, h2, h3, h4⟩
  · rw [h1, h2]; rfl
  · rw [one h3 (by omega), h2]
    rw [h4] at hB
    have : T.data.toList.getD 0 0 = 43 := UInt8.toNat_inj.1 (by have : (43 : UInt8).toNat = 43 := rfl; omega)
    rw [this]; rfl
  · rw [one h3 (by omega), h2]
    rw [h4] at hB
    have : T.data.toList.getD 0 0 = 45 := UInt8.toNat_inj.1 (by have : (45 : UInt8).toNat = 45 := rfl; omega)
    rw [this]; rfl

theorem read_ok {s T : ByteArray} {ps na nf q pe ne en : Nat} {neg dot ee xe eneg : Bool} (hT : T = ⟨(Lib.trimLeftS s.data.toList [32, 9, 10, 13]).toArray⟩) (h : PF T ps na nf q pe ne en neg dot ee xe eneg) (hS : Sfn (DvT T ps na) (na + nf) ≤ 16) (hM : Mfn (DvT T ps na) (na + nf) ≤ 9007199254740992) (hX : xe = true → Sfn (EvT T pe) ne ≤ 5)
    (hfx : 0 < nf ∨ xe = true) (e10 : Int) (he : e10 = (if xe then (if eneg then -(Mfn (EvT T pe) ne : Int) else (Mfn (EvT T pe) ne : Int)) else 0) - nf) (hlo : -22 ≤ e10) (hhi : e10 ≤ 22) : RdOK s (Mfn (DvT T ps na) (na + nf)) e10 neg := by
  intro W r hE hW
  have hsc := scan_found s T W ps na nf q pe ne en neg dot ee xe eneg _ _ rfl rfl hT h
  refine read_any s _ _ _ _ _ _ W (wd neg r) hsc ?_ ?_
  · rcases h.pt with ⟨g1, _, _, g4⟩ | ⟨g1, g2, _⟩
    · rcases hfx with hf | hx
      · left
        have := g4.le
        rw [g1, if_pos rfl, size_ext _ _ _ (by omega)]; omega
      · right
        rcases h.ex with ⟨_, k2, _⟩ | ⟨_, _, _, k4, k5, k6⟩
        · rw [hx] at k2; cases k2
        · have := k5.le
          rcases k6 with ⟨m1, _, _⟩ | ⟨_, m2, _⟩
          · rw [hx, if_pos rfl, size_ext _ _ _ (by omega)]
            rcases k4 with ⟨h, _⟩ | ⟨h, _⟩ | ⟨h, _⟩ <;> omega
          · rw [hx] at m2; cases m2
    · right
      have hx : xe = true := by
        rcases hfx with hf | hx
        · omega
        · exact hx
      rcases h.ex with ⟨_, k2, _⟩ | ⟨_, _, _, k4, k5, k6⟩
      · rw [hx] at k2; cases k2
      · have := k5.le
        rcases k6 with ⟨m1, _, _⟩ | ⟨_, m2, _⟩
        · rw [hx, if_pos rfl, size_ext _ _ _ (by omega)]
          rcases k4 with ⟨h, _⟩ | ⟨h, _⟩ | ⟨h, _⟩ <;> omega
        · rw [hx] at m2; cases m2
  · intro W' hb
    obtain ⟨hR, _⟩ := reads_of h hS hM hX _ rfl W'
    exact atof_any (T.extract 0 en) W' _ _ e10 neg r (hE.below hb) hR hM (fun h0 => by rw [if_neg h0, he]) hlo hhi hW.op hW.z0 hW.p0 hW.b

theorem fast_all (s : ByteArray) (w : World) (hs : s.size ≤ 1048576) : Calls Tryd.prog 6 #[.string s] w fun e w' => FA s e ∧ Below w.heap.size w w' := by
  obtain ⟨k, hk⟩ := Blk.any s
  have htr := trim_eq hk
  obtain ⟨T, hT⟩ : ∃ T, s.extract k s.size = T := ⟨_, rfl⟩
  have hTs : T.size ≤ 1048576 := by rw [← hT, size_ext _ _ _ (Nat.le_refl _)]; omega
  obtain ⟨ps, na, nf, q, pe, ne, en, neg, dot, ee, xe, eneg, hP⟩ := PF0.any T hTs
  have hmod := model_any s T w k ps na nf q pe ne en neg dot ee xe eneg _ _ rfl rfl hs ⟨hk.le, hk.b, hk.stop⟩ hT hP
  rw [hT] at htr
  by_cases hf : na + nf = 0
  · have hm : Calls Tryd.prog 10 #[.string s] w fun e w' => e = .returned (.agg #[.string ⟨#[]⟩, .string ⟨#[]⟩, .string ⟨#[]⟩, .string ⟨#[]⟩, .string ⟨#[]⟩, .string ⟨#[]⟩, .bool false]) ∧ Below w.heap.size w w' := hmod.mono fun e w' h => by
      rcases h with ⟨⟨_, h⟩ | ⟨h, _⟩, hb⟩
      · exact ⟨h, hb⟩
      · omega
    refine (fast_any s ⟨#[]⟩ ⟨#[]⟩ ⟨#[]⟩ ⟨#[]⟩ ⟨#[]⟩ ⟨#[]⟩ false false false 0 0 0 0 0 (fun _ => 0) (fun _ => 0) w hm rfl rfl rfl (by omega) (fun j hj => by omega) (fun j hj => by omega) (fun j hj => by omega) rfl (.inl ⟨rfl, rfl, fun h => by omega⟩) (fun k hk => by omega) (by rw [Lib.toList_data]; rfl)).mono fun e w' h => ⟨?_, h.2⟩
    obtain ⟨m, e10, ng, ok, he, hok⟩ := h.1
    exact ⟨m, e10, ng, ok, he, fun h => by have := (hok h).1; cases this⟩
  · have hPF := hP.pf (by omega)
    have hle := hP.i.le
    have hm := hmod.mono fun e w' h => (show e = .returned (.agg #[.string (T.extract 0 ps), .string (T.extract ps (ps + na)), .string (if dot = true then T.extract (ps + na + 1) (ps + na + 1 + nf) else (⟨#[]⟩ : ByteArray)), .string (if xe = true then T.extract (q + 1) (pe + ne) else (⟨#[]⟩ : ByteArray)), .string (T.extract 0 en), .string (T.extract en T.size), .bool true]) ∧ Below w.heap.size w w' by
      rcases h with ⟨⟨h, _⟩ | ⟨_, h⟩, hb⟩
      · omega
      · exact ⟨h, hb⟩)
    have hins : (T.extract ps (ps + na)).size = na := by rw [size_ext _ _ _ hle]; omega
    have hfrs : (if dot = true then T.extract (ps + na + 1) (ps + na + 1 + nf) else (⟨#[]⟩ : ByteArray)).size = nf := by
      rcases hP.pt with ⟨g1, _, _, g4⟩ | ⟨g1, g2, _⟩
      · have := g4.le; rw [g1, if_pos rfl, size_ext _ _ _ (by omega)]; omega
      · rw [g1, g2]; rfl
    have hfle : na + nf ≤ T.size := by
      rcases hP.pt with ⟨g1, _, _, g4⟩ | ⟨g1, g2, _⟩
      · have := g4.le; omega
      · omega
    have hD1 : ∀ j, j < na → bt (T.extract ps (ps + na)) j = DvT T ps na j := fun j hj => by
      rw [bt_ext _ _ _ _ (by omega)]; unfold DvT; rw [if_pos hj]
    have hD2 : ∀ j, j < nf → bt (if dot = true then T.extract (ps + na + 1) (ps + na + 1 + nf) else (⟨#[]⟩ : ByteArray)) j = DvT T ps na (na + j) := fun j hj => by
      rcases hP.pt with ⟨g1, _, _, g4⟩ | ⟨g1, g2, _⟩
      · rw [g1, if_pos rfl, bt_ext _ _ _ _ (by omega)]
        unfold DvT
        rw [if_neg (by omega)]
        congr 1
        omega
      · omega
    cases xe with
    | false =>
      refine (fast_any s _ _ _ _ _ _ true neg false na nf 0 0 0 (DvT T ps na) (EvT T pe) w hm hins hfrs rfl (by omega) hD1 hD2 hPF.dv rfl (.inl ⟨rfl, rfl, fun h => by omega⟩) (fun k hk => by omega) (neg_str hP.sg)).mono fun e w' h => ⟨?_, h.2⟩
      obtain ⟨m, e10, ng, ok, he, hok⟩ := h.1
      refine ⟨m, e10, ng, ok, he, fun h => ?_⟩
      obtain ⟨_, g2, g3, g4, g5, g6, g7, g8, g9, g10⟩ := hok h
      subst g3 g10
      refine ⟨g5, g8, g9, read_ok htr hPF g4 g5 (fun h => by cases h) (by omega) e10 ?_ g8 g9⟩
      rw [g7]; rfl
    | true =>
      obtain ⟨hq1, hn0, hr, hsg⟩ : q + 1 ≤ pe ∧ 0 < ne ∧ Run T pe ne ∧ Sgn T (q + 1) pe eneg := by
        rcases hP.ex with ⟨_, k2, _⟩ | ⟨_, _, _, k4, k5, k6⟩
        · cases k2
        · rcases k6 with ⟨m1, _, _⟩ | ⟨_, m2, _⟩
          · refine ⟨?_, m1, k5, k4⟩
            rcases k4 with ⟨h, _⟩ | ⟨h, _⟩ | ⟨h, _⟩ <;> omega
          · cases m2
      have hrl := hr.le
      have hqle : ps + na + nf ≤ q := by
        rw [hP.hq]
        rcases hP.pt with ⟨g1, _⟩ | ⟨g1, g2, _⟩
        · rw [g1, if_pos rfl]; omega
        · rw [g1, g2]; exact Nat.le_refl _
      have hexs : (if true = true then T.extract (q + 1) (pe + ne) else (⟨#[]⟩ : ByteArray)).size = pe - (q + 1) + ne := by
        rw [if_pos rfl, size_ext _ _ _ hrl]; omega
      have hxb : ∀ j, j < pe - (q + 1) + ne → bt (if true = true then T.extract (q + 1) (pe + ne) else (⟨#[]⟩ : ByteArray)) j = bt T (q + 1 + j) := fun j hj => by
        rw [if_pos rfl, bt_ext _ _ _ _ (by omega)]
      refine (fast_any s _ _ _ _ _ _ true neg eneg na nf (pe - (q + 1) + ne) (pe - (q + 1)) ne (DvT T ps na) (EvT T pe) w hm hins hfrs hexs (by omega) hD1 hD2 hPF.dv rfl ?_ (fun k hk => ?_) (neg_str hP.sg)).mono fun e w' h => ⟨?_, h.2⟩
      · rcases hsg with ⟨g1, g2, g3⟩ | ⟨g1, g2, g3, g4⟩ | ⟨g1, g2, g3, g4⟩
        · left
          refine ⟨by omega, g2, fun h0 => ?_⟩
          rw [hxb 0 (by omega)]
          exact g3 (by omega)
        · right; left
          refine ⟨by omega, g2, ?_⟩
          rw [hxb 0 (by omega)]; exact g4
        · right; right
          refine ⟨by omega, g2, ?_⟩
          rw [hxb 0 (by omega)]; exact g4
      · rw [hxb _ (by omega)]
        have := hr.d k hk
        refine ⟨?_, this⟩
        unfold EvT
        congr 1
        omega
      · obtain ⟨m, e10, ng, ok, he, hok⟩ := h.1
        refine ⟨m, e10, ng, ok, he, fun h => ?_⟩
        obtain ⟨_, g2, g3, g4, g5, g6, g7, g8, g9, g10⟩ := hok h
        subst g3 g10
        refine ⟨g5, g8, g9, read_ok htr hPF g4 g5 (fun _ => g6) (.inr rfl) e10 ?_ g8 g9⟩
        rw [g7]; rfl
end Go.Proofs.Qxb6606304aDoor
