/-
  PLAIN: the automaton's steps.
-/
import Derived.Test.Qxb6606304aDoorMs
namespace Go.Proofs.Qxb6606304aDoor
open Go.PlainAid

def isd (c : Int) : Prop := 48 ≤ c ∧ c ≤ 57
/-- From state st, at the byte c, to state st'. -/
def Tr (st : Nat) (c : Int) (st' : Nat) : Prop :=
  (st = 0 ∧ c = 43 ∧ st' = 1) ∨ (st = 0 ∧ c = 45 ∧ st' = 1) ∨ (st = 0 ∧ isd c ∧ st' = 2) ∨ (st = 0 ∧ c = 46 ∧ st' = 3) ∨
  (st = 1 ∧ isd c ∧ st' = 2) ∨ (st = 1 ∧ c = 46 ∧ st' = 3) ∨
  (st = 2 ∧ isd c ∧ st' = 2) ∨ (st = 2 ∧ c = 46 ∧ st' = 4) ∨ (st = 2 ∧ c = 101 ∧ st' = 5) ∨ (st = 2 ∧ c = 69 ∧ st' = 5) ∨
  (st = 3 ∧ isd c ∧ st' = 4) ∨
  (st = 4 ∧ isd c ∧ st' = 4) ∨ (st = 4 ∧ c = 101 ∧ st' = 5) ∨ (st = 4 ∧ c = 69 ∧ st' = 5) ∨
  (st = 5 ∧ c = 43 ∧ st' = 6) ∨ (st = 5 ∧ c = 45 ∧ st' = 6) ∨ (st = 5 ∧ isd c ∧ st' = 7) ∨
  (st = 6 ∧ isd c ∧ st' = 7) ∨ (st = 7 ∧ isd c ∧ st' = 7)
/-- In state st the byte c is none that the automaton takes. -/
def Xt (st : Nat) (c : Int) : Prop :=
  ¬ isd c ∧ ((st = 0 ∧ c ≠ 43 ∧ c ≠ 45 ∧ c ≠ 46) ∨ (st = 1 ∧ c ≠ 46) ∨ (st = 2 ∧ c ≠ 46 ∧ c ≠ 101 ∧ c ≠ 69) ∨ st = 3 ∨ (st = 4 ∧ c ≠ 101 ∧ c ≠ 69) ∨ (st = 5 ∧ c ≠ 43 ∧ c ≠ 45) ∨ st = 6 ∨ st = 7)
def nla (st' i : Nat) (la : Int) : Int := if st' = 2 ∨ st' = 4 ∨ st' = 7 then (i : Int) + 1 else la
def npo (st st' i : Nat) (po : Int) : Int := if st' = 3 ∨ (st = 2 ∧ st' = 4) then (i : Int) else po
def neo (st' i : Nat) (eo : Int) : Int := if st' = 5 then (i : Int) else eo

theorem sstep {T : ByteArray} {ps na nf q pe ne en : Nat} {neg dot ee xe eneg : Bool} (h : PF0 T ps na nf q pe ne en neg dot ee xe eneg) {st i : Nat} {la po eo : Int} (hs : SInv ps na nf q pe ne dot ee st i la po eo) (hin : i ≤ T.size) :
    (i = T.size ∧ SEnd ps na nf q en dot ee la po eo) ∨ (i < T.size ∧ ((Xt st (bt T i) ∧ SEnd ps na nf q en dot ee la po eo) ∨ ∃ st', Tr st (bt T i) st' ∧ SInv ps na nf q pe ne dot ee st' (i + 1) (nla st' i la) (npo st st' i po) (neo st' i eo))) := by
  have hle := h.i.le
  -- the place behind the sign, where no digit has been read
  have first : ∀ st0, (st0 = 0 ∨ st0 = 1) → i = ps → la = -1 → po = -1 → eo = -1 → (st0 = 0 → ps = 0 ∧ (0 < T.size → bt T 0 ≠ 43 ∧ bt T 0 ≠ 45)) → (i = T.size ∧ SEnd ps na nf q en dot ee la po eo) ∨ (i < T.size ∧ ((Xt st0 (bt T i) ∧ SEnd ps na nf q en dot ee la po eo) ∨ ∃ st', Tr st0 (bt T i) st' ∧ SInv ps na nf q pe ne dot ee st' (i + 1) (nla st' i la) (npo st0 st' i po) (neo st' i eo))) := by
    intro st0 hst0 hi hla hpo heo hsg
    have nf0 : na = 0 → (ps + na = T.size ∨ (ps + na < T.size ∧ dot = false)) → na + nf = 0 := by
      intro h1 h2
      rcases h.pt with ⟨g1, g2, _⟩ | ⟨_, g2, _⟩
      · rcases h2 with h2 | ⟨_, h2⟩
        · omega
        · rw [g1] at h2; cases h2
      · omega
    by_cases hn : i = T.size
    · left
      exact ⟨hn, fun h0 => by have := nf0 (by omega) (.inl (by omega)); omega, fun _ => hla⟩
    · right
      refine ⟨by omega, ?_⟩
      by_cases hna : 0 < na
      · right
        have hd := h.i.d 0 hna
        rw [Nat.add_zero, ← hi] at hd
        refine ⟨2, ?_, ?_⟩
        · unfold Tr isd
          rcases hst0 with rfl | rfl
          · exact .inr (.inr (.inl ⟨rfl, hd, rfl⟩))
          · exact .inr (.inr (.inr (.inr (.inl ⟨rfl, hd, rfl⟩))))
        · right; right; left
          unfold nla npo neo
          simp
          exact ⟨⟨1, by omega, by omega, by omega⟩, hpo, heo⟩
      · have hnd : ¬ isd (bt T i) := by
          have := h.i.stop (by omega)
          rw [show ps + na = i by omega] at this
          exact this
        rcases h.pt with ⟨g1, g2, g3, g4⟩ | ⟨g1, g2, g3⟩
        · right
          rw [show ps + na = i by omega] at g3
          refine ⟨3, ?_, ?_⟩
          · unfold Tr
            rcases hst0 with rfl | rfl
            · exact .inr (.inr (.inr (.inl ⟨rfl, g3, rfl⟩)))
            · exact .inr (.inr (.inr (.inr (.inr (.inl ⟨rfl, g3, rfl⟩)))))
          · right; right; right; left
            unfold nla npo neo
            simp
            exact ⟨by omega, g1, by omega, hla, by omega, heo⟩
        · left
          have g4 := g3 (by omega)
          rw [show ps + na = i by omega] at g4
          refine ⟨⟨hnd, ?_⟩, fun h0 => by omega, fun _ => hla⟩
          rcases hst0 with rfl | rfl
          · obtain ⟨k1, k2⟩ := hsg rfl
            obtain ⟨k3, k4⟩ := k2 (by omega)
            rw [show (0 : Nat) = i by omega] at k3 k4
            left
            exact ⟨rfl, k3, k4, g4⟩
          · right; left; exact ⟨rfl, g4⟩
  -- the place behind the number without its exponent
  have last : ∀ st0, (st0 = 2 ∧ dot = false ∨ st0 = 4 ∧ dot = true) → i = q → la = (q : Int) → (po = if dot then ((ps + na : Nat) : Int) else -1) → eo = -1 → 0 < na + nf → (i < T.size → ¬ isd (bt T i)) → (st0 = 2 → i < T.size → bt T i ≠ 46) → (i = T.size ∧ SEnd ps na nf q en dot ee la po eo) ∨ (i < T.size ∧ ((Xt st0 (bt T i) ∧ SEnd ps na nf q en dot ee la po eo) ∨ ∃ st', Tr st0 (bt T i) st' ∧ SInv ps na nf q pe ne dot ee st' (i + 1) (nla st' i la) (npo st0 st' i po) (neo st' i eo))) := by
    intro st0 hst0 hi hla hpo heo hf hnd h46
    rcases h.ex with ⟨k1, k2, k3, k4⟩ | ⟨k1, k2, k3, _⟩
    · have hse : SEnd ps na nf q en dot ee la po eo := ⟨fun _ => ⟨by rw [hla, k3], hpo, by rw [heo, k1]; rfl⟩, fun h0 => by omega⟩
      by_cases hn : i = T.size
      · exact .inl ⟨hn, hse⟩
      · right
        refine ⟨by omega, .inl ⟨⟨hnd (by omega), ?_⟩, hse⟩⟩
        obtain ⟨m1, m2⟩ := k4 (by omega)
        rw [← hi] at m1 m2
        rcases hst0 with ⟨rfl, _⟩ | ⟨rfl, _⟩
        · right; right; left; exact ⟨rfl, h46 rfl (by omega), m1, m2⟩
        · right; right; right; right; left; exact ⟨rfl, m1, m2⟩
    · right
      rw [← hi] at k2 k3
      refine ⟨k2, .inr ⟨5, ?_, ?_⟩⟩
      · unfold Tr
        rcases hst0 with ⟨rfl, _⟩ | ⟨rfl, _⟩ <;> rcases k3 with k3 | k3 <;> simp [k3]
      · right; right; right; right; right; left
        unfold nla npo neo
        simp
        refine ⟨k1, hf, by omega, hla, ?_, by omega⟩
        exact hpo
  -- the places of the exponent's digits
  have expo : ∀ (st0 c : Nat), (st0 = 5 ∧ c = 0 ∧ pe = q + 1 ∨ st0 = 6 ∧ c = 0 ∧ pe = q + 2 ∨ st0 = 7 ∧ 1 ≤ c) → c ≤ ne → i = pe + c → ee = true → (la = if c = 0 then (q : Int) else i) → (po = if dot then ((ps + na : Nat) : Int) else -1) → eo = q → 0 < na + nf → (st0 = 5 → i < T.size → bt T i ≠ 43 ∧ bt T i ≠ 45) → (i = T.size ∧ SEnd ps na nf q en dot ee la po eo) ∨ (i < T.size ∧ ((Xt st0 (bt T i) ∧ SEnd ps na nf q en dot ee la po eo) ∨ ∃ st', Tr st0 (bt T i) st' ∧ SInv ps na nf q pe ne dot ee st' (i + 1) (nla st' i la) (npo st0 st' i po) (neo st' i eo))) := by
    intro st0 c hst0 hcn hi hee hla hpo heo hf hsg
    rcases h.ex with ⟨k1, _⟩ | ⟨_, k2, k3, k4, k5, k6⟩
    · rw [hee] at k1; cases k1
    · have hle5 := k5.le
      by_cases hc : c < ne
      · have hd := k5.d c hc
        rw [← hi] at hd
        right
        refine ⟨by omega, .inr ⟨7, ?_, ?_⟩⟩
        · unfold Tr isd
          rcases hst0 with ⟨rfl, _⟩ | ⟨rfl, _⟩ | ⟨rfl, _⟩ <;> simp [hd.1, hd.2]
        · right; right; right; right; right; right; right
          unfold nla npo neo
          simp
          exact ⟨hee, hf, ⟨c + 1, by omega, by omega, by omega⟩, hpo, heo⟩
      · have hcne : c = ne := by omega
        have hse : SEnd ps na nf q en dot ee la po eo := by
          refine ⟨fun _ => ⟨?_, hpo, by rw [heo, hee]; rfl⟩, fun h0 => by omega⟩
          rw [hla]
          rcases k6 with ⟨m1, _, m3⟩ | ⟨m1, _, m3⟩
          · rw [if_neg (by omega), m3, hi, hcne]
          · rw [if_pos (by omega), m3]
        by_cases hn : i = T.size
        · exact .inl ⟨hn, hse⟩
        · right
          have hnd : ¬ isd (bt T i) := by
            have := k5.stop (by omega)
            rw [← hcne, ← hi] at this
            exact this
          refine ⟨by omega, .inl ⟨⟨hnd, ?_⟩, hse⟩⟩
          rcases hst0 with ⟨rfl, _⟩ | ⟨rfl, _⟩ | ⟨rfl, _⟩
          · obtain ⟨m1, m2⟩ := hsg rfl (by omega)
            right; right; right; right; right; left; exact ⟨rfl, m1, m2⟩
          · right; right; right; right; right; right; left; rfl
          · right; right; right; right; right; right; right; rfl
  rcases hs with ⟨rfl, rfl, h1, h2, h3⟩ | ⟨rfl, rfl, h0, h1, h2, h3⟩ | ⟨rfl, ⟨a, a1, a2, a3⟩, h1, h2, h3⟩ | ⟨rfl, h4, h5, h6, h1, h2, h3⟩ | ⟨rfl, h5, ⟨f, f1, f2, f3⟩, h1, h2, h3⟩ | ⟨rfl, h4, h5, h6, h1, h2, h3⟩ | ⟨rfl, h4, h5, h6, h7, h1, h2, h3⟩ | ⟨rfl, h4, h5, ⟨c, c1, c2, c3⟩, h1, h2, h3⟩
  · rcases h.sg with ⟨g1, _, g2⟩ | ⟨g1, _, g2, g3⟩ | ⟨g1, _, g2, g3⟩
    · exact first 0 (.inl rfl) (by omega) h1 h2 h3 (fun _ => ⟨g1, g2⟩)
    · right
      refine ⟨g2, .inr ⟨1, .inl ⟨rfl, g3, rfl⟩, ?_⟩⟩
      right; left
      unfold nla npo neo
      simp
      exact ⟨by omega, h1, h2, h3⟩
    · right
      refine ⟨g2, .inr ⟨1, .inr (.inl ⟨rfl, g3, rfl⟩), ?_⟩⟩
      right; left
      unfold nla npo neo
      simp
      exact ⟨by omega, h1, h2, h3⟩
  · exact first 1 (.inr rfl) (by omega) h1 h2 h3 (fun h => by cases h)
  · by_cases ha : a < na
    · have hd := h.i.d a ha
      rw [← a3] at hd
      right
      refine ⟨by omega, .inr ⟨2, ?_, ?_⟩⟩
      · unfold Tr isd; simp [hd.1, hd.2]
      · right; right; left
        unfold nla npo neo
        simp
        exact ⟨⟨a + 1, by omega, by omega, by omega⟩, h2, h3⟩
    · have hst := h.i.stop
      rcases h.pt with ⟨g1, g2, g3, g4⟩ | ⟨g1, g2, g3⟩
      · right
        rw [show ps + na = i by omega] at g2 g3
        refine ⟨g2, .inr ⟨4, ?_, ?_⟩⟩
        · unfold Tr; simp [g3]
        · right; right; right; right; left
          unfold nla npo neo
          simp
          exact ⟨g1, ⟨0, by omega, by omega, by omega⟩, by omega, h3⟩
      · have hqi : i = q := by rw [h.hq, g1]; simp; omega
        refine last 2 (.inl ⟨rfl, g1⟩) hqi (by rw [h1, hqi]) (by rw [h2, g1]; rfl) h3 (by omega) (fun hlt => ?_) (fun _ hlt => ?_)
        · have := hst (by omega)
          rw [show ps + na = i by omega] at this
          exact this
        · have := g3 (by omega)
          rw [show ps + na = i by omega] at this
          exact this
  · rcases h.pt with ⟨g1, g2, g3, g4⟩ | ⟨g1, _⟩
    · have hle4 := g4.le
      by_cases hnf : 0 < nf
      · have hd := g4.d 0 hnf
        rw [show ps + na + 1 + 0 = i by omega] at hd
        right
        refine ⟨by omega, .inr ⟨4, ?_, ?_⟩⟩
        · unfold Tr isd; simp [hd.1, hd.2]
        · right; right; right; right; left
          unfold nla npo neo
          simp
          exact ⟨g1, ⟨1, by omega, by omega, by omega⟩, by omega, h3⟩
      · have hse : SEnd ps na nf q en dot ee la po eo := ⟨fun h0 => by omega, fun _ => h1⟩
        by_cases hn : i = T.size
        · exact .inl ⟨hn, hse⟩
        · right
          have := g4.stop (by omega)
          rw [show ps + na + 1 + nf = i by omega] at this
          exact ⟨by omega, .inl ⟨⟨this, .inr (.inr (.inr (.inl rfl)))⟩, hse⟩⟩
    · rw [h5] at g1; cases g1
  · rcases h.pt with ⟨g1, g2, g3, g4⟩ | ⟨g1, _⟩
    · have hle4 := g4.le
      by_cases hf : f < nf
      · have hd := g4.d f hf
        rw [← f3] at hd
        right
        refine ⟨by omega, .inr ⟨4, ?_, ?_⟩⟩
        · unfold Tr isd; simp [hd.1, hd.2]
        · right; right; right; right; left
          unfold nla npo neo
          simp
          exact ⟨g1, ⟨f + 1, by omega, by omega, by omega⟩, by omega, h3⟩
      · have hqi : i = q := by rw [h.hq, g1]; simp; omega
        refine last 4 (.inr ⟨rfl, g1⟩) hqi (by rw [h1, hqi]) (by rw [h2, g1]; rfl) h3 (by omega) (fun hlt => ?_) (fun hh => by cases hh)
        have := g4.stop (by omega)
        rw [show ps + na + 1 + nf = i by omega] at this
        exact this
    · rw [h5] at g1; cases g1
  · rcases h.ex with ⟨k1, _⟩ | ⟨_, k2, k3, k4, k5, k6⟩
    · rw [h4] at k1; cases k1
    · rcases k4 with ⟨m1, _, m2⟩ | ⟨m1, _, m2, m3⟩ | ⟨m1, _, m2, m3⟩
      · refine expo 5 0 (.inl ⟨rfl, rfl, m1⟩) (by omega) (by omega) h4 (by rw [h1]; rfl) h2 h3 h5 (fun _ hlt => ?_)
        have := m2 (by omega)
        rw [show q + 1 = i by omega] at this
        exact this
      · right
        rw [show q + 1 = i by omega] at m2 m3
        refine ⟨m2, .inr ⟨6, ?_, ?_⟩⟩
        · unfold Tr; simp [m3]
        · right; right; right; right; right; right; left
          unfold nla npo neo
          simp
          exact ⟨h4, h5, by omega, by omega, h1, h2, h3⟩
      · right
        rw [show q + 1 = i by omega] at m2 m3
        refine ⟨m2, .inr ⟨6, ?_, ?_⟩⟩
        · unfold Tr; simp [m3]
        · right; right; right; right; right; right; left
          unfold nla npo neo
          simp
          exact ⟨h4, h5, by omega, by omega, h1, h2, h3⟩
  · exact expo 6 0 (.inr (.inl ⟨rfl, rfl, h7⟩)) (by omega) (by omega) h4 (by rw [h1]; rfl) h2 h3 h5 (fun hh => by cases hh)
  · exact expo 7 c (.inr (.inr ⟨rfl, c1⟩)) c2 c3 h4 (by rw [h1, if_neg (by omega)]) h2 h3 h5 (fun hh => by cases hh)
end Go.Proofs.Qxb6606304aDoor
