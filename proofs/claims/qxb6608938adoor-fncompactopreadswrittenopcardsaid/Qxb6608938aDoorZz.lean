/-
  WALKS: ZZcompactOp; the guard on the lengths; what the written op is made of.
-/
import Derived.Test.Qxb6608938aDoorCop
import Derived.BigQuiet
import Derived.Deep.QuietTactic
namespace Go.Proofs.Qxb6608938aDoor
open Go.RowKit Go.PlainAid

/-- What ZZcompactOp hands back: 's' the name; 'R' what compactOp reads. -/
def ZRes (b o n : Nat) (s : ByteArray) (e : Ending) : Option (Nat × Option Nat) → Prop
  | none => e = .returned (.tuple #[.string ⟨#[]⟩, .slice none 0 0, .slice none 0 0, .bool false])
  | some (k, none) => ∃ A cr, e = .returned (.tuple #[.string s, .slice none 0 0, .slice (some A) (n - (7 + (k + 2))) cr, .bool true]) ∧ (n = 7 + (k + 2) ∨ A = ⟨b, o + (7 + (k + 2)), none⟩)
  | some (k, some j) => ∃ A cr ca, e = .returned (.tuple #[.string s, .slice (some ⟨b, o + (7 + (k + 8)), none⟩) j ca, .slice (some A) (n - (7 + (k + 8 + (j + 1)))) cr, .bool true]) ∧ (n = 7 + (k + 8 + (j + 1)) ∨ A = ⟨b, o + (7 + (k + 8 + (j + 1))), none⟩)

set_option maxRecDepth 100000 in
set_option maxHeartbeats 1000000 in
theorem zzcop_any (b o n c : Nat) (l : List UInt8) (w : World) (s : ByteArray) (R : Option (Nat × Option Nat)) (hl : Hid (l.length = n)) (hr : RowAt w b o l) (hT : Lib.Utf8Tabs 0 1 w) (hn : n ≤ 1048576) (hcap : n ≤ c) (hc : c ≤ 9223372036854775807) (hcn : Pl.run Pl.nameByte (l.drop 7) + 16 ≤ c) (hbk : b < w.heap.size)
    (hR : Hid (Pl.cop l = R)) (hval : ∀ k j, R = some (k, some j) → Lib.validD ((l.drop (7 + (k + 8))).take j) = true) (hs : ∀ k a, R = some (k, a) → (⟨((l.drop 7).take k).toArray⟩ : ByteArray) = s) :
    Calls Tryd.prog 6 #[.slice (some ⟨b, o, none⟩) n c] w fun e w' => ZRes b o n s e R ∧ Below w.heap.size w w' := by
  have hcop := hide (cop_any b o n c l w R hl hr hT hn hcap hc hcn hbk hR hval)
  clear hr hT hval hcn hl hR hcap hc hn
  rcases R with _ | ⟨k, _ | j⟩
  · go_enter Tryd.func6, Tryd.ntmps6
    go_wp2_with (go_at_call 13; refine (hcop.out).mono ?_; rintro ev w1 ⟨hres, hb1⟩; obtain rfl := hres)
    go_quiet (fail)
    go_wp2
    refine bodyPost_ret (v := .tuple #[.string ⟨#[]⟩, .slice none 0 0, .slice none 0 0, .bool false]) (by simp [results, Tryd.results6, go_sem]) rfl ⟨rfl, ?_⟩
    exact below_drewN (hb1.alloc hb1.size _) _
  · have hs' := hs k none rfl
    go_enter Tryd.func6, Tryd.ntmps6
    go_wp2_with (go_at_call 13; refine (hcop.out).mono ?_; rintro ev w1 ⟨⟨A, cr, rfl, hA⟩, hb1⟩; rw [hs'])
    go_quiet (fail)
    go_wp2
    refine bodyPost_ret (v := .tuple #[.string s, .slice none 0 0, .slice (some A) (n - (7 + (k + 2))) cr, .bool true]) (by simp [results, Tryd.results6, go_sem]) rfl ⟨⟨A, cr, rfl, hA⟩, ?_⟩
    exact below_drewN (hb1.alloc hb1.size _) _
  · have hs' := hs k (some j) rfl
    go_enter Tryd.func6, Tryd.ntmps6
    go_wp2_with (go_at_call 13; refine (hcop.out).mono ?_; rintro ev w1 ⟨⟨A, cr, ca, rfl, hA⟩, hb1⟩; rw [hs'])
    go_quiet (fail)
    go_wp2
    refine bodyPost_ret (v := .tuple #[.string s, .slice (some ⟨b, o + (7 + (k + 8)), none⟩) j ca, .slice (some A) (n - (7 + (k + 8 + (j + 1)))) cr, .bool true]) (by simp [results, Tryd.results6, go_sem]) rfl ⟨⟨A, cr, ca, rfl, hA⟩, ?_⟩
    exact below_drewN (hb1.alloc hb1.size _) _

def SomeBool (e : Ending) : Prop := ∃ g, e = .returned (.bool g)
set_option maxRecDepth 100000 in
set_option maxHeartbeats 1000000 in
theorem guard_any (s : ByteArray) (p1 p2 : Option Addr) (n1 c1 n2 c2 : Nat) (x : Int) (w : World) :
    Calls Tryd.prog 9 #[.string s, .slice p1 n1 c1, .slice p2 n2 c2, .int .i64 x] w fun e w' => SomeBool e ∧ w' = w := by
  by_cases h1 : (s.size : Int) ≤ 1048576
  rotate_left
  · go_enter Tryd.func9, Tryd.ntmps9
    go_wp2_with fail
    go_ret
    exact ⟨⟨_, rfl⟩, rfl⟩
  by_cases h2 : (n1 : Int) ≤ 1048576
  rotate_left
  · go_enter Tryd.func9, Tryd.ntmps9
    go_wp2_with fail
    go_ret
    exact ⟨⟨_, rfl⟩, rfl⟩
  by_cases h3 : (s.size : Int) + n1 ≤ 1048576
  rotate_left
  · go_enter Tryd.func9, Tryd.ntmps9
    go_wp2_with fail
    go_ret
    exact ⟨⟨_, rfl⟩, rfl⟩
  by_cases h4 : (n2 : Int) ≤ 1048576
  rotate_left
  · go_enter Tryd.func9, Tryd.ntmps9
    go_wp2_with fail
    go_ret
    exact ⟨⟨_, rfl⟩, rfl⟩
  by_cases h5 : (s.size : Int) + n1 + n2 ≤ 1048576
  · go_enter Tryd.func9, Tryd.ntmps9
    go_wp2_with fail
    go_ret
    exact ⟨⟨_, rfl⟩, rfl⟩
  · go_enter Tryd.func9, Tryd.ntmps9
    go_wp2_with fail
    go_ret
    exact ⟨⟨_, rfl⟩, rfl⟩

/-! ### rows of the call's own -/
theorem Tryd.info5 : (Tryd.prog.info? 5).map (fun i => (i.zero, i.size, i.bytes)) = some (some (.int .u8 0), 1, 1) := by kernel_rfl
def cellsB (l : List UInt8) : List Value := l.map fun c => Value.int .u8 c.toNat
theorem cellsB_len (l : List UInt8) : (cellsB l).length = l.length := by unfold cellsB; simp
theorem cellsB_app (a b : List UInt8) : cellsB (a ++ b) = cellsB a ++ cellsB b := by unfold cellsB; simp
theorem cellsB_get {l : List UInt8} {j : Nat} {u : Value} (h : (cellsB l)[j]? = some u) : j < l.length ∧ u = .int .u8 (Pl.B l j) := by
  unfold cellsB at h
  rw [List.getElem?_map] at h
  obtain ⟨c, hc, rfl⟩ := Option.map_eq_some_iff.1 h
  obtain ⟨hj, rfl⟩ := List.getElem?_eq_some_iff.1 hc
  exact ⟨hj, by rw [Pl.B_get l j hj]⟩
theorem cellsB_one (l : List UInt8) : ∀ u ∈ cellsB l, u.oneCell' = true := by
  intro u hu
  unfold cellsB at hu
  obtain ⟨c, _, rfl⟩ := List.mem_map.1 hu
  rfl
/-- The slice of block g, capacity cap, holds l, and is the call's own. -/
def Own (w : World) (base g cap : Nat) (l : List UInt8) (n : Nat) : Prop := l.length = n ∧ w.ownsRow base 5 1 (.slice (some ⟨g, 0, none⟩) n cap) n (cellsB l)
theorem Own.row {w : World} {base g cap n : Nat} {l : List UInt8} (h : Own w base g cap l n) : RowAt w g 0 l := by
  intro i hi
  have := World.ownsRow.cellAt h.2 i (by have := h.1; omega)
  rw [Nat.zero_add, this]
  unfold cellsB
  rw [List.getElem?_map, List.getElem?_eq_getElem hi, Pl.B_get l i hi]; rfl
theorem Own.lt {w : World} {base g cap n : Nat} {l : List UInt8} (h : Own w base g cap l n) : base ≤ g ∧ g < w.heap.size := World.ownsRow.lt h.2 g rfl

/-- What an argument's slice holds. -/
def Holds (w : World) (p : Option Addr) (n c : Nat) (l : List UInt8) : Prop := l.length = n ∧ (p = none → n = 0 ∧ c = 0) ∧ (n = 0 ∨ ∃ b o, p = some ⟨b, o, none⟩ ∧ RowAt w b o l ∧ b < w.heap.size)
theorem Holds.below {w w' : World} {p : Option Addr} {n c : Nat} {l : List UInt8} (h : Holds w p n c l) (hb : Below w.heap.size w w') : Holds w' p n c l := by
  refine ⟨h.1, h.2.1, h.2.2.imp id ?_⟩
  rintro ⟨b, o, rfl, hr, hlt⟩
  exact ⟨b, o, rfl, hr.below hb, Nat.lt_of_lt_of_le hlt hb.size⟩
theorem Holds.news {w : World} {p : Option Addr} {n c : Nat} {l : List UInt8} (h : Holds w p n c l) : ∀ ad, p = some ad → ∀ j u, (cellsB l)[j]? = some u → w.cell? (ad.add j) = some u := by
  intro ad had j u hu
  obtain ⟨hj, rfl⟩ := cellsB_get hu
  rcases h.2.2 with h0 | ⟨b, o, hp, hr, _⟩
  · have := h.1; omega
  · obtain rfl := Option.some.inj (hp.symm.trans had)
    rw [add_at]; exact hr j hj

theorem run_take_le (p : UInt8 → Bool) (l : List UInt8) : ∀ k, Pl.run p (l.take k) ≤ Pl.run p l := by
  induction l with
  | nil => intro k; simp
  | cons c r ih =>
    intro k
    cases k with
    | zero => simp [Pl.run]
    | succ k =>
      rw [List.take_succ_cons, Pl.run, Pl.run]
      split
      · have := ih k; omega
      · omega
end Go.Proofs.Qxb6608938aDoor
