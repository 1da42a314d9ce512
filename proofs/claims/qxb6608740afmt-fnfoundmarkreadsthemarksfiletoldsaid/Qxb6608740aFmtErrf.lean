/-
  WALK: fmt.Errorf at the three formats of timeid.parseMarks: an error comes back that is not nil.
-/
import Derived.Test.Qxb6608740aFmtErr
import Derived.WalkKit
import Derived.WalkSpells
namespace Go.Proofs.Qxb6608740aFmt
open Go.RowKit Go.PlainAid Go.Extern.Stop Go.Stop Go.Extern
attribute [local go_sem] Tryf.call24 Tryf.guard Tryf.fmt0 Tryf.fmt0r Tryf.fmt1 Tryf.fmt1r Tryf.fmt2 Tryf.fmt2r Tryf.op9_113w Tryf.ptr78 Tryf.elem78 Tryf.isError78'

def fm0 : ByteArray := ⟨#[104, 111, 108, 100, 115, 32, 37, 113, 44, 32, 110, 111, 116, 32, 119, 104, 111, 108, 101, 32, 108, 105, 110, 101, 115]⟩
def fm1 : ByteArray := ⟨#[108, 105, 110, 101, 32, 37, 113, 32, 105, 115, 32, 110, 111, 116, 32, 97, 32, 110, 97, 109, 101, 115, 112, 97, 99, 101, 44, 32, 97, 32, 117, 110, 105, 116, 32, 97, 110, 100, 32, 97, 32, 115, 101, 113, 117, 101, 110, 99, 101, 32, 110, 117, 109, 98, 101, 114]⟩
def fm2 : ByteArray := ⟨#[110, 97, 109, 101, 115, 112, 97, 99, 101, 32, 37, 113, 32, 104, 97, 115, 32, 116, 119, 111, 32, 108, 105, 110, 101, 115]⟩

/-- An error that is not nil. -/
def IsErr (e : Ending) : Prop := ∃ k a, e = .returned (.iface k (.pointer (some a)))
/-- A slice of bytes reads so. -/
def Lies (w : World) (p : Option Addr) (n c : Nat) (l : List UInt8) : Prop := l.length = n ∧ (p = none → n = 0 ∧ c = 0) ∧ ∀ ad, p = some ad → ∃ b o, ad = ⟨b, o, none⟩ ∧ RowAt w b o l

theorem op_lies (name : String) {w : World} {p : Option Addr} {n c : Nat} {l : List UInt8} (h : Lies w p n c l) : ∃ a b, (FmtStop.operand name true 113 false (.iface 22 (.slice p n c))).run Tryf.prog w = .ok (a, b) w := by
  obtain ⟨hl, h0, hs⟩ := h
  cases p with
  | none =>
    obtain ⟨rfl, rfl⟩ := h0 rfl
    exact ⟨_, _, Tryf.opNil_113w name w⟩
  | some ad =>
    obtain ⟨b, o, rfl, hr⟩ := hs ad rfl
    have := Tryf.opBytes_113w name ⟨b, o, none⟩ c (l.map fun x => (x.toNat : Int)) w (fun j v hj => by
      rw [List.map_map, List.getElem?_map] at hj
      obtain ⟨x, hx, rfl⟩ := Option.map_eq_some_iff.1 hj
      obtain ⟨hjl, rfl⟩ := List.getElem?_eq_some_iff.1 hx
      have e : (⟨b, o, none⟩ : Addr).add j = ⟨b, o + j, none⟩ := by unfold Addr.add; split <;> simp_all
      rw [e, hr j hjl, Pl.B_get l j hjl]; rfl)
    rw [List.length_map, hl] at this
    exact ⟨_, _, this⟩

set_option maxRecDepth 100000 in
set_option maxHeartbeats 1000000 in
theorem errf0 (F : Interp) (V : Nat) (x : Value) (w : World) (hF : F.answers w.tape) (hV : w.cell? ⟨V, 0, none⟩ = some x) (hop : ∃ a b, (FmtStop.operand "fmt.errorf" true 113 false x).run Tryf.prog w = .ok (a, b) w) :
    Calls Tryf.prog 19 #[.string ⟨#[104, 111, 108, 100, 115, 32, 37, 113, 44, 32, 110, 111, 116, 32, 119, 104, 111, 108, 101, 32, 108, 105, 110, 101, 115]⟩, .slice (some ⟨V, 0, none⟩) 1 1] w fun e w' => IsErr e ∧ Below w.heap.size w w' := by
  have hF' := answers_open hF
  obtain ⟨a, b, hop⟩ := hop
  go_enter Tryf.func19, Tryf.ntmps19
  go_wp2
  go_ret
  exact ⟨⟨_, _, rfl⟩, ((Below.refl _ w).alloc (Nat.le_refl _) _).drew⟩

set_option maxRecDepth 100000 in
set_option maxHeartbeats 1000000 in
theorem errf1 (F : Interp) (V : Nat) (x : Value) (w : World) (hF : F.answers w.tape) (hV : w.cell? ⟨V, 0, none⟩ = some x) (hop : ∃ a b, (FmtStop.operand "fmt.errorf" true 113 false x).run Tryf.prog w = .ok (a, b) w) :
    Calls Tryf.prog 19 #[.string ⟨#[108, 105, 110, 101, 32, 37, 113, 32, 105, 115, 32, 110, 111, 116, 32, 97, 32, 110, 97, 109, 101, 115, 112, 97, 99, 101, 44, 32, 97, 32, 117, 110, 105, 116, 32, 97, 110, 100, 32, 97, 32, 115, 101, 113, 117, 101, 110, 99, 101, 32, 110, 117, 109, 98, 101, 114]⟩, .slice (some ⟨V, 0, none⟩) 1 1] w fun e w' => IsErr e ∧ Below w.heap.size w w' := by
  have hF' := answers_open hF
  obtain ⟨a, b, hop⟩ := hop
  go_enter Tryf.func19, Tryf.ntmps19
  go_wp2
  go_ret
  exact ⟨⟨_, _, rfl⟩, ((Below.refl _ w).alloc (Nat.le_refl _) _).drew⟩

set_option maxRecDepth 100000 in
set_option maxHeartbeats 1000000 in
theorem errf2 (F : Interp) (V : Nat) (x : Value) (w : World) (hF : F.answers w.tape) (hV : w.cell? ⟨V, 0, none⟩ = some x) (hop : ∃ a b, (FmtStop.operand "fmt.errorf" true 113 false x).run Tryf.prog w = .ok (a, b) w) :
    Calls Tryf.prog 19 #[.string ⟨#[110, 97, 109, 101, 115, 112, 97, 99, 101, 32, 37, 113, 32, 104, 97, 115, 32, 116, 119, 111, 32, 108, 105, 110, 101, 115]⟩, .slice (some ⟨V, 0, none⟩) 1 1] w fun e w' => IsErr e ∧ Below w.heap.size w w' := by
  have hF' := answers_open hF
  obtain ⟨a, b, hop⟩ := hop
  go_enter Tryf.func19, Tryf.ntmps19
  go_wp2
  go_ret
  exact ⟨⟨_, _, rfl⟩, ((Below.refl _ w).alloc (Nat.le_refl _) _).drew⟩
end Go.Proofs.Qxb6608740aFmt
