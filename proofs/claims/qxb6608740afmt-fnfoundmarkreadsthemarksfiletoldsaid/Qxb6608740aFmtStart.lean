/-
  WALKS: zzLineStart; the guards on the lengths.
-/
import Derived.Test.Qxb6608740aFmtFloor
namespace Go.Proofs.Qxb6608740aFmt
open Go.RowKit Go.PlainAid

/-- A line's start in d. -/
def Starts (d : List UInt8) (n : Nat) (e : Ending) : Prop := ∃ k : Nat, e = .returned (.int .i64 k) ∧ k ≤ n ∧ (k = 0 ∨ ∃ j, k = j + 1 ∧ Pl.B d j = 10)
def SomeBool (e : Ending) : Prop := ∃ g, e = .returned (.bool g)

theorem cases_eq (c d : Int) : ((c == d) = true ∧ c = d) ∨ ((c == d) = false ∧ c ≠ d) := by
  by_cases h : c = d
  · exact .inl ⟨beq_iff_eq.2 h, h⟩
  · exact .inr ⟨beq_eq_false_iff_ne.2 h, h⟩

set_option maxHeartbeats 1000000 in
theorem lineStart_some (b o n c : Nat) (d : List UInt8) (x : Int) (w : World) (hl : d.length = n) (hr : RowAt w b o d) (hn : n ≤ 65537) :
    Calls Tryf.prog 12 #[.slice (some ⟨b, o, none⟩) n c, .int .i64 x] w fun e w' => Starts d n e ∧ w' = w := by
  have hrH := hide hr
  clear hr
  go_enter Tryf.func12, Tryf.ntmps12
  go_wp2
  go_loop [5, 6, 7] (fun p s i => ∃ pk sn kk : Nat, p = .int .i64 pk ∧ s = .int .i64 sn ∧ i = .int .i64 kk ∧ kk ≤ n ∧ sn ≤ kk ∧ pk ≤ kk ∧ Hid (pk = 0 ∨ ∃ j, pk = j + 1 ∧ Pl.B d j = 10)) (fun _ _ i => n - (intOf i).toNat)
  case atStart => exact ⟨0, 0, 0, rfl, rfl, rfl, by omega, by omega, by omega, hide (.inl rfl)⟩
  case round =>
    obtain ⟨pk, sn, kk, rfl, rfl, rfl, hk, hs, hp, hlst⟩ := hrel
    by_cases hlt : kk < n
    · have hc := hrH.out kk (by omega)
      obtain ⟨y, hy⟩ : ∃ y, Pl.B d kk = y := ⟨_, rfl⟩
      rw [hy] at hc
      by_cases hat : x ≤ (sn : Int)
      · go_wp2
        go_ret
        exact ⟨⟨pk, rfl, by omega, hlst.out⟩, rfl⟩
      · obtain ⟨q1, q2⟩ | ⟨q1, q2⟩ := cases_eq y 10
        · go_wp2
          go_round
          case rel => exact ⟨kk + 1, sn + 1, kk + 1, by go_num, by go_num, by go_num, by omega, by omega, by omega, hide (.inr ⟨kk, rfl, by rw [hy]; exact q2⟩)⟩
          case measure => simp [intOf]; omega
        · go_wp2
          go_round
          case rel => exact ⟨pk, sn, kk + 1, rfl, rfl, by go_num, by omega, by omega, by omega, hlst⟩
          case measure => simp [intOf]; omega
    · go_wp2
      go_ret
      exact ⟨⟨pk, rfl, by omega, hlst.out⟩, rfl⟩
theorem lineStart_nil (x : Int) (w : World) :
    Calls Tryf.prog 12 #[.slice none 0 0, .int .i64 x] w fun e w' => Starts [] 0 e ∧ w' = w := by
  go_enter Tryf.func12, Tryf.ntmps12
  go_wp2
  go_loop [5, 7] (fun p i => p = .int .i64 0 ∧ i = .int .i64 0) (fun _ _ => 0)
  case atStart => exact ⟨rfl, rfl⟩
  case round =>
    obtain ⟨rfl, rfl⟩ := hrel
    go_wp2
    go_ret
    exact ⟨⟨0, rfl, Nat.le_refl _, .inl rfl⟩, rfl⟩

set_option maxRecDepth 100000 in
set_option maxHeartbeats 1000000 in
theorem guard5_any (p : Option Addr) (n c : Nat) (x y z : Int) (s t : ByteArray) (w : World) :
    Calls Tryf.prog 10 #[.slice p n c, .int .i64 x, .string s, .int .i64 y, .int .i64 z, .string t] w fun e w' => SomeBool e ∧ w' = w := by
  by_cases h1 : (n : Int) ≤ 1048576
  rotate_left
  · go_enter Tryf.func10, Tryf.ntmps10
    go_wp2_with fail
    go_ret
    exact ⟨⟨_, rfl⟩, rfl⟩
  by_cases h2 : (s.size : Int) ≤ 1048576
  rotate_left
  · go_enter Tryf.func10, Tryf.ntmps10
    go_wp2_with fail
    go_ret
    exact ⟨⟨_, rfl⟩, rfl⟩
  by_cases h3 : (n : Int) + s.size ≤ 1048576
  rotate_left
  · go_enter Tryf.func10, Tryf.ntmps10
    go_wp2_with fail
    go_ret
    exact ⟨⟨_, rfl⟩, rfl⟩
  by_cases h4 : (t.size : Int) ≤ 1048576
  rotate_left
  · go_enter Tryf.func10, Tryf.ntmps10
    go_wp2_with fail
    go_ret
    exact ⟨⟨_, rfl⟩, rfl⟩
  by_cases h5 : (n : Int) + s.size + t.size ≤ 1048576
  · go_enter Tryf.func10, Tryf.ntmps10
    go_wp2_with fail
    go_ret
    exact ⟨⟨_, rfl⟩, rfl⟩
  · go_enter Tryf.func10, Tryf.ntmps10
    go_wp2_with fail
    go_ret
    exact ⟨⟨_, rfl⟩, rfl⟩
end Go.Proofs.Qxb6608740aFmt
