/-
  WALK: unicode/utf8.word[[]byte]: the number that the first eight bytes spell.
-/
import Derived.Test.Qxb6608938aDoorSmall
import Derived.Shelf.Unicode.WordAny
import Derived.Lib.ValidAsc
import Derived.Deep.QuietTactic
import Derived.BigQuiet
namespace Go.Proofs.Qxb6608938aDoor
open Go.RowKit Go.PlainAid

set_option maxHeartbeats 8000000 in
set_option maxRecDepth 100000 in
theorem word_any (b o n c : Nat) (x0 x1 x2 x3 x4 x5 x6 x7 : UInt8) (r : List UInt8) (w : World) (hr : RowAt w b o (x0 :: x1 :: x2 :: x3 :: x4 :: x5 :: x6 :: x7 :: r)) (hn : 8 ≤ n) :
    Calls Tryd.prog 21 #[.slice (some ⟨b, o, none⟩) n c] w fun e w' => e = .returned (.int .u64 (Lib.leNat [x0, x1, x2, x3, x4, x5, x6, x7])) ∧ ∃ q, w' = w.drewN q := by
  have hv : ((Lib.leNat [x0, x1, x2, x3, x4, x5, x6, x7] : Nat) : Int) = (x0.toNat : Int) + (x1.toNat : Int) * 256 + (x2.toNat : Int) * 65536 + (x3.toNat : Int) * 16777216 + (x4.toNat : Int) * 4294967296 + (x5.toNat : Int) * 1099511627776 + (x6.toNat : Int) * 281474976710656 + (x7.toNat : Int) * 72057594037927936 := by
    simp only [Lib.leNat]
    push_cast
    omega
  have c0 : w.cell? ⟨b, o, none⟩ = some (.int .u8 (x0.toNat : Int)) := hr 0 (by simp)
  have c1 : w.cell? ⟨b, o + 1, none⟩ = some (.int .u8 (x1.toNat : Int)) := hr 1 (by simp)
  have c2 : w.cell? ⟨b, o + 2, none⟩ = some (.int .u8 (x2.toNat : Int)) := hr 2 (by simp)
  have c3 : w.cell? ⟨b, o + 3, none⟩ = some (.int .u8 (x3.toNat : Int)) := hr 3 (by simp)
  have c4 : w.cell? ⟨b, o + 4, none⟩ = some (.int .u8 (x4.toNat : Int)) := hr 4 (by simp)
  have c5 : w.cell? ⟨b, o + 5, none⟩ = some (.int .u8 (x5.toNat : Int)) := hr 5 (by simp)
  have c6 : w.cell? ⟨b, o + 6, none⟩ = some (.int .u8 (x6.toNat : Int)) := hr 6 (by simp)
  have c7 : w.cell? ⟨b, o + 7, none⟩ = some (.int .u8 (x7.toNat : Int)) := hr 7 (by simp)
  clear hr
  have h0 := x0.toNat_lt; have h1 := x1.toNat_lt; have h2 := x2.toNat_lt; have h3 := x3.toNat_lt; have h4 := x4.toNat_lt; have h5 := x5.toNat_lt; have h6 := x6.toNat_lt; have h7 := x7.toNat_lt
  have p0 : (0 : Int) < (n : Int) := by omega
  have p1 : (1 : Int) < (n : Int) := by omega
  have p2 : (2 : Int) < (n : Int) := by omega
  have p3 : (3 : Int) < (n : Int) := by omega
  have p4 : (4 : Int) < (n : Int) := by omega
  have p5 : (5 : Int) < (n : Int) := by omega
  have p6 : (6 : Int) < (n : Int) := by omega
  have p7 : (7 : Int) < (n : Int) := by omega
  go_enter Tryd.func21, Tryd.ntmps21
  go_wp2
  go_quiet (fail)
  go_wp2
  go_ret
  refine ⟨?_, _, rfl⟩
  simp (disch := omega) only [u64_or8, u64_or16, u64_or24, u64_or32, u64_or40, u64_or48, u64_or56]
  rw [hv]
  rfl

theorem eight (t : List UInt8) (h : 8 ≤ t.length) : ∃ x0 x1 x2 x3 x4 x5 x6 x7 r, t = x0 :: x1 :: x2 :: x3 :: x4 :: x5 :: x6 :: x7 :: r := by
  match t, h with
  | x0 :: x1 :: x2 :: x3 :: x4 :: x5 :: x6 :: x7 :: r, _ => exact ⟨x0, x1, x2, x3, x4, x5, x6, x7, r, rfl⟩
/-- What the fast path's test says of a row's first eight bytes. -/
theorem word_row (b o c n : Nat) (t : List UInt8) (ht : t.length = n) (hn : 8 ≤ n) :
    ∃ A : Nat, A < 18446744073709551616 ∧ (A &&& 9259542123273814144 = 0 → ∀ x ∈ t.take 8, x.toNat < 128) ∧
      ∀ W : World, RowAt W b o t → Calls Tryd.prog 21 #[.slice (some ⟨b, o, none⟩) n c] W fun e w' => e = .returned (.int .u64 A) ∧ ∃ q, w' = W.drewN q := by
  obtain ⟨x0, x1, x2, x3, x4, x5, x6, x7, r, rfl⟩ := eight t (by omega)
  refine ⟨Lib.leNat [x0, x1, x2, x3, x4, x5, x6, x7], ?_, ?_, fun W hr => word_any b o n c x0 x1 x2 x3 x4 x5 x6 x7 r W hr hn⟩
  · have h := Lib.leNat_lt [x0, x1, x2, x3, x4, x5, x6, x7]
    simpa using h
  · intro h
    have := (Lib.leNat_mask [x0, x1, x2, x3, x4, x5, x6, x7]).1 (by simpa [Lib.maskN8] using h)
    simpa using this
end Go.Proofs.Qxb6608938aDoor
