/-
  fmt.Errorf AT ITS STOP: whatever text fmt gives, the error that comes back is not nil (for every F that answers the stop).
-/
import Derived.Test.Qxb6608740aFmtBase
import Derived.Stop.CallBack
import Derived.Stop.IfaceNil
import Derived.Laws.Cells
import Derived.Stop.FmtTextSlices
import GoSem.ClaimData
namespace Go.Proofs
open Go.Extern.Stop Go.Stop Go.Extern

theorem Tryf.call24 (args : Array Value) (w : World) : (callFunc 24 args).run Tryf.prog w = ((FmtStop.errorf #[9, 67] #[28] args).run Tryf.prog w).andThen fun v w' => .ok (.value v) w' :=
  run_callFunc_extern Tryf.func24 (by kernel_rfl) (by kernel_rfl) (by kernel_rfl) (by kernel_rfl) args w
theorem Tryf.guard (name : String) (w : World) : (FmtStop.guard name).run Tryf.prog w = .ok () w := by kernel_rfl
theorem Tryf.fmt0 : FmtStop.printed? ⟨#[104, 111, 108, 100, 115, 32, 37, 113, 44, 32, 110, 111, 116, 32, 119, 104, 111, 108, 101, 32, 108, 105, 110, 101, 115]⟩ 1 = some [(0, 113, false)] := by kernel_rfl
theorem Tryf.fmt0r (w : World) : (FmtDoors.printed ⟨#[104, 111, 108, 100, 115, 32, 37, 113, 44, 32, 110, 111, 116, 32, 119, 104, 111, 108, 101, 32, 108, 105, 110, 101, 115]⟩ 1).run Tryf.prog w = .ok [(0, 113, false)] w := by kernel_rfl
theorem Tryf.fmt1 : FmtStop.printed? ⟨#[108, 105, 110, 101, 32, 37, 113, 32, 105, 115, 32, 110, 111, 116, 32, 97, 32, 110, 97, 109, 101, 115, 112, 97, 99, 101, 44, 32, 97, 32, 117, 110, 105, 116, 32, 97, 110, 100, 32, 97, 32, 115, 101, 113, 117, 101, 110, 99, 101, 32, 110, 117, 109, 98, 101, 114]⟩ 1 = some [(0, 113, false)] := by kernel_rfl
theorem Tryf.fmt1r (w : World) : (FmtDoors.printed ⟨#[108, 105, 110, 101, 32, 37, 113, 32, 105, 115, 32, 110, 111, 116, 32, 97, 32, 110, 97, 109, 101, 115, 112, 97, 99, 101, 44, 32, 97, 32, 117, 110, 105, 116, 32, 97, 110, 100, 32, 97, 32, 115, 101, 113, 117, 101, 110, 99, 101, 32, 110, 117, 109, 98, 101, 114]⟩ 1).run Tryf.prog w = .ok [(0, 113, false)] w := by kernel_rfl
theorem Tryf.fmt2 : FmtStop.printed? ⟨#[110, 97, 109, 101, 115, 112, 97, 99, 101, 32, 37, 113, 32, 104, 97, 115, 32, 116, 119, 111, 32, 108, 105, 110, 101, 115]⟩ 1 = some [(0, 113, false)] := by kernel_rfl
theorem Tryf.fmt2r (w : World) : (FmtDoors.printed ⟨#[110, 97, 109, 101, 115, 112, 97, 99, 101, 32, 37, 113, 32, 104, 97, 115, 32, 116, 119, 111, 32, 108, 105, 110, 101, 115]⟩ 1).run Tryf.prog w = .ok [(0, 113, false)] w := by kernel_rfl
def Tryf.shape9 : List UInt8 := [12, 6, 0, 0, 0, 0, 0, 0, 0, 115, 116, 114, 105, 110, 103]
theorem Tryf.op9_113w (name : String) (x : ByteArray) (w : World) : (FmtStop.operand name true 113 false (.iface 9 (.string x))).run Tryf.prog w = .ok (Tryf.shape9, FmtStop.pack x.data.toList) w := by kernel_rfl
theorem Tryf.ptr78 (w : World) : (FmtStop.ptrTo "errors.errorString").run Tryf.prog w = .ok 78 w := by kernel_rfl
theorem Tryf.elem78 (w : World) : (elemOf 78).run Tryf.prog w = .ok 80 w := by kernel_rfl
theorem Tryf.isError78' (w : World) : (FmtDoors.textMethod 78 "Error").run Tryf.prog w = .ok true w := by kernel_rfl
/-- The name of the type of a slice of bytes, sign by sign. -/
def Tryf.nm22 : String := String.ofList [Char.ofNat 91, Char.ofNat 93, Char.ofNat 117, Char.ofNat 105, Char.ofNat 110, Char.ofNat 116, Char.ofNat 56]
def Tryf.shape22 : List UInt8 := 13 :: (FmtStop.pack Tryf.nm22.toUTF8.data.toList ++ 6 :: FmtStop.pack "uint8".toUTF8.data.toList)
theorem Tryf.opNil_113w (name : String) (w : World) : (FmtStop.operand name true 113 false (.iface 22 (.slice none 0 0))).run Tryf.prog w = .ok (Tryf.shape22, [0]) w := by kernel_rfl
theorem Tryf.value5 (name : String) (x : Int) (w : World) : (FmtStop.value name FmtStop.depth 5 [.int .u8 x]).run Tryf.prog w = .ok (digits 8 (x % 2 ^ 64).toNat) w := by kernel_rfl
theorem Tryf.values5 (name : String) (w : World) : ∀ xs : List Int, (List.mapM ((fun c => FmtStop.value name FmtStop.depth 5 [c]) ∘ Value.int IntKind.u8) xs).run Tryf.prog w = .ok (xs.map fun x => digits 8 (x % 18446744073709551616).toNat) w
  | [] => by simp [List.mapM_nil]
  | x :: xs => by
    have ih := Tryf.values5 name w xs
    have h := Tryf.value5 name x w
    simp [List.mapM_cons, h, ih, Result.andThen]
theorem Tryf.opBytes_113w (name : String) (a : Addr) (cap : Nat) (xs : List Int) (w : World) (hc : ∀ j v, (xs.map (Value.int .u8))[j]? = some v → w.cell? (a.add j) = some v) :
    (FmtStop.operand name true 113 false (.iface 22 (.slice (some a) xs.length cap))).run Tryf.prog w = .ok (Tryf.shape22, 1 :: (digits 8 xs.length ++ FmtText.intValues xs)) w := by
  have h1 : (typeStr 22).run Tryf.prog w = .ok Tryf.nm22 w := by kernel_rfl
  have hb : (FmtStop.bare (FmtStop.asked true 113 false) 22).run Tryf.prog w = .ok true w := by kernel_rfl
  have hs : (FmtStop.scalar 5).run Tryf.prog w = .ok true w := by kernel_rfl
  have hy : (Extern.Stop.isByte 5).run Tryf.prog w = .ok true w := by kernel_rfl
  have hw : Tryf.prog.funcs.any (·.name == FmtStop.writeWord) = true := by kernel_rfl
  have hsh : (FmtStop.shape name (FmtStop.asked true 113 false) FmtStop.depth 5).run Tryf.prog w = .ok (6 :: FmtStop.pack "uint8".toUTF8.data.toList) w := by kernel_rfl
  have hl := run_loadCells_list (P := Tryf.prog) w a (xs.map (Value.int .u8)) hc
  rw [List.length_map] at hl
  simp [FmtStop.operand, h1, hb, hs, hy, hsh, hl, Tryf.values5, Tryf.shape22, FmtText.intValues]
  intro hno
  obtain ⟨i, hi, _, _, he⟩ := Array.any_iff_exists.1 hw
  exact absurd (by simpa using he) (hno i hi)
end Go.Proofs
