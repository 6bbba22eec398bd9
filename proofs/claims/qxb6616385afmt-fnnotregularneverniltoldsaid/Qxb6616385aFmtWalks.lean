import Derived.Test.Qxb6616385aFmtProg
import Derived.Stop.CallBack
import Derived.Stop.IfaceNil
import GoSem.ClaimData
import Derived.WalkKit
namespace Go.Proofs.Qxb6616385aFmt
open Go.RowKit Go.Extern.Stop Go.Stop Go.Extern
theorem call8 (args : Array Value) (w : World) : (callFunc 8 args).run Tryf.prog w = ((FmtStop.errorf #[9, 27] #[24] args).run Tryf.prog w).andThen fun v w' => .ok (.value v) w' :=
  run_callFunc_extern Tryf.func8 (by kernel_rfl) (by kernel_rfl) (by kernel_rfl) (by kernel_rfl) args w
theorem guard_ok (name : String) (w : World) : (FmtStop.guard name).run Tryf.prog w = .ok () w := by kernel_rfl
theorem fmt0 : FmtStop.printed? ⟨#[37, 115, 58, 32, 110, 111, 116, 32, 97, 32, 114, 101, 103, 117, 108, 97, 114, 32, 102, 105, 108, 101]⟩ 1 = some [(0, 115, false)] := by kernel_rfl
theorem fmt0r (w : World) : (FmtDoors.printed ⟨#[37, 115, 58, 32, 110, 111, 116, 32, 97, 32, 114, 101, 103, 117, 108, 97, 114, 32, 102, 105, 108, 101]⟩ 1).run Tryf.prog w = .ok [(0, 115, false)] w := by kernel_rfl
def shape9 : List UInt8 := [12, 6, 0, 0, 0, 0, 0, 0, 0, 115, 116, 114, 105, 110, 103]
theorem op9_115 (name : String) (x : ByteArray) (w : World) : (FmtStop.operand name false 115 false (.iface 9 (.string x))).run Tryf.prog w = .ok (shape9, FmtStop.pack x.data.toList) w := by kernel_rfl
theorem op9_115w (name : String) (x : ByteArray) (w : World) : (FmtStop.operand name true 115 false (.iface 9 (.string x))).run Tryf.prog w = .ok (shape9, FmtStop.pack x.data.toList) w := by kernel_rfl
theorem strict9 (name : String) (x : ByteArray) (w : World) : (FmtStop.strict name (.iface 9 (.string x))).run Tryf.prog w = .ok (shape9, FmtStop.pack x.data.toList) w := by kernel_rfl
theorem ptr29 (w : World) : (FmtStop.ptrTo "errors.errorString").run Tryf.prog w = .ok 29 w := by kernel_rfl
theorem elem29 (w : World) : (elemOf 29).run Tryf.prog w = .ok 31 w := by kernel_rfl
theorem isError29 (w : World) : (FmtDoors.textMethod 29 "Error").run Tryf.prog w = .ok true w := by kernel_rfl
attribute [local go_sem] call8 guard_ok fmt0 fmt0r op9_115 op9_115w strict9 ptr29 elem29 isError29
theorem below1 (w : World) (o : Obj) : Below w.heap.size w (w.alloc o) := (Below.refl _ _).alloc (Nat.le_refl _) _
theorem notRegular_any (F : Interp) (nm : ByteArray) (w : World) (hF : F.answers w.tape) :
    Calls Tryf.prog 6 #[.string nm] w fun e w' => e = .returned (.iface 29 (.pointer (some ⟨w.heap.size + 1, 0, none⟩))) ∧ Below w.heap.size w w' := by
  have hF' := hF
  unfold Interp.answers at hF'
  go_enter Tryf.func6, Tryf.ntmps6
  go_wp2
  go_ret
  exact ⟨rfl, ((below1 _ _).alloc (by simp) _).drew⟩
theorem law_any (F : Interp) (nm : ByteArray) (w : World) (hF : F.answers w.tape) (hs : nm.size ≤ maxLen) :
    Calls Tryf.prog 3 #[.string nm] w fun e w' => e = .returned (.bool true) ∧ Below w.heap.size w w' := by
  unfold maxLen at hs
  by_cases h : (1048576 : Int) < (nm.size : Int)
  · go_enter Tryf.func3, Tryf.ntmps3
    go_wp2
    go_ret
    exact ⟨rfl, Below.refl _ _⟩
  · go_enter Tryf.func3, Tryf.ntmps3
    go_wp2_with (first | (go_at_call 6; refine (notRegular_any F _ _ hF).mono ?_; rintro e w' ⟨rfl, hb⟩) | go_in)
    go_ret
    exact ⟨rfl, hb⟩
end Go.Proofs.Qxb6616385aFmt
