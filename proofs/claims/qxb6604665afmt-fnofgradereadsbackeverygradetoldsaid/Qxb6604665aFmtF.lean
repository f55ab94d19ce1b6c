/-
  DERIVED. fmt.Errorf AT THE TWO FORMATS OF OfGrade: an error comes back, nothing that lay before has turned. (The closed facts as the kit's NameFmt texts lay them.)
-/
import Derived.Test.Qxb6604665aFmtE
import Derived.Stop.CallBack
import Derived.Stop.IfaceNil
import GoSem.ClaimData
namespace Go.Proofs.Qxb6604665aFmt
open Go.RowKit Go.Extern.Stop Go.Stop Go.Extern
set_option linter.unusedVariables false

theorem call25 (args : Array Value) (w : World) : (callFunc 25 args).run Tryf.prog w = ((FmtStop.errorf #[9, 64] #[37] args).run Tryf.prog w).andThen fun v w' => .ok (.value v) w' :=
  run_callFunc_extern Tryf.func25 (by kernel_rfl) (by kernel_rfl) (by kernel_rfl) (by kernel_rfl) args w
theorem guardF (name : String) (w : World) : (FmtStop.guard name).run Tryf.prog w = .ok () w := by kernel_rfl
theorem fmt0 : FmtStop.printed? ⟨#[103, 114, 97, 100, 101, 32, 37, 46, 52, 48, 113, 58, 32, 116, 104, 101, 32, 112, 108, 97, 110, 32, 103, 105, 118, 101, 115, 32, 110, 111, 32, 112, 101, 114, 115, 111, 110, 97, 108, 46, 103, 114, 97, 100, 101, 115]⟩ 1 = some [(0, 113, false)] := by kernel_rfl
theorem fmt0r (w : World) : (FmtDoors.printed ⟨#[103, 114, 97, 100, 101, 32, 37, 46, 52, 48, 113, 58, 32, 116, 104, 101, 32, 112, 108, 97, 110, 32, 103, 105, 118, 101, 115, 32, 110, 111, 32, 112, 101, 114, 115, 111, 110, 97, 108, 46, 103, 114, 97, 100, 101, 115]⟩ 1).run Tryf.prog w = .ok [(0, 113, false)] w := by kernel_rfl
theorem fmt1 : FmtStop.printed? ⟨#[103, 114, 97, 100, 101, 32, 37, 46, 52, 48, 113, 32, 105, 115, 32, 110, 111, 116, 32, 111, 110, 101, 32, 111, 102, 32, 112, 101, 114, 115, 111, 110, 97, 108, 46, 103, 114, 97, 100, 101, 115, 44, 32, 37, 115]⟩ 2 = some [(0, 113, false), (1, 115, false)] := by kernel_rfl
theorem fmt1r (w : World) : (FmtDoors.printed ⟨#[103, 114, 97, 100, 101, 32, 37, 46, 52, 48, 113, 32, 105, 115, 32, 110, 111, 116, 32, 111, 110, 101, 32, 111, 102, 32, 112, 101, 114, 115, 111, 110, 97, 108, 46, 103, 114, 97, 100, 101, 115, 44, 32, 37, 115]⟩ 2).run Tryf.prog w = .ok [(0, 113, false), (1, 115, false)] w := by kernel_rfl
def shape9 : List UInt8 := [12, 6, 0, 0, 0, 0, 0, 0, 0, 115, 116, 114, 105, 110, 103]
theorem op9_113 (name : String) (x : ByteArray) (w : World) : (FmtStop.operand name false 113 false (.iface 9 (.string x))).run Tryf.prog w = .ok (shape9, FmtStop.pack x.data.toList) w := by kernel_rfl
theorem op9_115 (name : String) (x : ByteArray) (w : World) : (FmtStop.operand name false 115 false (.iface 9 (.string x))).run Tryf.prog w = .ok (shape9, FmtStop.pack x.data.toList) w := by kernel_rfl
theorem op9_113w (name : String) (x : ByteArray) (w : World) : (FmtStop.operand name true 113 false (.iface 9 (.string x))).run Tryf.prog w = .ok (shape9, FmtStop.pack x.data.toList) w := by kernel_rfl
theorem op9_115w (name : String) (x : ByteArray) (w : World) : (FmtStop.operand name true 115 false (.iface 9 (.string x))).run Tryf.prog w = .ok (shape9, FmtStop.pack x.data.toList) w := by kernel_rfl
theorem strict9 (name : String) (x : ByteArray) (w : World) : (FmtStop.strict name (.iface 9 (.string x))).run Tryf.prog w = .ok (shape9, FmtStop.pack x.data.toList) w := by kernel_rfl
theorem ptr78 (w : World) : (FmtStop.ptrTo "errors.errorString").run Tryf.prog w = .ok 78 w := by kernel_rfl
theorem elem78 (w : World) : (elemOf 78).run Tryf.prog w = .ok 80 w := by kernel_rfl
theorem isError78 (w : World) : (FmtDoors.textMethod 78 "Error").run Tryf.prog w = .ok true w := by kernel_rfl
attribute [local go_sem] call25 guardF fmt0 fmt0r fmt1 fmt1r op9_113 op9_115 op9_113w op9_115w strict9 ptr78 elem78 isError78

set_option maxRecDepth 100000 in
set_option maxHeartbeats 400000 in
theorem errorf_one (F : Interp) (b : Nat) (s : ByteArray) (w : World) (hF : F.answers w.tape) (hc : w.cell? ⟨b, 0, none⟩ = some (.iface 9 (.string s))) :
    Calls Tryf.prog 18 #[.string ⟨#[103, 114, 97, 100, 101, 32, 37, 46, 52, 48, 113, 58, 32, 116, 104, 101, 32, 112, 108, 97, 110, 32, 103, 105, 118, 101, 115, 32, 110, 111, 32, 112, 101, 114, 115, 111, 110, 97, 108, 46, 103, 114, 97, 100, 101, 115]⟩, .slice (some ⟨b, 0, none⟩) 1 1] w
      fun e w' => e = .returned (.iface 78 (.pointer (some ⟨w.heap.size, 0, none⟩))) ∧ Below w.heap.size w w' := by
  have hF' := answers_open hF
  go_enter Tryf.func18, Tryf.ntmps18
  go_wp2
  go_ret
  exact ⟨rfl, ((Below.refl _ _).alloc (Nat.le_refl _) _).drew⟩

set_option maxRecDepth 100000 in
set_option maxHeartbeats 400000 in
theorem errorf_two (F : Interp) (b : Nat) (s t : ByteArray) (w : World) (hF : F.answers w.tape) (hc : w.cell? ⟨b, 0, none⟩ = some (.iface 9 (.string s))) (hc1 : w.cell? ⟨b, 1, none⟩ = some (.iface 9 (.string t))) :
    Calls Tryf.prog 18 #[.string ⟨#[103, 114, 97, 100, 101, 32, 37, 46, 52, 48, 113, 32, 105, 115, 32, 110, 111, 116, 32, 111, 110, 101, 32, 111, 102, 32, 112, 101, 114, 115, 111, 110, 97, 108, 46, 103, 114, 97, 100, 101, 115, 44, 32, 37, 115]⟩, .slice (some ⟨b, 0, none⟩) 2 2] w
      fun e w' => e = .returned (.iface 78 (.pointer (some ⟨w.heap.size, 0, none⟩))) ∧ Below w.heap.size w w' := by
  have hF' := answers_open hF
  go_enter Tryf.func18, Tryf.ntmps18
  go_wp2
  go_ret
  exact ⟨rfl, ((Below.refl _ _).alloc (Nat.le_refl _) _).drew⟩

end Go.Proofs.Qxb6604665aFmt
