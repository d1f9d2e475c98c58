import Derived.Test.Qxb6609341aFmtRows
import Derived.WalkKit
import Derived.WalkSpells
import Derived.WalkLawsBesides
import Derived.Outline
import Derived.RowKit3
import Derived.Stop.CallBack
import Derived.Stop.IfaceNil
import GoSem.ClaimData
namespace Go.Proofs.Qxb6609341aFmt
open Go.RowKit Go.Extern.Stop Go.Stop Go.Extern

/-! ### The closed facts of the stop 'fmt.errorf' at this dump -/
theorem call18 (args : Array Value) (w : World) : (callFunc 18 args).run Tryf.prog w = ((FmtStop.errorf #[9, 55] #[38] args).run Tryf.prog w).andThen fun v w' => .ok (.value v) w' :=
  run_callFunc_extern Tryf.func18 (by kernel_rfl) (by kernel_rfl) (by kernel_rfl) (by kernel_rfl) args w
theorem guard0 (name : String) (w : World) : (FmtStop.guard name).run Tryf.prog w = .ok () w := by kernel_rfl
theorem fmtRun (w : World) : (FmtDoors.printed ⟨#[100, 97, 101, 109, 111, 110, 32, 37, 115, 32, 105, 115, 32, 114, 117, 110, 110, 105, 110, 103]⟩ 1).run Tryf.prog w = .ok [(0, 115, false)] w := by kernel_rfl
theorem fmtTwice (w : World) : (FmtDoors.printed ⟨#[100, 97, 101, 109, 111, 110, 32, 37, 115, 32, 105, 115, 32, 110, 97, 109, 101, 100, 32, 116, 119, 105, 99, 101]⟩ 1).run Tryf.prog w = .ok [(0, 115, false)] w := by kernel_rfl
theorem fmtCut (w : World) : (FmtDoors.printed ⟨#[116, 104, 101, 32, 108, 105, 110, 107, 32, 98, 101, 116, 119, 101, 101, 110, 32, 37, 115, 32, 97, 110, 100, 32, 37, 115, 32, 105, 115, 32, 99, 117, 116, 32, 97, 108, 114, 101, 97, 100, 121]⟩ 2).run Tryf.prog w = .ok [(0, 115, false), (1, 115, false)] w := by kernel_rfl
theorem fmtNot (w : World) : (FmtDoors.printed ⟨#[116, 104, 101, 32, 108, 105, 110, 107, 32, 98, 101, 116, 119, 101, 101, 110, 32, 37, 115, 32, 97, 110, 100, 32, 37, 115, 32, 105, 115, 32, 110, 111, 116, 32, 99, 117, 116]⟩ 2).run Tryf.prog w = .ok [(0, 115, false), (1, 115, false)] w := by kernel_rfl
def shape9 : List UInt8 := [12, 6, 0, 0, 0, 0, 0, 0, 0, 115, 116, 114, 105, 110, 103]
theorem op9_115w (name : String) (x : ByteArray) (w : World) : (FmtStop.operand name true 115 false (.iface 9 (.string x))).run Tryf.prog w = .ok (shape9, FmtStop.pack x.data.toList) w := by kernel_rfl
theorem ptr58 (w : World) : (FmtStop.ptrTo "errors.errorString").run Tryf.prog w = .ok 58 w := by kernel_rfl
theorem elem58 (w : World) : (elemOf 58).run Tryf.prog w = .ok 60 w := by kernel_rfl
attribute [local go_sem] call18 guard0 fmtRun fmtTwice fmtCut fmtNot op9_115w ptr58 elem58

set_option maxHeartbeats 1000000 in
theorem errorfRun (F : Interp) (b cap : Nat) (d : ByteArray) (w : World) (hF : F.answers w.tape) (hc : w.cell? ⟨b, 0, none⟩ = some (.iface 9 (.string d))) :
    Calls Tryf.prog 15 #[.string ⟨#[100, 97, 101, 109, 111, 110, 32, 37, 115, 32, 105, 115, 32, 114, 117, 110, 110, 105, 110, 103]⟩, .slice (some ⟨b, 0, none⟩) 1 cap] w fun e w' =>
      (∃ a, e = .returned (.iface 58 (.pointer (some a)))) ∧ Below w.heap.size w w' := by
  have hF' := hF
  unfold Interp.answers at hF'
  go_enter Tryf.func15, Tryf.ntmps15
  go_wp2
  go_ret
  exact ⟨⟨_, rfl⟩, ((Below.refl _ _).alloc (Nat.le_refl _) _).drew⟩

set_option maxHeartbeats 1000000 in
theorem errorfTwice (F : Interp) (b cap : Nat) (d : ByteArray) (w : World) (hF : F.answers w.tape) (hc : w.cell? ⟨b, 0, none⟩ = some (.iface 9 (.string d))) :
    Calls Tryf.prog 15 #[.string ⟨#[100, 97, 101, 109, 111, 110, 32, 37, 115, 32, 105, 115, 32, 110, 97, 109, 101, 100, 32, 116, 119, 105, 99, 101]⟩, .slice (some ⟨b, 0, none⟩) 1 cap] w fun e w' =>
      (∃ a, e = .returned (.iface 58 (.pointer (some a)))) ∧ Below w.heap.size w w' := by
  have hF' := hF
  unfold Interp.answers at hF'
  go_enter Tryf.func15, Tryf.ntmps15
  go_wp2
  go_ret
  exact ⟨⟨_, rfl⟩, ((Below.refl _ _).alloc (Nat.le_refl _) _).drew⟩

set_option maxHeartbeats 1000000 in
theorem errorfCut (F : Interp) (b cap : Nat) (d1 d2 : ByteArray) (w : World) (hF : F.answers w.tape) (hc : w.cell? ⟨b, 0, none⟩ = some (.iface 9 (.string d1))) (hc2 : w.cell? ⟨b, 1, none⟩ = some (.iface 9 (.string d2))) :
    Calls Tryf.prog 15 #[.string ⟨#[116, 104, 101, 32, 108, 105, 110, 107, 32, 98, 101, 116, 119, 101, 101, 110, 32, 37, 115, 32, 97, 110, 100, 32, 37, 115, 32, 105, 115, 32, 99, 117, 116, 32, 97, 108, 114, 101, 97, 100, 121]⟩, .slice (some ⟨b, 0, none⟩) 2 cap] w fun e w' =>
      (∃ a, e = .returned (.iface 58 (.pointer (some a)))) ∧ Below w.heap.size w w' := by
  have hF' := hF
  unfold Interp.answers at hF'
  go_enter Tryf.func15, Tryf.ntmps15
  go_wp2
  go_ret
  exact ⟨⟨_, rfl⟩, ((Below.refl _ _).alloc (Nat.le_refl _) _).drew⟩

set_option maxHeartbeats 1000000 in
theorem errorfNot (F : Interp) (b cap : Nat) (d1 d2 : ByteArray) (w : World) (hF : F.answers w.tape) (hc : w.cell? ⟨b, 0, none⟩ = some (.iface 9 (.string d1))) (hc2 : w.cell? ⟨b, 1, none⟩ = some (.iface 9 (.string d2))) :
    Calls Tryf.prog 15 #[.string ⟨#[116, 104, 101, 32, 108, 105, 110, 107, 32, 98, 101, 116, 119, 101, 101, 110, 32, 37, 115, 32, 97, 110, 100, 32, 37, 115, 32, 105, 115, 32, 110, 111, 116, 32, 99, 117, 116]⟩, .slice (some ⟨b, 0, none⟩) 2 cap] w fun e w' =>
      (∃ a, e = .returned (.iface 58 (.pointer (some a)))) ∧ Below w.heap.size w w' := by
  have hF' := hF
  unfold Interp.answers at hF'
  go_enter Tryf.func15, Tryf.ntmps15
  go_wp2
  go_ret
  exact ⟨⟨_, rfl⟩, ((Below.refl _ _).alloc (Nat.le_refl _) _).drew⟩

end Go.Proofs.Qxb6609341aFmt
