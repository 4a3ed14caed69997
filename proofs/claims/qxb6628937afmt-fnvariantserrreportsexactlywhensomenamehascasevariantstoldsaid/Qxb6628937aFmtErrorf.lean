/-
  fmt.Errorf at the two formats of (*Variants).Err: it hands back an error that is not nil; only new memory is made.
-/
import Derived.Test.Qxb6628937aFmtRows
import Derived.WalkKit
import Derived.WalkSpells
import Derived.WalkLawsBesides
import Derived.Stop.CallBack
import Derived.Stop.IfaceNil
namespace Go.Proofs.Qxb6628937aFmt
open Go.RowKit Go.Extern.Stop Go.Stop Go.Extern

theorem Tryf.call14 (args : Array Value) (w : World) : (callFunc 14 args).run Tryf.prog w = ((FmtStop.errorf #[9, 45] #[32] args).run Tryf.prog w).andThen fun v w' => .ok (.value v) w' :=
  run_callFunc_extern Tryf.func14 (by kernel_rfl) (by kernel_rfl) (by kernel_rfl) (by kernel_rfl) args w
theorem Tryf.guard (name : String) (w : World) : (FmtStop.guard name).run Tryf.prog w = .ok () w := by kernel_rfl
theorem Tryf.op9_113w (name : String) (x : ByteArray) (w : World) : (FmtStop.operand name true 113 false (.iface 9 (.string x))).run Tryf.prog w = .ok ([12, 6, 0, 0, 0, 0, 0, 0, 0, 115, 116, 114, 105, 110, 103], FmtStop.pack x.data.toList) w := by kernel_rfl
theorem Tryf.ptr51 (w : World) : (FmtStop.ptrTo "errors.errorString").run Tryf.prog w = .ok 51 w := by kernel_rfl
theorem Tryf.elem51 (w : World) : (elemOf 51).run Tryf.prog w = .ok 53 w := by kernel_rfl

/-- The format of the report on one member. -/
def fmtOne : ByteArray := ⟨#[109, 101, 109, 98, 101, 114, 32, 37, 113, 32, 100, 105, 102, 102, 101, 114, 115, 32, 111, 110, 108, 121, 32, 105, 110, 32, 108, 101, 116, 116, 101, 114, 32, 99, 97, 115, 101, 32, 102, 114, 111, 109, 32, 37, 113]⟩
/-- The format of the report on two members. -/
def fmtTwo : ByteArray := ⟨#[109, 101, 109, 98, 101, 114, 115, 32, 37, 113, 32, 97, 110, 100, 32, 37, 113, 32, 100, 105, 102, 102, 101, 114, 32, 111, 110, 108, 121, 32, 105, 110, 32, 108, 101, 116, 116, 101, 114, 32, 99, 97, 115, 101]⟩
theorem Tryf.fmt1r (w : World) : (FmtDoors.printed fmtOne 2).run Tryf.prog w = .ok [(0, 113, false), (1, 113, false)] w := by kernel_rfl
theorem Tryf.fmt2r (w : World) : (FmtDoors.printed fmtTwo 2).run Tryf.prog w = .ok [(0, 113, false), (1, 113, false)] w := by kernel_rfl

attribute [local go_sem] Tryf.call14 Tryf.guard Tryf.op9_113w Tryf.ptr51 Tryf.elem51

set_option maxHeartbeats 400000 in
theorem errorf_any (f : ByteArray) (hf : ∀ w : World, (FmtDoors.printed f 2).run Tryf.prog w = .ok [(0, 113, false), (1, 113, false)] w) (b c : Nat) (x y : ByteArray) (w : World)
    (h0 : w.cell? ⟨b, 0, none⟩ = some (.iface 9 (.string x))) (h1 : w.cell? ⟨b, 0 + 1, none⟩ = some (.iface 9 (.string y))) :
    Calls Tryf.prog 12 #[.string f, .slice (some ⟨b, 0, none⟩) 2 c] w fun e w' => (∃ v, e = .returned (.iface 51 v)) ∧ Below w.heap.size w w' := by
  go_enter Tryf.func12, Tryf.ntmps12
  go_wp2
  go_ret
  exact ⟨⟨_, rfl⟩, ((Below.refl _ _).alloc (Nat.le_refl _) _).drew⟩
end Go.Proofs.Qxb6628937aFmt
