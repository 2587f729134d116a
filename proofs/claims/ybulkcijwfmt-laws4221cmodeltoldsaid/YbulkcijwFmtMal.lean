import Derived.Test.YbulkcijwFmtRows
import Derived.WalkKit
import Derived.WalkSpells
import Derived.WalkLawsBesides
import Derived.Below
import Derived.Deep.QuietTactic
import Derived.BigQuiet
import Derived.Outline
import Derived.Stop.CallBack
import Derived.Stop.IfaceNil
import GoSem.ClaimData
namespace Go.Proofs.YbulkcijwFmt
open Go.RowKit Go.Extern.Stop Go.Stop Go.Extern

theorem Ybaf.call13 (args : Array Value) (w : World) : (callFunc 13 args).run Ybaf.prog w = ((FmtStop.errorf #[9, 44] #[25] args).run Ybaf.prog w).andThen fun v w' => .ok (.value v) w' :=
  run_callFunc_extern Ybaf.func13 (by kernel_rfl) (by kernel_rfl) (by kernel_rfl) (by kernel_rfl) args w
theorem Ybaf.guard (name : String) (w : World) : (FmtStop.guard name).run Ybaf.prog w = .ok () w := by kernel_rfl
-- "the server's %q message is malformed"
theorem Ybaf.fmt0 : FmtStop.printed? ⟨#[116, 104, 101, 32, 115, 101, 114, 118, 101, 114, 39, 115, 32, 37, 113, 32, 109, 101, 115, 115, 97, 103, 101, 32, 105, 115, 32, 109, 97, 108, 102, 111, 114, 109, 101, 100]⟩ 1 = some [(0, 113, false)] := by kernel_rfl
theorem Ybaf.fmt0r (w : World) : (FmtDoors.printed ⟨#[116, 104, 101, 32, 115, 101, 114, 118, 101, 114, 39, 115, 32, 37, 113, 32, 109, 101, 115, 115, 97, 103, 101, 32, 105, 115, 32, 109, 97, 108, 102, 111, 114, 109, 101, 100]⟩ 1).run Ybaf.prog w = .ok [(0, 113, false)] w := by kernel_rfl
def Ybaf.shape5 : List UInt8 := [6, 5, 0, 0, 0, 0, 0, 0, 0, 117, 105, 110, 116, 56]
theorem Ybaf.op5_113w (name : String) (x : Int) (w : World) : (FmtStop.operand name true 113 false (.iface 5 (.int .u8 x))).run Ybaf.prog w = .ok (Ybaf.shape5, Go.Extern.Stop.digits 8 (x % 2 ^ 64).toNat) w := by kernel_rfl
theorem Ybaf.elem47 (w : World) : (elemOf 47).run Ybaf.prog w = .ok 49 w := by kernel_rfl
theorem Ybaf.ptr47 (w : World) : (FmtStop.ptrTo "errors.errorString").run Ybaf.prog w = .ok 47 w := by kernel_rfl

attribute [local go_sem] Ybaf.call13 Ybaf.guard Ybaf.fmt0 Ybaf.fmt0r Ybaf.op5_113w Ybaf.ptr47 Ybaf.elem47

/-- 'r.malformed()': an error that is not nil; two new blocks, nothing old has turned. -/
theorem mal_any (F : Interp) (rb : Nat) (kind : Int) (w : World) (hF : F.answers w.tape) (h0 : w.cell? ⟨rb, 0, none⟩ = some (.int .u8 kind)) :
    Calls Ybaf.prog 11 #[.pointer (some ⟨rb, 0, none⟩)] w fun e w' => (∃ t x, e = .returned (.iface t x)) ∧ Below w.heap.size w w' := by
  have hF' := answers_open hF
  go_enter Ybaf.func11, Ybaf.ntmps11
  go_wp2
  go_ret
  exact ⟨⟨_, _, rfl⟩, Below.drew (Below.alloc (Below.alloc (Below.refl _ _) (Nat.le_refl _) _) (by simp) _)⟩
end Go.Proofs.YbulkcijwFmt
