/- LawS4234AExact: her ways. -/
import Derived.Test.YbulkciqwRows
import Derived.WalkKit
import Derived.ProofKit
import Derived.Below
import Derived.BigQuiet
import Derived.WalkSpells
import Derived.Lib.SliceRun
import Derived.Lib.Builder
namespace Go.Proofs.Ybulkciqw
open Go.ChangeShapes Go.WideShapes Go.ChangeAt Go.RowKit

theorem sl22 (w : World) (a : Option Addr) (n c n' c' : Nat) : (binOp .eql 22 (.slice a n c) (.slice none n' c')).run Yba.prog w = .ok (.bool a.isNone) w := Lib.run_eql_slice_nil (P := Yba.prog) w 22 5 a n c n' c' Yba.underlying22
theorem sl36 (w : World) (a : Option Addr) (n c n' c' : Nat) : (binOp .eql 36 (.slice a n c) (.slice none n' c')).run Yba.prog w = .ok (.bool a.isNone) w := Lib.run_eql_slice_nil (P := Yba.prog) w 36 33 a n c n' c' Yba.underlying36
theorem sn26 (w : World) (a : Option Addr) (n c n' c' : Nat) : (binOp .neq 26 (.slice a n c) (.slice none n' c')).run Yba.prog w = .ok (.bool (!a.isNone)) w := run_neq_slice_nil_any (P := Yba.prog) w 26 61 a n c n' c' Yba.underlying26
theorem pn43 (a : Addr) (w : World) : (binOp .neq 43 (.pointer (some a)) (.pointer (some a))).run Yba.prog w = .ok (.bool false) w := by
  obtain ⟨j, hj, _⟩ := Option.map_eq_some_iff.1 (show (Yba.prog.info? 5).map (fun i => i.size) = some 1 by kernel_rfl)
  exact Lib.run_neq_ptr_same w a Yba.underlying43 hj

theorem below_drewN {B : Nat} {a w : World} (h : Below B a w) (n : Nat) : Below B a (w.drewN n) := ⟨h.os, h.tape, h.output, h.size, h.block⟩

theorem nil_whole (w : World) :
    Calls Yba.prog 3 #[.int .i64 0, .slice none 0 0] w fun e w' => e = .returned (.bool true) ∧ Below w.heap.size w w' := by
  have e1 := sl22
  go_enter Yba.func3, Yba.ntmps3
  go_wp2
  go_ret
  exact ⟨rfl, Below.refl _ _⟩

theorem nil_other (a0 : Int) (h : ¬ a0 = 0) (w : World) :
    Calls Yba.prog 3 #[.int .i64 a0, .slice none 0 0] w fun e w' => e = .returned (.bool true) ∧ Below w.heap.size w w' := by
  have e1 := sl22
  have e2 := sl36
  have e3 := sn26
  go_enter Yba.func3, Yba.ntmps3
  go_wp2
  go_quiet (fail)
  go_wp2
  go_ret
  exact ⟨rfl, below_drewN ((Below.refl _ _).alloc (Nat.le_refl _) _) _⟩

theorem some_empty (a0 : Int) (x : Addr) (c : Nat) (w : World) :
    Calls Yba.prog 3 #[.int .i64 a0, .slice (some x) 0 c] w fun e w' => e = .returned (.bool true) ∧ Below w.heap.size w w' := by
  have e1 := sl22
  have e2 := sl36
  have e3 := sn26
  by_cases h : a0 = 0
  all_goals
    go_enter Yba.func3, Yba.ntmps3
    go_wp2
    go_quiet (fail)
    go_wp2
    go_ret
    exact ⟨rfl, below_drewN ((Below.refl _ _).alloc (Nat.le_refl _) _) _⟩

theorem some_full (a0 : Int) (x : Addr) (n c : Nat) (hn : 0 < n) (w : World) :
    Calls Yba.prog 3 #[.int .i64 a0, .slice (some x) n c] w fun e w' => e = .returned (.bool true) ∧ Below w.heap.size w w' := by
  have e1 := sl22
  have e2 := sl36
  have e3 := sn26
  have e4 := pn43
  have hn' : (0 : Int) < (n : Int) := by omega
  have hd : decide ((0 : Int) < (n : Int)) = true := by simpa using hn
  by_cases h : a0 = 0
  all_goals
    go_enter Yba.func3, Yba.ntmps3
    go_wp2
    go_quiet (fail)
    go_wp2
    go_ret
    exact ⟨rfl, below_drewN ((Below.refl _ _).alloc (Nat.le_refl _) _) _⟩
end Go.Proofs.Ybulkciqw
