/- atomic.Bool's Load and Store, mainT's Skipped and SkipNow, the law's closure: contracts. -/
import Derived.Test.YbulkcimaRows
import Derived.WalkKit
import Derived.ProofKit
import Derived.Laws.LoneSync
import Derived.OneCell
namespace Go.Proofs.Ybulkcima
open Go.ChangeShapes Go.WideShapes Go.ChangeAt Go.RowKit

section
variable {P : Program} {t : TypeId} {ps rs : Array TypeId} {va : Bool}
theorem run_eql_func_nil (hp : P.underlying t = some (.func ps rs va)) (f : Fn) (a c : Array Value) (w : World) : (binOp .eql t (.func f a c) .nilFunc).run P w = .ok (.bool false) w := by
  have h : ∀ d : Nat, (Op.equalIn (d + 1) t (.func f a c) .nilFunc).run P w = .ok false w := fun d => by
    simp [Op.equalIn, run_underlying hp]
  simp only [binOp]
  simp [Op.equal, Op.maxDepth, h 9999]

theorem run_neq_func_nil (hp : P.underlying t = some (.func ps rs va)) (f : Fn) (a c : Array Value) (w : World) : (binOp .neq t (.func f a c) .nilFunc).run P w = .ok (.bool true) w := by
  have h : ∀ d : Nat, (Op.equalIn (d + 1) t (.func f a c) .nilFunc).run P w = .ok false w := fun d => by
    simp [Op.equalIn, run_underlying hp]
  simp only [binOp]
  simp [Op.equal, Op.maxDepth, h 9999]

theorem run_eql_nil_nil (hp : P.underlying t = some (.func ps rs va)) (w : World) : (binOp .eql t .nilFunc .nilFunc).run P w = .ok (.bool true) w := by
  have h : ∀ d : Nat, (Op.equalIn (d + 1) t .nilFunc .nilFunc).run P w = .ok true w := fun d => by
    simp [Op.equalIn, run_underlying hp]
  simp only [binOp]
  simp [Op.equal, Op.maxDepth, h 9999]
end

/-- sync/atomic's b32. -/
def b2 (p : Bool) : Int := cond p 1 0

theorem load_calls (a : Addr) (p : Bool) (w : World) (hc : w.cell? a = some (.int .u32 (b2 p))) :
    Calls Yba.prog 6 #[.pointer (some a)] w fun e w' => e = .returned (.bool p) ∧ w' = w := by
  have hl := run_call_load (P := Yba.prog) Yba.func12 (by kernel_rfl) (by kernel_rfl) (by kernel_rfl) .u32 (by kernel_rfl) hc
  cases p
  all_goals
    simp only [b2, cond] at hl hc
    go_enter Yba.func6, Yba.ntmps6
    go_wp2
    go_ret
    exact ⟨rfl, rfl⟩

theorem store_calls (a : Addr) (p : Bool) (u : Value) (w : World) (hc : w.cell? a = some u) (hz : w.frozen? a = false) :
    Calls Yba.prog 4 #[.pointer (some a), .bool p] w fun e w' => e = .returned (.tuple #[]) ∧ w' = w.drew.setCell a (.int .u32 (b2 p)) := by
  have hc' : w.drew.cell? a = some u := by go_simp
  have hz' : w.drew.frozen? a = false := by go_simp
  have hst := run_call_store (P := Yba.prog) Yba.func10 (by kernel_rfl) (by kernel_rfl) (by kernel_rfl) (by kernel_rfl) (k := .u32) (y := b2 p) hc' hz'
  cases p
  all_goals
    simp only [b2, cond] at hst ⊢
    go_enter Yba.func4, Yba.ntmps4
    go_wp2
    go_region_calls
    all_goals (go_end0; exact ⟨rfl, rfl⟩)

theorem skipped_calls (b : Nat) (p : Bool) (w : World) (hc : w.cell? ⟨b, 2, none⟩ = some (.int .u32 (b2 p))) :
    Calls Yba.prog 7 #[.pointer (some ⟨b, 0, none⟩)] w fun e w' => e = .returned (.bool p) ∧ w' = w := by
  go_enter Yba.func7, Yba.ntmps7
  go_wp2_with (go_at_call 6; refine (load_calls _ p _ hc).mono ?_; rintro e w' ⟨rfl, rfl⟩)
  go_ret
  exact ⟨rfl, rfl⟩

theorem name_calls (b : Nat) (w : World) :
    Calls Yba.prog 9 #[.pointer (some ⟨b, 0, none⟩)] w fun e w' => e = .returned (.string ⟨#[84, 101, 115, 116, 77, 97, 105, 110]⟩) ∧ w' = w := by
  go_enter Yba.func9, Yba.ntmps9
  go_wp2
  go_ret
  exact ⟨rfl, rfl⟩

/-- The mainT's block: its SkipNow the closure over the blocks N (calls), N + 3 (mt) and N + 1 (seenUnmarked). -/
def mtCells (N : Nat) (p : Bool) : Array Value :=
  #[.nilFunc, .func (.func 5) #[] #[.pointer (some ⟨N, 0, none⟩), .pointer (some ⟨N + 3, 0, none⟩), .pointer (some ⟨N + 1, 0, none⟩)], .int .u32 (b2 p), .int .i32 0, .int .u32 0, .slice none 0 0, .bool false]

structure St (w : World) (N : Nat) (i : Int) (p : Bool) (wr : World) : Prop where
  c0 : wr.heap[N]? = some (.cells #[.int .i64 i] 3 (0, 0))
  c1 : wr.heap[N + 1]? = some (.cells #[.bool false] 4 (0, 0))
  c2 : wr.heap[N + 2]? = some (.cells (mtCells N p) 43 (0, 0))
  c3 : wr.heap[N + 3]? = some (.cells #[.pointer (some ⟨N + 2, 0, none⟩)] 23 (0, 0))
  g : Grown w wr
end Go.Proofs.Ybulkcima
