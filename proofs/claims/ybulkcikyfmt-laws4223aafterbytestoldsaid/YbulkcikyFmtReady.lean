/- sync/atomic.Pointer[string]'s Load and Store, and (*stringVal).ready, as contracts. -/
import Derived.Test.YbulkcikyFmtRows
import Derived.WalkKit
import Derived.ProofKit
import Derived.Laws.LoneSync
import Derived.Lib.Builder
import Derived.Stop.Walk2
namespace Go.Proofs.YbulkcikyFmt
open Go.ChangeShapes Go.WideShapes Go.ChangeAt Go.RowKit

section
variable {P : Program} {f : FuncId} {fn : Func}

/-- sync/atomic.LoadPointer: what the cell holds. -/
theorem run_call_loadp (hf : P.funcs[f]? = some fn) (hname : (fn.name == "runtime.NumGoroutine") = false) (hb : fn.body.isNone = true) (hn : Extern.findNext fn = none)
    (he : Extern.find fn = some (Extern.Atomic.loadT .ptr)) {a : Addr} {x : Option Addr} {w : World} (hc : w.cell? a = some (.pointer x)) :
    (callFunc f #[.pointer (some a)]).run P w = .ok (.value (.pointer x)) w := by
  rw [run_callFunc_extern hf hname hb hn he]
  change (Sem.run P (do Extern.Atomic.read .ptr (← asAddr (.pointer (some a)))) w).andThen _ = _
  simp [Extern.Atomic.read, asAddr, hc, Result.andThen]

/-- sync/atomic.StorePointer: the pointer is stored. -/
theorem run_call_storep (hf : P.funcs[f]? = some fn) (hname : (fn.name == "runtime.NumGoroutine") = false) (hb : fn.body.isNone = true) (hn : Extern.findNext fn = none)
    (he : Extern.find fn = some Extern.Atomic.storeT) {a : Addr} {y : Option Addr} {u : Value} {w : World} (hc : w.cell? a = some u) (hz : w.frozen? a = false) :
    (callFunc f #[.pointer (some a), .pointer y]).run P w = .ok (.value (.tuple #[])) (w.setCell a (.pointer y)) := by
  rw [run_callFunc_extern hf hname hb hn he]
  change (Sem.run P (do
    store (← asAddr (.pointer (some a))) (.pointer y) .atomic
    pure Extern.Atomic.none_) w).andThen _ = _
  simp [asAddr, hc, hz, run_store P w a (.pointer y) .atomic rfl, Result.andThen, Extern.Atomic.none_]

theorem run_from_unsafe_nil {src dst u : TypeId} (hs : P.underlying src = some .unsafePointer) (hd : P.underlying dst = some (.pointer u)) (w : World) :
    (convert src dst (.pointer none)).run P w = .ok (.pointer none) w := by
  simp [convert, run_underlying hs, run_underlying hd, Conv.unsafePointer]
end

theorem info9 : ∃ j, Ybaf.prog.info? 9 = some j ∧ j.size ≠ 0 := by
  obtain ⟨j, h, z⟩ := Option.map_eq_some_iff.1 (show (Ybaf.prog.info? 9).map (fun i => decide (i.size = 0)) = some false by kernel_rfl)
  exact ⟨j, h, by simpa using z⟩

/-- p holds nil, or points at a string variable of its own. -/
def PtrOk (w : World) (p : Option Addr) : Prop := p = none ∨ ∃ b, p = some ⟨b, 0, none⟩ ∧ w.shape? b = some (9, 1)

theorem conv_back (w : World) (p : Option Addr) (h : PtrOk w p) : (convert 27 23 (.pointer p)).run Ybaf.prog w = .ok (.pointer p) w := by
  rcases h with rfl | ⟨b, rfl, hs⟩
  · exact run_from_unsafe_nil Ybaf.underlying27 Ybaf.underlying23 w
  · obtain ⟨j, hj, _⟩ := info9
    exact Lib.run_from_unsafe w _ Ybaf.underlying27 Ybaf.underlying23 hj hs (by kernel_rfl)

theorem load_calls (a : Addr) (p : Option Addr) (w : World) (hc : w.cell? a = some (.pointer p)) (hp : PtrOk w p) :
    Calls Ybaf.prog 8 #[.pointer (some a)] w fun e w' => e = .returned (.pointer p) ∧ w' = w := by
  have hl := run_call_loadp (P := Ybaf.prog) Ybaf.func13 (by kernel_rfl) (by kernel_rfl) (by kernel_rfl) (by kernel_rfl) hc
  have hv := conv_back w p hp
  clear hp
  go_enter Ybaf.func8, Ybaf.ntmps8
  go_wp2
  go_ret
  exact ⟨rfl, rfl⟩

theorem store_calls (a : Addr) (b : Nat) (u : Value) (w : World) (hc : w.cell? a = some u) (hz : w.frozen? a = false) (hs : w.shape? b = some (9, 1)) :
    Calls Ybaf.prog 12 #[.pointer (some a), .pointer (some ⟨b, 0, none⟩)] w fun e w' => e = .returned (.tuple #[]) ∧ w' = w.setCell a (.pointer (some ⟨b, 0, none⟩)) := by
  have hl := run_call_storep (P := Ybaf.prog) Ybaf.func18 (by kernel_rfl) (by kernel_rfl) (by kernel_rfl) (by kernel_rfl) (y := some ⟨b, 0, none⟩) hc hz
  obtain ⟨j, hj, hjz⟩ := info9
  have hv := Lib.run_to_unsafe (P := Ybaf.prog) w ⟨b, 0, none⟩ Ybaf.underlying23 Ybaf.underlying27 hj hjz hs (Nat.zero_lt_succ 0)
  clear hj hjz
  go_enter Ybaf.func12, Ybaf.ntmps12
  go_wp2
  go_end0
  exact ⟨rfl, rfl⟩

theorem ready_leaf (b : Nat) (s : ByteArray) (w : World) (h1 : w.cell? ⟨b, 1, none⟩ = some (.string s)) (h2 : w.cell? ⟨b, 2, none⟩ = some (.pointer none)) :
    Calls Ybaf.prog 5 #[.pointer (some ⟨b, 0, none⟩)] w fun e w' => e = .returned (.tuple #[.string s, .bool true]) ∧ w' = w := by
  go_enter Ybaf.func5, Ybaf.ntmps5
  go_wp2
  go_ret2
  exact ⟨rfl, rfl⟩

theorem ready_sum_nil (b : Nat) (x : Addr) (w : World) (h2 : w.cell? ⟨b, 2, none⟩ = some (.pointer (some x))) (h4 : w.cell? ⟨b, 4, none⟩ = some (.pointer none)) :
    Calls Ybaf.prog 5 #[.pointer (some ⟨b, 0, none⟩)] w fun e w' => e = .returned (.tuple #[.string ByteArray.empty, .bool false]) ∧ w' = w := by
  go_enter Ybaf.func5, Ybaf.ntmps5
  go_wp2_with (go_at_call 8; refine (load_calls _ _ _ h4 (.inl rfl)).mono ?_; rintro e w' ⟨rfl, rfl⟩)
  go_ret2
  exact ⟨rfl, rfl⟩

theorem ready_sum_full (b : Nat) (x : Addr) (c : Nat) (t : ByteArray) (w : World) (h2 : w.cell? ⟨b, 2, none⟩ = some (.pointer (some x))) (h4 : w.cell? ⟨b, 4, none⟩ = some (.pointer (some ⟨c, 0, none⟩)))
    (hs : w.shape? c = some (9, 1)) (hc : w.cell? ⟨c, 0, none⟩ = some (.string t)) :
    Calls Ybaf.prog 5 #[.pointer (some ⟨b, 0, none⟩)] w fun e w' => e = .returned (.tuple #[.string t, .bool true]) ∧ w' = w := by
  go_enter Ybaf.func5, Ybaf.ntmps5
  go_wp2_with (go_at_call 8; refine (load_calls _ _ _ h4 (.inr ⟨_, rfl, hs⟩)).mono ?_; rintro e w' ⟨rfl, rfl⟩)
  go_ret2
  exact ⟨rfl, rfl⟩

end Go.Proofs.YbulkcikyFmt
