/- The closure and SkipNow over the law's four blocks. -/
import Derived.Test.YbulkcimaParts
import Derived.Below
namespace Go.Proofs.Ybulkcima
open Go.ChangeShapes Go.WideShapes Go.ChangeAt Go.RowKit

theorem St.set0 {w : World} {N : Nat} {i : Int} {p : Bool} {wr : World} (h : St w N i p wr) (hN : w.heap.size ≤ N) (j : Int) : St w N j p (wr.setCell ⟨N, 0, none⟩ (.int .i64 j)) where
  c0 := one_setCell h.c0
  c1 := (Below.heap_setCell _ _ _ _ (by show N + 1 ≠ N; omega)).trans h.c1
  c2 := (Below.heap_setCell _ _ _ _ (by show N + 2 ≠ N; omega)).trans h.c2
  c3 := (Below.heap_setCell _ _ _ _ (by show N + 3 ≠ N; omega)).trans h.c3
  g := h.g.setCell hN _

theorem heap_setCell_at {w : World} {b j : Nat} {c : Array Value} {t : TypeId} (u : Value) (h : w.heap[b]? = some (.cells c t (0, 0))) : (w.setCell ⟨b, j, none⟩ u).heap[b]? = some (.cells (c.setIfInBounds j u) t (0, 0)) := by
  have hlt := lt_of_block h
  have h' : w.heap[b] = .cells c t (0, 0) := by simpa [Array.getElem?_eq_getElem hlt] using h
  show (w.heap.modify b _)[b]? = _
  rw [Array.getElem?_eq_getElem (by simpa using hlt), Array.getElem_modify_self, h']
  rfl

theorem St.skip {w : World} {N : Nat} {i : Int} {p : Bool} {wr : World} (h : St w N i p wr) (hN : w.heap.size ≤ N) (q : Bool) : St w N i q (wr.drew.setCell ⟨N + 2, 2, none⟩ (.int .u32 (b2 q))) where
  c0 := (Below.heap_setCell _ _ _ _ (by show N ≠ N + 2; omega)).trans h.c0
  c1 := (Below.heap_setCell _ _ _ _ (by show N + 1 ≠ N + 2; omega)).trans h.c1
  c2 := heap_setCell_at (w := wr.drew) _ h.c2
  c3 := (Below.heap_setCell _ _ _ _ (by show N + 3 ≠ N + 2; omega)).trans h.c3
  g := h.g.drew.setCell (Nat.le_trans hN (by show N ≤ N + 2; omega)) _

theorem St.cell2 {w : World} {N : Nat} {i : Int} {p : Bool} {wr : World} (h : St w N i p wr) (k : Nat) : wr.cell? ⟨N + 2, k, none⟩ = (mtCells N p)[k]? := by simp [World.cell?, h.c2]
theorem St.free2 {w : World} {N : Nat} {i : Int} {p : Bool} {wr : World} (h : St w N i p wr) (k : Nat) : wr.frozen? ⟨N + 2, k, none⟩ = false := by simp [World.frozen?, h.c2]

theorem closure_calls (w : World) (N : Nat) (i j : Int) (wr : World) (h : St w N i true wr) (hN : w.heap.size ≤ N) (hj : wrap64 (i + 1) = j) :
    Calls Yba.prog 5 #[.pointer (some ⟨N, 0, none⟩), .pointer (some ⟨N + 3, 0, none⟩), .pointer (some ⟨N + 1, 0, none⟩)] wr fun e w' => e = .returned (.tuple #[]) ∧ St w N j true w' := by
  have k0 := cell_of_one h.c0
  have z0 := free_of_one h.c0
  have h' := h.set0 hN j
  have k3 := cell_of_one h'.c3
  have k2 : (wr.setCell ⟨N, 0, none⟩ (.int .i64 j)).cell? ⟨N + 2, 2, none⟩ = some (.int .u32 (b2 true)) := h'.cell2 2
  clear hN
  generalize hw' : wr.setCell ⟨N, 0, none⟩ (.int .i64 j) = w' at h' k3 k2
  go_enter Yba.func5, Yba.ntmps5
  go_wp2_with (go_at_call 6; refine (load_calls _ true _ k2).mono ?_; rintro e w' ⟨rfl, rfl⟩)
  go_end0
  exact ⟨rfl, h'⟩

theorem skipNow_calls (w : World) (N : Nat) (i j : Int) (p : Bool) (wr : World) (h : St w N i p wr) (hN : w.heap.size ≤ N) (hj : wrap64 (i + 1) = j) :
    Calls Yba.prog 8 #[.pointer (some ⟨N + 2, 0, none⟩)] wr fun e w' => e = .returned (.tuple #[]) ∧ St w N j true w' := by
  have k1 : wr.cell? ⟨N + 2, 1, none⟩ = some (.func (.func 5) #[] #[.pointer (some ⟨N, 0, none⟩), .pointer (some ⟨N + 3, 0, none⟩), .pointer (some ⟨N + 1, 0, none⟩)]) := h.cell2 1
  have S := store_calls ⟨N + 2, 2, none⟩ true (.int .u32 (b2 p)) wr (h.cell2 2) (h.free2 2)
  have h2 := h.skip hN true
  have C := closure_calls w N i j _ h2 hN hj
  have k2 : (wr.drew.setCell ⟨N + 2, 2, none⟩ (.int .u32 (b2 true))).cell? ⟨N + 2, 1, none⟩ = some (.func (.func 5) #[] #[.pointer (some ⟨N, 0, none⟩), .pointer (some ⟨N + 3, 0, none⟩), .pointer (some ⟨N + 1, 0, none⟩)]) := h2.cell2 1
  have hq := run_eql_func_nil (P := Yba.prog) Yba.underlying26
  clear hN hj h2
  generalize wr.drew.setCell ⟨N + 2, 2, none⟩ (.int .u32 (b2 true)) = w2 at S C k2
  go_enter Yba.func8, Yba.ntmps8
  go_wp2_with first
    | (go_at_call 4; refine S.mono ?_; rintro e w' ⟨rfl, rfl⟩)
    | (go_at_call 5; refine C.mono ?_; rintro e w' ⟨rfl, h3⟩)
  go_end0
  exact ⟨rfl, by assumption⟩
end Go.Proofs.Ybulkcima
