import Derived.Test.YbulkcijwId
import Derived.Maps.OwnSet
import Derived.Deep.AppendLies
namespace Go.Proofs.Ybulkcijw
open Go.RowKit Go.Maps

/-- the table's 25 cells: its file at block N, its maps behind it; the lock's two words, the ids, the places that leave, the count -/
def tcell (N : Nat) (c2 c6 : Int) (iv lv : Value) (n : Int) : Array Value :=
  #[.string ⟨#[115]⟩, .pointer (some ⟨N, 0, none⟩), .int .i32 c2, .int .u32 0, .int .u32 0, .int .u32 0, .int .i32 c6, .int .i32 0, iv, .map (some (N + 1)), lv, .slice none 0 0, .map (some (N + 2)), .map (some (N + 3)), .map (some (N + 4)),
    .int .u64 0, .int .u64 0, .map (some (N + 5)), .map (some (N + 6)), .int .i32 0, .int .u32 0, .map (some (N + 7)), .map (some (N + 8)), .int .i64 0, .int .i64 n]
def Tab (N : Nat) (c2 c6 : Int) (iv lv : Value) (n : Int) (w : World) : Prop := w.heap[N + 9]? = some (.cells (tcell N c2 c6 iv lv n) 52 (0, 0))

theorem Tab.cell {N : Nat} {c2 c6 : Int} {iv lv : Value} {n : Int} {w : World} (h : Tab N c2 c6 iv lv n w) (i : Nat) (v : Value) (hv : (tcell N c2 c6 iv lv n)[i]? = some v) : w.cell? ⟨N + 9, i, none⟩ = some v := by
  unfold Tab at h
  simp [World.cell?, h, hv]
theorem Tab.frozen {N : Nat} {c2 c6 : Int} {iv lv : Value} {n : Int} {w : World} (h : Tab N c2 c6 iv lv n w) (i : Nat) : w.frozen? ⟨N + 9, i, none⟩ = false := by
  unfold Tab at h
  simp [World.frozen?, h]
theorem Tab.lt {N : Nat} {c2 c6 : Int} {iv lv : Value} {n : Int} {w : World} (h : Tab N c2 c6 iv lv n w) : N + 9 < w.heap.size := by
  unfold Tab at h
  exact (Array.getElem?_eq_some_iff.1 h).1
theorem Tab.keep {N : Nat} {c2 c6 : Int} {iv lv : Value} {n : Int} {w w' : World} (h : Tab N c2 c6 iv lv n w) (hb : w'.heap[N + 9]? = w.heap[N + 9]?) : Tab N c2 c6 iv lv n w' := by
  unfold Tab at *
  rw [hb]; exact h
theorem blk_set {w : World} {b i : Nat} {cs : Array Value} {t : TypeId} {fr : Nat × Nat} (h : w.heap[b]? = some (.cells cs t fr)) (v : Value) : (w.setCell ⟨b, i, none⟩ v).heap[b]? = some (.cells (cs.setIfInBounds i v) t fr) := by
  simp [World.setCell, Array.getElem?_modify, h]
theorem Tab.set2 {N : Nat} {c2 c6 : Int} {iv lv : Value} {n : Int} {w : World} (h : Tab N c2 c6 iv lv n w) (c : Int) : Tab N c c6 iv lv n (w.setCell ⟨N + 9, 2, none⟩ (.int .i32 c)) := blk_set h _
theorem Tab.set6 {N : Nat} {c2 c6 : Int} {iv lv : Value} {n : Int} {w : World} (h : Tab N c2 c6 iv lv n w) (c : Int) : Tab N c2 c iv lv n (w.setCell ⟨N + 9, 6, none⟩ (.int .i32 c)) := blk_set h _
theorem Tab.set8 {N : Nat} {c2 c6 : Int} {iv lv : Value} {n : Int} {w : World} (h : Tab N c2 c6 iv lv n w) (v : Value) : Tab N c2 c6 v lv n (w.setCell ⟨N + 9, 8, none⟩ v) := blk_set h _
theorem Tab.set10 {N : Nat} {c2 c6 : Int} {iv lv : Value} {n : Int} {w : World} (h : Tab N c2 c6 iv lv n w) (v : Value) : Tab N c2 c6 iv v n (w.setCell ⟨N + 9, 10, none⟩ v) := blk_set h _
theorem Tab.set24 {N : Nat} {c2 c6 : Int} {iv lv : Value} {n : Int} {w : World} (h : Tab N c2 c6 iv lv n w) (m : Int) : Tab N c2 c6 iv lv m (w.setCell ⟨N + 9, 24, none⟩ (.int .i64 m)) := blk_set h _

/-- a map's element, whatever it is -/
def anyE (_ : Value) : Option (DataW Unit × List MemPlace) := some (.nil, [])
def HasMap (w : World) (K : TypeId) (b m : Nat) : Prop := ∃ D, w.ownsMap Yba.prog K anyE b m D
theorem HasMap.keep {w w' : World} {K : TypeId} {b m : Nat} (h : HasMap w K b m) (hb : w'.heap[b]? = w.heap[b]?) : HasMap w' K b m := by
  obtain ⟨D, es, clock, h1, h2⟩ := h
  exact ⟨D, es, clock, by rw [hb]; exact h1, h2⟩
theorem HasMap.mono {w : World} {K : TypeId} {b m m' : Nat} (h : HasMap w K b m) (hm : m ≤ m') : HasMap w K b m' := by
  obtain ⟨D, h⟩ := h
  exact ⟨D, h.mono hm⟩

/-- the file and the six maps that are touched -/
def Side6 (N m : Nat) (w : World) : Prop :=
  w.cell? ⟨N, 0, none⟩ = some (.slice none 0 0) ∧ HasMap w 9 (N + 1) m ∧ HasMap w 21 (N + 2) m ∧ HasMap w 21 (N + 3) m ∧ HasMap w 21 (N + 4) m ∧ HasMap w 21 (N + 5) m ∧ HasMap w 21 (N + 6) m
theorem Side6.keep {N m : Nat} {w w' : World} (h : Side6 N m w) (hb : ∀ b, N ≤ b → b < N + 9 → w'.heap[b]? = w.heap[b]?) : Side6 N m w' := by
  obtain ⟨a, b, c, d, e, f, g⟩ := h
  refine ⟨by rw [World.cell?_of_block (w := w) (hb N (by omega) (by omega))]; exact a, b.keep (hb _ (by omega) (by omega)), c.keep (hb _ (by omega) (by omega)), d.keep (hb _ (by omega) (by omega)), e.keep (hb _ (by omega) (by omega)), f.keep (hb _ (by omega) (by omega)), g.keep (hb _ (by omega) (by omega))⟩

/-- nothing has turned but the table's own ten blocks from N on and row x -/
structure Kept (N : Nat) (x : Option Nat) (w w' : World) : Prop where
  os : w'.os = w.os
  tape : w'.tape = w.tape
  output : w'.output = w.output
  size : w.heap.size ≤ w'.heap.size
  block : ∀ b, b < w.heap.size → (b < N ∨ N + 10 ≤ b) → some b ≠ x → w'.heap[b]? = w.heap[b]?
theorem Kept.refl (N : Nat) (x : Option Nat) (w : World) : Kept N x w w := ⟨rfl, rfl, rfl, Nat.le_refl _, fun _ _ _ _ => rfl⟩
theorem Kept.trans {N : Nat} {x : Option Nat} {a b c : World} (h : Kept N x a b) (k : Kept N x b c) : Kept N x a c :=
  ⟨k.os.trans h.os, k.tape.trans h.tape, k.output.trans h.output, Nat.le_trans h.size k.size, fun i h1 h2 h3 => (k.block i (Nat.lt_of_lt_of_le h1 h.size) h2 h3).trans (h.block i h1 h2 h3)⟩
theorem Kept.set {N : Nat} {x : Option Nat} {w : World} (b i : Nat) (v : Value) (h1 : N ≤ b) (h2 : b < N + 10) : Kept N x w (w.setCell ⟨b, i, none⟩ v) :=
  ⟨rfl, rfl, rfl, by simp [World.setCell], fun k _ h _ => Below.heap_setCell _ _ _ _ (by show k ≠ b; omega)⟩
theorem Kept.grown {N : Nat} {x : Option Nat} {w w' : World} {row : Option Nat} (h : w.grownBy w' row) (hr : row = x ∨ ∃ b, row = some b ∧ N ≤ b ∧ b < N + 10) : Kept N x w w' :=
  ⟨h.os, h.tape, h.output, h.size, fun k hk h1 h2 => h.block k hk (by
    rcases hr with rfl | ⟨b, rfl, h3, h4⟩
    · exact h2
    · intro e; cases e; omega)⟩
theorem Kept.drewN {N : Nat} {x : Option Nat} (w : World) (q : Nat) : Kept N x w (w.drewN q) := ⟨rfl, rfl, rfl, Nat.le_refl _, fun _ _ _ _ => rfl⟩
theorem Kept.alloc {N : Nat} {x : Option Nat} (w : World) (o : Obj) : Kept N x w (w.alloc o) := ⟨rfl, rfl, rfl, by simp, fun k hk _ _ => Below.heap_alloc _ _ _ hk⟩
end Go.Proofs.Ybulkcijw
