import Derived.Test.YbulkcijwEq
import Derived.Laws.CopyOwn
import Derived.Deep.OwnRows
namespace Go.Proofs.Ybulkcijw
open Go.RowKit

theorem Yba.info21 : (Yba.prog.info? 21).map (fun i => (i.zero, i.size, i.bytes)) = some (some (.int .i32 0), 1, 4) := by kernel_rfl
theorem Yba.size21 : (Yba.prog.info? 21).map (·.size) = some 1 := by kernel_rfl

theorem clone_nil (n c : Nat) (w : World) :
    Calls Yba.prog 5 #[.slice none n c] w fun e w' => e = .returned (.slice none 0 0) ∧ w' = w := by
  have heq := fun (w : World) (a : Option Addr) (n c n' c' : Nat) => Lib.run_eql_slice_nil (P := Yba.prog) w 22 21 a n c n' c' Yba.underlying22
  go_enter Yba.func5, Yba.ntmps5
  go_wp2
  go_ret
  exact ⟨rfl, rfl⟩

/-- 'copy(c, s)' into a row that has just been made. -/
theorem copy_new (x : Addr) (n c : Nat) (zs : List Int) (w : World) (hz : n ≤ zs.length)
    (h1 : ∀ i, i < n → w.cell? (x.add i) = some (.int .i32 (zs.getD i 0))) :
    ∃ W' v, (Builtin.copy_ #[22, 22] 3 #[.slice (some ⟨w.heap.size, 0, none⟩) n n, .slice (some x) n c]).run Yba.prog (w.alloc (.cells (madeCells #[.int .i32 0] n) 21)) = .ok v W' ∧
      Below w.heap.size w W' ∧ w.heap.size < W'.heap.size ∧ ∀ i, i < n → W'.cell? ⟨w.heap.size, i, none⟩ = some (.int .i32 (zs.getD i 0)) := by
  have hlen : ((zs.take n).map (Value.int .i32)).length = n := by simp; omega
  have hg : (w.alloc (.cells (madeCells #[.int .i32 0] n) 21)).heap[w.heap.size]? = some (.cells (madeCells #[.int .i32 0] n) 21 (0, 0)) := by
    show (w.heap.push _)[w.heap.size]? = _
    simp
  have hgetD : ∀ i, i < n → ((zs.take n).map (Value.int .i32))[i]? = some (.int .i32 (zs.getD i 0)) := by
    intro i hi
    have : i < zs.length := by omega
    simp [hi, this]
  have hlt : ∀ i, i < n → (x.add i).block < w.heap.size := by
    intro i hi
    rcases Nat.lt_or_ge (x.add i).block w.heap.size with h' | h'
    · exact h'
    · have := h1 i hi
      simp [World.cell?, Array.getElem?_eq_none h'] at this
  have hrun := run_copy_row Yba.prog (w.alloc (.cells (madeCells #[.int .i32 0] n) 21)) 22 22 3 21 w.heap.size 0 n n x n c (madeCells #[.int .i32 0] n) 21 ((zs.take n).map (Value.int .i32)) Yba.underlying22 Yba.size21 hg
    (by rw [hlen]; simp) (by
      intro j v hv
      have hj : j < n := by
        rcases Nat.lt_or_ge j n with h | h
        · exact h
        · rw [List.getElem?_eq_none (by omega)] at hv; cases hv
      rw [hgetD j hj] at hv
      cases hv
      rw [← h1 j hj]
      exact World.cell?_of_block (Below.heap_alloc _ _ _ (hlt j hj)))
    (by rw [hlen, size_madeCells]; omega) (by intro v hv; obtain ⟨a, _, rfl⟩ := List.mem_map.1 hv; rfl)
  refine ⟨_, _, hrun, below_setRow ((Below.refl _ _).alloc (Nat.le_refl _) _) (Nat.le_refl _) _, by simp [World.setRow], ?_⟩
  intro i hi
  have hb := setRow_heap (w.alloc (.cells (madeCells #[.int .i32 0] n) 21)) w.heap.size (madeCells #[.int .i32 0] n) (List.take 0 (madeCells #[.int .i32 0] n).toList ++ List.map (Value.int IntKind.i32) (List.take n zs) ++ List.drop (0 + (List.map (Value.int IntKind.i32) (List.take n zs)).length) (madeCells #[.int .i32 0] n).toList).toArray 21 (0, 0) hg
  have hd : List.drop (0 + (List.map (Value.int IntKind.i32) (List.take n zs)).length) (madeCells #[Value.int IntKind.i32 0] n).toList = [] := by
    apply List.drop_eq_nil_of_le
    rw [hlen]; simp [size_madeCells]
  simp only [World.cell?, hb]
  rw [hd]
  simp only [List.take_zero, List.nil_append, List.append_nil]
  simpa using hgetD i hi

set_option maxRecDepth 100000 in
theorem clone_some (x : Addr) (n c : Nat) (zs : List Int) (w : World) (hn : n ≤ 1000000) (hz : n ≤ zs.length)
    (h1 : ∀ i, i < n → w.cell? (x.add i) = some (.int .i32 (zs.getD i 0))) :
    Calls Yba.prog 5 #[.slice (some x) n c] w fun e w' => e = .returned (.slice (some ⟨w.heap.size, 0, none⟩) n n) ∧ Below w.heap.size w w' ∧ w.heap.size < w'.heap.size ∧
      ∀ i, i < n → w'.cell? ⟨w.heap.size, i, none⟩ = some (.int .i32 (zs.getD i 0)) := by
  have hmk := run_make_row' (P := Yba.prog) 22 21 (.int .i32 0) 4 Yba.underlying22 Yba.info21 rfl .i64 .i64 n (by omega) (by omega)
  obtain ⟨W', v, hcp, hB, hS, hC⟩ := copy_new x n c zs w hz h1
  have HC : Hid (∀ i, i < n → W'.cell? ⟨w.heap.size, i, none⟩ = some (.int .i32 (zs.getD i 0))) := hC
  clear h1 hC
  have heq := fun (w : World) (a : Option Addr) (n c n' c' : Nat) => Lib.run_eql_slice_nil (P := Yba.prog) w 22 21 a n c n' c' Yba.underlying22
  go_enter Yba.func5, Yba.ntmps5
  go_wp2
  go_ret
  exact ⟨rfl, hB, hS, HC.out⟩

theorem clone_any (a : Option Addr) (n c : Nat) (zs : List Int) (w : World) (hn : n ≤ 1000000) (hz : n ≤ zs.length) (hnil : a = none → n = 0)
    (h1 : ∀ x, a = some x → ∀ i, i < n → w.cell? (x.add i) = some (.int .i32 (zs.getD i 0))) :
    Calls Yba.prog 5 #[.slice a n c] w fun e w' => ∃ a' : Option Addr, e = .returned (.slice a' n n) ∧ a'.isNone = a.isNone ∧ Below w.heap.size w w' ∧ Reads w' a' n zs ∧ (∀ x, a' = some x → x.block < w'.heap.size) := by
  cases a with
  | none =>
    obtain rfl := hnil rfl
    refine (clone_nil 0 c w).mono ?_
    rintro e w' ⟨rfl, rfl⟩
    exact ⟨none, rfl, rfl, Below.refl _ _, .inl rfl, by simp⟩
  | some x =>
    refine (clone_some x n c zs w hn hz (h1 x rfl)).mono ?_
    rintro e w' ⟨rfl, hB, hS, hC⟩
    exact ⟨_, rfl, rfl, hB, .inr ⟨_, 0, rfl, by simpa using hC⟩, by rintro x hx; cases hx; exact hS⟩
end Go.Proofs.Ybulkcijw
