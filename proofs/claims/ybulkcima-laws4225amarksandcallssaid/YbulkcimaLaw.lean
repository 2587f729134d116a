/- LawS4225AMarksAndCalls: her walk. -/
import Derived.Test.YbulkcimaSkip
import Derived.Deep.Cut
import Derived.Lib.SliceRun
import Derived.Laws.EntriesVeiled
import Derived.Deep.LoopGhost
namespace Go.Proofs.Ybulkcima
open Go.ChangeShapes Go.WideShapes Go.ChangeAt Go.RowKit

theorem long_walk (a0 : Int) (a1 : Bool) (h : 1024 < a0) (w : World) :
    Calls Yba.prog 3 #[.int .u16 a0, .bool a1] w fun e w' => e = .returned (.bool true) ∧ Grown w w' := by
  go_enter Yba.func3, Yba.ntmps3
  go_wp2
  go_ret
  exact ⟨rfl, Grown.refl _⟩

theorem swap_world {P : Program} {c : Code} {E : Exit → Act → World → Prop} {a : Act} {W W' : World} (h : W = W') (k : Code.wp P c E a W') : Code.wp P c E a W := h ▸ k

theorem start (w : World) (p : Bool) : St w w.heap.size 0 p (((((w.alloc (.cells #[.int .i64 0] 3)).alloc (.cells #[.bool false] 4)).alloc (.cells (mtCells w.heap.size p) 43)).alloc (.cells #[.pointer (some ⟨w.heap.size + 2, 0, none⟩)] 23)).drew) := by
  have o : ∀ (w : World) (o : Obj) (k : Nat), k < w.heap.size → (w.alloc o).heap[k]? = w.heap[k]? := fun w o k h => Below.heap_alloc w o k h
  have n : ∀ (w : World) (o : Obj) (k : Nat), k = w.heap.size → (w.alloc o).heap[k]? = some o := fun w o k h => by subst h; exact (MapKept.heap_alloc w o).1
  refine ⟨?_, ?_, ?_, ?_, ?_⟩
  · exact (o _ _ _ (by simp <;> omega)).trans ((o _ _ _ (by simp <;> omega)).trans ((o _ _ _ (by simp)).trans (n _ _ _ rfl)))
  · exact (o _ _ _ (by simp <;> omega)).trans ((o _ _ _ (by simp)).trans (n _ _ _ (by simp)))
  · exact (o _ _ _ (by simp)).trans (n _ _ _ (by simp))
  · exact n _ _ _ (by simp)
  · exact (((((Grown.refl _).alloc _ _).alloc _ _).alloc _ _).alloc _ _).drew

theorem short_walk (n : Nat) (a1 : Bool) (hn : n ≤ 1024) (w : World) :
    Calls Yba.prog 3 #[.int .u16 n, .bool a1] w fun e w' => e = .returned (.bool true) ∧ Grown w w' := by
  have h1 : ¬ (1024 : Int) < (n : Int) := by omega
  have hmf : ∀ (fn : Fn) (first cap : Array Value) (w : World), (Instr.makeFunc fn first cap).run Yba.prog w = .ok (.func fn first cap) w := fun _ _ _ _ => rfl
  go_enter Yba.func3, Yba.ntmps3
  go_upto_region 8 with (go_at_call 4; refine (store_calls _ a1 (.int .u32 0) _ ?s1 ?s2).mono ?_; rotate_left 2; rintro e w' ⟨rfl, rfl⟩)
  obtain ⟨W, hW⟩ : ∃ W, W = (((((w.alloc (.cells #[.int .i64 0] 3)).alloc (.cells #[.bool false] 4)).alloc (.cells (mtCells w.heap.size a1) 43)).alloc (.cells #[.pointer (some ⟨w.heap.size + 2, 0, none⟩)] 23)).drew) := ⟨_, rfl⟩
  have H : St w w.heap.size 0 a1 W := by rw [hW]; exact start w a1
  have hN : w.heap.size ≤ w.heap.size := Nat.le_refl _
  refine swap_world (W' := W) (by rw [hW]; rfl) ?_
  clear hW
  simp only [show w.heap.size + 1 + 1 + 1 = w.heap.size + 3 from rfl, show w.heap.size + 1 + 1 = w.heap.size + 2 from rfl]
  generalize hNN : w.heap.size = N at H hN ⊢
  have HN : Hid (w.heap.size ≤ N) := by rw [hNN]; exact Nat.le_refl _
  clear hN hNN
  have k3 := cell_of_one H.c3
  have S0 := skipped_calls (N + 2) a1 W (H.cell2 2)
  go_wp2_with (go_at_call 7; refine S0.mono ?_; rintro e w' ⟨rfl, rfl⟩)
  go_loopw [8] (fun i w' => ∃ k : Nat, k ≤ n ∧ i = .int .i64 k ∧ St w N k (a1 || decide (0 < k)) w') (fun i _ => n - (intOf i).toNat)
  case atStart => exact ⟨0, Nat.zero_le _, rfl, by simpa using H⟩
  case round =>
    obtain ⟨w1, hw1⟩ : ∃ w1, w1 = wr := ⟨_, rfl⟩
    subst hw1
    obtain ⟨k, hk, rfl, hI⟩ := hrel
    have r3 := cell_of_one hI.c3
    clear H k3 S0
    by_cases hkn : k < n
    · have hlt : (k : Int) < (n : Int) := by omega
      have hw64 : wrap64 ((k : Int) + 1) = (k : Int) + 1 := by simp [wrap64]; omega
      have SK : Hid (Calls Yba.prog 8 #[.pointer (some ⟨N + 2, 0, none⟩)] w1 fun e w' => e = .returned (.tuple #[]) ∧ St w N ((k : Int) + 1) true w') := skipNow_calls w N k _ _ w1 hI HN.out hw64
      clear hw64 hI
      go_upto_region 14 with (go_at_call 8; refine SK.out.mono ?_; rintro e w2 ⟨rfl, hI2⟩)
      have q0 := cell_of_one hI2.c0
      have q3 := cell_of_one hI2.c3
      have S2 := skipped_calls (N + 2) true w2 (hI2.cell2 2)
      have HI2 : Hid (St w N ((k : Int) + 1) true w2) := hI2
      clear r3 hI2 SK
      go_wp2_with (go_at_call 7; refine S2.mono ?_; rintro e w' ⟨rfl, rfl⟩)
      have e : (a1 || decide (0 < k + 1)) = true := by simp
      refine ⟨⟨k + 1, by omega, by simp, ?_⟩, ?_⟩
      · rw [e]
        have := HI2.out
        simpa using this
      · simp [intOf]
        omega
    · obtain rfl : k = n := by omega
      have hge : ¬ (k : Int) < (k : Int) := by omega
      have q0 := cell_of_one hI.c0
      have q1 := cell_of_one hI.c1
      have f0 : w1.cell? ⟨N + 2, 0, none⟩ = some .nilFunc := hI.cell2 0
      have f1 : w1.cell? ⟨N + 2, 1, none⟩ = some (.func (.func 5) #[] #[.pointer (some ⟨N, 0, none⟩), .pointer (some ⟨N + 3, 0, none⟩), .pointer (some ⟨N + 1, 0, none⟩)]) := hI.cell2 1
      have f5 : w1.cell? ⟨N + 2, 5, none⟩ = some (.slice none 0 0) := hI.cell2 5
      have f6 : w1.cell? ⟨N + 2, 6, none⟩ = some (.bool false) := hI.cell2 6
      have E1 := run_eql_nil_nil (P := Yba.prog) Yba.underlying25
      have E3 := fun (w : World) (a : Option Addr) (n c n' c' : Nat) => Lib.run_eql_slice_nil (P := Yba.prog) w 39 1 a n c n' c' Yba.underlying39
      have E2 := run_neq_func_nil (P := Yba.prog) Yba.underlying26
      have S1 := skipped_calls (N + 2) (a1 || decide (0 < k)) w1 (hI.cell2 2)
      have NM := name_calls (N + 2) w1
      have HG : Hid (Grown w w1) := hI.g
      clear hI hkn hk
      by_cases h0 : 0 < k
      · have h0' : (0 : Int) < (k : Int) := by omega
        cases a1
        all_goals
          simp only [h0, decide_true, Bool.or_true] at S1
          go_wp2_with first
            | (go_at_call 7; refine S1.mono ?_; rintro e w' ⟨rfl, rfl⟩)
            | (go_at_call 9; refine NM.mono ?_; rintro e w' ⟨rfl, rfl⟩)
          go_ret
          exact ⟨rfl, HG.out⟩
      · obtain rfl : k = 0 := by omega
        cases a1
        all_goals
          simp only [Nat.lt_irrefl, decide_false, Bool.or_false] at S1
          go_wp2_with first
            | (go_at_call 7; refine S1.mono ?_; rintro e w' ⟨rfl, rfl⟩)
            | (go_at_call 9; refine NM.mono ?_; rintro e w' ⟨rfl, rfl⟩)
          go_ret
          exact ⟨rfl, HG.out⟩
end Go.Proofs.Ybulkcima
