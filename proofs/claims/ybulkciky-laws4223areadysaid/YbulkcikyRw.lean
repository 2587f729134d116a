/- LawS4223AReady's four ways. -/
import Derived.Test.YbulkcikyReady
namespace Go.Proofs.Ybulkciky
open Go.ChangeShapes Go.WideShapes Go.ChangeAt Go.RowKit

theorem frozen_new {w : World} (a : Addr) (h : w.heap.size ≤ a.block) : w.frozen? a = false := by
  simp [World.frozen?, Array.getElem?_eq_none h]

theorem eq_same (b : Nat) (w : World) : (binOp .eql 23 (.pointer (some ⟨b, 0, none⟩)) (.pointer (some ⟨b, 0, none⟩))).run Yba.prog w = .ok (.bool true) w := by
  obtain ⟨j, hj, _⟩ := info9
  exact run_eql_ptr_same w _ Yba.underlying23 hj

theorem walk0 (a0 : Int) (a1 a2 a3 : ByteArray) (hm : Int.tmod a0 4 = 0) (lo : 0 ≤ a0) (hi : a0 < 256) (w : World) :
    Calls Yba.prog 3 #[.int .u8 a0, .string a1, .string a2, .string a3] w fun e w' => e = .returned (.bool true) ∧ Grown w w' := by
  go_enter Yba.func3, Yba.ntmps3
  go_wp2_with first
    | (go_at_call 4; refine (ready_leaf _ a1 _ (by go_simp) (by go_simp)).mono ?_; rintro e w' ⟨rfl, rfl⟩)
    | (go_at_call 5; refine (load_calls _ none _ (by go_simp) (.inl rfl)).mono ?_; rintro e w' ⟨rfl, rfl⟩)
  go_ret
  exact ⟨rfl, (Grown.refl _).alloc _ _⟩

theorem walk1 (a0 : Int) (a1 a2 a3 : ByteArray) (hm : Int.tmod a0 4 = 1) (lo : 0 ≤ a0) (hi : a0 < 256) (w : World) :
    Calls Yba.prog 3 #[.int .u8 a0, .string a1, .string a2, .string a3] w fun e w' => e = .returned (.bool true) ∧ Grown w w' := by
  have he := eq_same
  go_enter Yba.func3, Yba.ntmps3
  go_wp2_with first
    | (go_at_call 4; refine (ready_leaf _ a1 _ ?h1 ?h2).mono ?_; rotate_left 2; rintro e w' ⟨rfl, rfl⟩)
    | (go_at_call 5; refine (load_calls _ (some ⟨w.heap.size + 1, 0, none⟩) _ ?h3 (.inr ⟨_, rfl, ?h4⟩)).mono ?_; rotate_left 2; rintro e w' ⟨rfl, rfl⟩)
    | (go_at_call 6; refine (store_calls _ (w.heap.size + 1) (.pointer none) _ ?h5 ?h6 ?h7).mono ?_; rotate_left 3; rintro e w' ⟨rfl, rfl⟩)
  case h6 => simp only [frozen?_alloc_cells]; exact frozen_new _ (by simp <;> omega)
  all_goals try (go_simp; done)
  go_ret
  exact ⟨rfl, by repeat (first | exact Grown.refl _ | apply Grown.drew | apply Grown.alloc)⟩

theorem walk2 (a0 : Int) (a1 a2 a3 : ByteArray) (hm : Int.tmod a0 4 = 2) (lo : 0 ≤ a0) (hi : a0 < 256) (w : World) :
    Calls Yba.prog 3 #[.int .u8 a0, .string a1, .string a2, .string a3] w fun e w' => e = .returned (.bool true) ∧ Grown w w' := by
  go_enter Yba.func3, Yba.ntmps3
  go_wp2_with first
    | (go_at_call 4; refine (ready_sum_nil _ ⟨w.heap.size, 0, none⟩ _ ?h1 ?h2).mono ?_; rotate_left 2; rintro e w' ⟨rfl, rfl⟩)
    | (go_at_call 5; refine (load_calls _ none _ ?h3 (.inl rfl)).mono ?_; rotate_left 1; rintro e w' ⟨rfl, rfl⟩)
  all_goals try (go_simp; done)
  go_ret
  exact ⟨rfl, by repeat (first | exact Grown.refl _ | apply Grown.drew | apply Grown.alloc)⟩

theorem walk3 (a0 : Int) (a1 a2 a3 : ByteArray) (hm : Int.tmod a0 4 = 3) (lo : 0 ≤ a0) (hi : a0 < 256) (w : World) :
    Calls Yba.prog 3 #[.int .u8 a0, .string a1, .string a2, .string a3] w fun e w' => e = .returned (.bool true) ∧ Grown w w' := by
  have he := eq_same
  go_enter Yba.func3, Yba.ntmps3
  go_wp2_with first
    | (go_at_call 4; refine (ready_sum_full _ ⟨w.heap.size, 0, none⟩ (w.heap.size + 3) a3 _ ?h1 ?h2 ?h8 ?h9).mono ?_; rotate_left 4; rintro e w' ⟨rfl, rfl⟩)
    | (go_at_call 5; refine (load_calls _ (some ⟨w.heap.size + 3, 0, none⟩) _ ?h3 (.inr ⟨_, rfl, ?h4⟩)).mono ?_; rotate_left 2; rintro e w' ⟨rfl, rfl⟩)
    | (go_at_call 6; refine (store_calls _ (w.heap.size + 3) (.pointer none) _ ?h5 ?h6 ?h7).mono ?_; rotate_left 3; rintro e w' ⟨rfl, rfl⟩)
  case h6 => simp only [frozen?_alloc_cells]; exact frozen_new _ (by simp <;> omega)
  all_goals try (go_simp; done)
  go_ret
  exact ⟨rfl, by repeat (first | exact Grown.refl _ | apply Grown.drew | apply Grown.alloc)⟩

end Go.Proofs.Ybulkciky
