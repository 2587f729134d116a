/- LawS4223AAfterBytes: her ways. -/
import Derived.Test.YbulkcikyFmtBytes
namespace Go.Proofs.YbulkcikyFmt
open Go.ChangeShapes Go.WideShapes Go.ChangeAt Go.RowKit

theorem bytes_leaf (b : Nat) (s : ByteArray) (w : World) (h1 : w.cell? ⟨b, 1, none⟩ = some (.string s)) (h2 : w.cell? ⟨b, 2, none⟩ = some (.pointer none)) :
    Calls Ybaf.prog 6 #[.pointer (some ⟨b, 0, none⟩)] w fun e w' => e = .returned (.string s) ∧ w' = w := by
  go_enter Ybaf.func6, Ybaf.ntmps6
  go_wp2_with (go_at_call 5; refine (ready_leaf b s _ h1 h2).mono ?_; rintro e w' ⟨rfl, rfl⟩)
  go_ret
  exact ⟨rfl, rfl⟩

theorem toList_ne {s : ByteArray} (h : ¬ s.size = 0) : ¬ s.toList = [] := by
  intro e
  apply h
  rw [ByteArray.toList_eq] at e
  have h3 : s.data.toList.length = s.size := Array.length_toList
  rw [← h3, e]
  rfl

/-- The world behind the two plain values. -/
def leaves (s t : ByteArray) (w : World) : World :=
  (w.alloc (.cells #[.int .i64 s.size, .string s, .pointer none, .pointer none, .pointer none] 31)).alloc (.cells #[.int .i64 t.size, .string t, .pointer none, .pointer none, .pointer none] 31)

theorem leaves_cell (s t : ByteArray) (w : World) : (leaves s t w).cell? ⟨w.heap.size, 0, none⟩ = some (.int .i64 s.size) ∧ (leaves s t w).cell? ⟨w.heap.size, 1, none⟩ = some (.string s) ∧ (leaves s t w).cell? ⟨w.heap.size, 2, none⟩ = some (.pointer none) ∧
    (leaves s t w).cell? ⟨w.heap.size + 1, 0, none⟩ = some (.int .i64 t.size) ∧ (leaves s t w).cell? ⟨w.heap.size + 1, 1, none⟩ = some (.string t) ∧ (leaves s t w).cell? ⟨w.heap.size + 1, 2, none⟩ = some (.pointer none) := by
  unfold leaves
  refine ⟨?_, ?_, ?_, ?_, ?_, ?_⟩ <;> go_simp

theorem long_walk (s t : ByteArray) (w : World) (h : ¬ (s.size ≤ 4096 ∧ t.size ≤ 4096)) :
    Calls Ybaf.prog 3 #[.string s, .string t] w fun e w' => e = .returned (.bool true) ∧ Below w.heap.size w w' := by
  by_cases h1 : (4096 : Int) < (s.size : Int)
  · clear h
    go_enter Ybaf.func3, Ybaf.ntmps3
    go_wp2
    go_ret
    exact ⟨rfl, Below.refl _ _⟩
  · have h2 : (4096 : Int) < (t.size : Int) := by omega
    clear h
    go_enter Ybaf.func3, Ybaf.ntmps3
    go_wp2
    go_ret
    exact ⟨rfl, Below.refl _ _⟩

theorem left_walk (s t : ByteArray) (w : World) (h0 : s.size = 0) (h2 : t.size ≤ 4096) :
    Calls Ybaf.prog 3 #[.string s, .string t] w fun e w' => e = .returned (.bool true) ∧ Below w.heap.size w w' := by
  obtain rfl : s = ⟨#[]⟩ := by
    apply ByteArray.ext
    exact Array.eq_empty_of_size_eq_zero h0
  have h2' : ¬ (4096 : Int) < (t.size : Int) := by omega
  have e1 : (⟨#[]⟩ : ByteArray) ++ t = t := by apply ByteArray.ext; simp [ByteArray.data_append]
  have HC := leaves_cell ⟨#[]⟩ t w
  have H1 : Hid (Calls Ybaf.prog 4 #[.pointer (some ⟨w.heap.size, 0, none⟩), .pointer (some ⟨w.heap.size + 1, 0, none⟩)] (leaves ⟨#[]⟩ t w) fun e w' => e = .returned (.pointer (some ⟨w.heap.size + 1, 0, none⟩)) ∧ w' = leaves ⟨#[]⟩ t w) := ⟨concat_left _ _ _ HC.1⟩
  have H2 : Hid (Calls Ybaf.prog 5 #[.pointer (some ⟨w.heap.size + 1, 0, none⟩)] (leaves ⟨#[]⟩ t w) fun e w' => e = .returned (.tuple #[.string t, .bool true]) ∧ w' = leaves ⟨#[]⟩ t w) := ⟨ready_leaf _ t _ HC.2.2.2.2.1 HC.2.2.2.2.2⟩
  have H3 : Hid (Calls Ybaf.prog 6 #[.pointer (some ⟨w.heap.size + 1, 0, none⟩)] (leaves ⟨#[]⟩ t w) fun e w' => e = .returned (.string t) ∧ w' = leaves ⟨#[]⟩ t w) := ⟨bytes_leaf _ t _ HC.2.2.2.2.1 HC.2.2.2.2.2⟩
  have HB : Hid (Below w.heap.size w (leaves ⟨#[]⟩ t w)) := ⟨((Below.refl _ _).alloc (Nat.le_refl _) _).alloc (by simp) _⟩
  clear h2 h0 HC
  generalize hW : leaves ⟨#[]⟩ t w = W at H1 H2 H3 HB
  go_enter Ybaf.func3, Ybaf.ntmps3
  go_upto_region 5 with fail
  have hW' : (w.alloc (.cells #[.int .i64 0, .string ⟨#[]⟩, .pointer none, .pointer none, .pointer none] 31)).alloc (.cells #[.int .i64 t.size, .string t, .pointer none, .pointer none, .pointer none] 31) = W := hW
  rw [hW']
  clear hW hW'
  go_wp2_with first
    | (go_at_call 4; refine H1.out.mono ?_; rintro e w' ⟨rfl, rfl⟩)
    | (go_at_call 5; refine H2.out.mono ?_; rintro e w' ⟨rfl, rfl⟩)
    | (go_at_call 6; refine H3.out.mono ?_; rintro e w' ⟨rfl, rfl⟩)
  go_ret
  exact ⟨rfl, HB.out⟩

theorem right_walk (s t : ByteArray) (w : World) (h1 : s.size ≤ 4096) (hs : ¬ s.size = 0) (h0 : t.size = 0) :
    Calls Ybaf.prog 3 #[.string s, .string t] w fun e w' => e = .returned (.bool true) ∧ Below w.heap.size w w' := by
  obtain rfl : t = ⟨#[]⟩ := by
    apply ByteArray.ext
    exact Array.eq_empty_of_size_eq_zero h0
  have h1' : ¬ (4096 : Int) < (s.size : Int) := by omega
  have e1 : s ++ (⟨#[]⟩ : ByteArray) = s := by apply ByteArray.ext; simp [ByteArray.data_append]
  have hs' : ¬ (s.size : Int) = 0 := by omega
  have HC := leaves_cell s ⟨#[]⟩ w
  have H1 : Hid (Calls Ybaf.prog 4 #[.pointer (some ⟨w.heap.size, 0, none⟩), .pointer (some ⟨w.heap.size + 1, 0, none⟩)] (leaves s ⟨#[]⟩ w) fun e w' => e = .returned (.pointer (some ⟨w.heap.size, 0, none⟩)) ∧ w' = leaves s ⟨#[]⟩ w) := ⟨concat_right _ _ _ _ HC.1 hs' HC.2.2.2.1⟩
  have H2 : Hid (Calls Ybaf.prog 5 #[.pointer (some ⟨w.heap.size, 0, none⟩)] (leaves s ⟨#[]⟩ w) fun e w' => e = .returned (.tuple #[.string s, .bool true]) ∧ w' = leaves s ⟨#[]⟩ w) := ⟨ready_leaf _ s _ HC.2.1 HC.2.2.1⟩
  have H3 : Hid (Calls Ybaf.prog 6 #[.pointer (some ⟨w.heap.size, 0, none⟩)] (leaves s ⟨#[]⟩ w) fun e w' => e = .returned (.string s) ∧ w' = leaves s ⟨#[]⟩ w) := ⟨bytes_leaf _ s _ HC.2.1 HC.2.2.1⟩
  have HB : Hid (Below w.heap.size w (leaves s ⟨#[]⟩ w)) := ⟨((Below.refl _ _).alloc (Nat.le_refl _) _).alloc (by simp) _⟩
  have hsd := toList_ne hs
  clear h1 h0 HC hs hs'
  generalize hW : leaves s ⟨#[]⟩ w = W at H1 H2 H3 HB
  go_enter Ybaf.func3, Ybaf.ntmps3
  go_upto_region 5 with fail
  have hW' : (w.alloc (.cells #[.int .i64 s.size, .string s, .pointer none, .pointer none, .pointer none] 31)).alloc (.cells #[.int .i64 0, .string ⟨#[]⟩, .pointer none, .pointer none, .pointer none] 31) = W := hW
  rw [hW']
  clear hW hW'
  go_wp2_with first
    | (go_at_call 4; refine H1.out.mono ?_; rintro e w' ⟨rfl, rfl⟩)
    | (go_at_call 5; refine H2.out.mono ?_; rintro e w' ⟨rfl, rfl⟩)
    | (go_at_call 6; refine H3.out.mono ?_; rintro e w' ⟨rfl, rfl⟩)
  go_ret
  exact ⟨rfl, HB.out⟩

theorem sum_walk (s t : ByteArray) (w : World) (h1 : s.size ≤ 4096) (h2 : t.size ≤ 4096) (hs : ¬ s.size = 0) (ht : ¬ t.size = 0) :
    Calls Ybaf.prog 3 #[.string s, .string t] w fun e w' => e = .returned (.bool true) ∧ Below w.heap.size w w' := by
  have h1' : ¬ (4096 : Int) < (s.size : Int) := by omega
  have h2' : ¬ (4096 : Int) < (t.size : Int) := by omega
  have hsd : s.toList.isEmpty = false := by simp [List.isEmpty_eq_false_iff, toList_ne hs]
  have htd : t.toList.isEmpty = false := by simp [List.isEmpty_eq_false_iff, toList_ne ht]
  obtain ⟨L, hL⟩ : ∃ L : Int, L = (s.size : Int) + (t.size : Int) := ⟨_, rfl⟩
  have HC := leaves_cell s t w
  have H1 : Hid _ := ⟨concat_sum w.heap.size (w.heap.size + 1) s.size t.size L (leaves s t w) HC.1 (by omega) HC.2.2.2.1 (by omega) (by omega) (by omega) (by omega) (by rw [← hL]; simp [wrap64]; omega)⟩
  have HB : Hid (Below w.heap.size w (leaves s t w)) := ⟨((Below.refl _ _).alloc (Nat.le_refl _) _).alloc (by simp) _⟩
  have HZ : Hid ((leaves s t w).heap.size = w.heap.size + 2) := ⟨by simp [leaves]⟩
  have HA : Hid (L = (s.size : Int) + (t.size : Int) ∧ s.size ≤ 4096 ∧ t.size ≤ 4096 ∧ 0 < s.size ∧ 0 < t.size) := ⟨hL, h1, h2, by omega, by omega⟩
  have HD : Hid _ := ⟨HC⟩
  clear h1 h2 hs ht HC hL
  generalize hW : leaves s t w = W at H1 HB HD HZ
  go_enter Ybaf.func3, Ybaf.ntmps3
  go_upto_region 5 with fail
  have hW' : (w.alloc (.cells #[.int .i64 s.size, .string s, .pointer none, .pointer none, .pointer none] 31)).alloc (.cells #[.int .i64 t.size, .string t, .pointer none, .pointer none, .pointer none] 31) = W := hW
  rw [hW']
  clear hW hW'
  go_upto_region 6 with (go_at_call 4; refine H1.out.mono ?_; rintro e w3 ⟨wd, hwd, hbd, rfl, hw3⟩)
  have Z3 : Hid (wd.heap.size = w.heap.size + 2) := ⟨by rw [hwd]; exact HZ.out⟩
  have E3 : Hid (Below W.heap.size W w3) := ⟨by rw [hw3]; exact hbd.alloc (by rw [Z3.out, HZ.out]; exact Nat.le_refl _) _⟩
  have K3 : Hid (w3.heap[w.heap.size + 2]? = some (.cells #[.int .i64 L, .string ⟨#[]⟩, .pointer (some ⟨w.heap.size, 0, none⟩), .pointer (some ⟨w.heap.size + 1, 0, none⟩), .pointer none] 31)) := ⟨by
    rw [hw3, ← Z3.out]
    exact (MapKept.heap_alloc _ _).1⟩
  have n0 : w3.cell? ⟨w.heap.size + 2, 0, none⟩ = some (.int .i64 L) := by rw [Lib.cell_of_heap K3.out]; rfl
  have n2 : w3.cell? ⟨w.heap.size + 2, 2, none⟩ = some (.pointer (some ⟨w.heap.size, 0, none⟩)) := by rw [Lib.cell_of_heap K3.out]; rfl
  have n3 : w3.cell? ⟨w.heap.size + 2, 3, none⟩ = some (.pointer (some ⟨w.heap.size + 1, 0, none⟩)) := by rw [Lib.cell_of_heap K3.out]; rfl
  have n4 : w3.cell? ⟨w.heap.size + 2, 4, none⟩ = some (.pointer none) := by rw [Lib.cell_of_heap K3.out]; rfl
  have nz : w3.frozen? ⟨w.heap.size + 2, 4, none⟩ = false := Lib.frozen_of_heap K3.out 4
  have l3 : w.heap.size + 2 < w3.heap.size := lt_of_heap K3.out
  have B3 : Hid (Below w.heap.size w w3) := ⟨HB.out.trans (E3.out.mono (by rw [HZ.out]; omega))⟩
  have R3 : Hid (Calls Ybaf.prog 5 #[.pointer (some ⟨w.heap.size + 2, 0, none⟩)] w3 fun e w' => e = .returned (.tuple #[.string ⟨#[]⟩, .bool false]) ∧ w' = w3) := ⟨ready_sum_nil _ ⟨w.heap.size, 0, none⟩ _ n2 n4⟩
  have Y3 : Hid _ := ⟨bytes_calls (w.heap.size + 2) w.heap.size (w.heap.size + 1) s t L w3 HA.out.1 n0 n2 n3 n4 nz
    ((E3.out.cell (by rw [HZ.out]; show w.heap.size < _; omega)).trans HD.out.2.1) ((E3.out.cell (by rw [HZ.out]; show w.heap.size < _; omega)).trans HD.out.2.2.1)
    ((E3.out.cell (by rw [HZ.out]; show w.heap.size + 1 < _; omega)).trans HD.out.2.2.2.2.1) ((E3.out.cell (by rw [HZ.out]; show w.heap.size + 1 < _; omega)).trans HD.out.2.2.2.2.2)
    l3 (by omega) (by omega) HA.out.2.2.2.1 HA.out.2.2.2.2 HA.out.2.1 HA.out.2.2.1⟩
  have ZZ : W.heap.size = w.heap.size + 2 := HZ.out
  try rw [← hw3]
  clear n0 n2 n3 n4 nz l3 hw3 hwd hbd K3 E3 H1
  simp only [ZZ]
  clear ZZ HZ Z3
  go_upto_region 14 with first
    | (go_at_call 5; refine R3.out.mono ?_; rintro e w' ⟨rfl, rfl⟩)
    | (go_at_call 6; refine Y3.out.mono ?_; rintro e w5 ⟨rfl, hb5, c, g2, g4, gs, gc⟩)
  have RF : Hid (Calls Ybaf.prog 5 #[.pointer (some ⟨w.heap.size + 2, 0, none⟩)] w5 fun e w' => e = .returned (.tuple #[.string (s ++ t), .bool true]) ∧ w' = w5) := ⟨ready_sum_full _ ⟨w.heap.size, 0, none⟩ c (s ++ t) _ g2 g4 gs gc⟩
  have B5 : Hid (Below w.heap.size w w5) := ⟨B3.out.trans (hb5.mono (by omega))⟩
  clear g2 g4 gs gc hb5 R3 Y3 HB HD B3
  go_wp2_with (go_at_call 5; refine RF.out.mono ?_; rintro e w' ⟨rfl, rfl⟩)
  go_ret
  exact ⟨rfl, B5.out⟩

theorem law_walk (s t : ByteArray) (w : World) : Calls Ybaf.prog 3 #[.string s, .string t] w fun e w' => e = .returned (.bool true) ∧ Below w.heap.size w w' := by
  by_cases h : s.size ≤ 4096 ∧ t.size ≤ 4096
  · by_cases h1 : s.size = 0
    · exact left_walk s t w h1 h.2
    · by_cases h2 : t.size = 0
      · exact right_walk s t w h.1 h1 h2
      · exact sum_walk s t w h.1 h.2 h1 h2
  · exact long_walk s t w h

end Go.Proofs.YbulkcikyFmt
