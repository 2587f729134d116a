/- (*stringVal).bytes at a sum of two plain values, and concat. -/
import Derived.Test.YbulkcikyFmtWrite
import Derived.Deep.Cut
namespace Go.Proofs.YbulkcikyFmt
open Go.ChangeShapes Go.WideShapes Go.ChangeAt Go.RowKit

theorem join_eq (s t : ByteArray) : (⟨(s.data.toList ++ t.data.toList).toArray⟩ : ByteArray) = s ++ t := by
  apply ByteArray.ext
  simp [ByteArray.data_append]

theorem grow_calls (B b : Nat) (L : Int) (n : Nat) (hL : L = (n : Int)) (w : World) (hB : B ≤ b) (hbk : w.heap[b]? = some (.cells #[.pointer none, .slice none 0 0] 42 (0, 0))) (hBw : B ≤ w.heap.size) (hn : n ≤ 281474976710656) :
    Calls Ybaf.prog 9 #[.pointer (some ⟨b, 0, none⟩), .int .i64 L] w fun e w' => e = .returned (.tuple #[]) ∧ (Lib.BuilderAt 42 5 B b (.pointer (some ⟨b, 0, none⟩)) [] w' ∧ Below B w w') := by
  subst hL
  exact Ybaf.Builder_Grow_fresh B b n w hB hbk hBw hn

theorem string_calls (B b : Nat) (s t : ByteArray) (w : World) (h : Lib.IsBuilderF 42 5 B b (Lib.strCells s ++ Lib.strCells t) w) (h0 : 0 < s.size) :
    Calls Ybaf.prog 11 #[.pointer (some ⟨b, 0, none⟩)] w fun e w' => e = .returned (.string (s ++ t)) ∧ Below B w w' := by
  have h' : Lib.IsBuilderF 42 5 B b (Lib.byteCells (s.data.toList ++ t.data.toList)) w := by
    rw [Lib.byteCells_append]
    exact h
  refine (Ybaf.Builder_String_k B b _ w h' ?_).mono ?_
  · intro e
    have := congrArg List.length e
    have e2 : s.data.size = s.size := rfl
    simp at this
    simp [this] at h0
  · rintro e w' ⟨rfl, _, hb, _⟩
    exact ⟨by rw [join_eq], hb⟩

theorem bytes_calls (v x y : Nat) (s t : ByteArray) (L : Int) (w : World) (hL : L = (s.size : Int) + (t.size : Int))
    (hv0 : w.cell? ⟨v, 0, none⟩ = some (.int .i64 L))
    (hv2 : w.cell? ⟨v, 2, none⟩ = some (.pointer (some ⟨x, 0, none⟩))) (hv3 : w.cell? ⟨v, 3, none⟩ = some (.pointer (some ⟨y, 0, none⟩))) (hv4 : w.cell? ⟨v, 4, none⟩ = some (.pointer none))
    (hvz : w.frozen? ⟨v, 4, none⟩ = false)
    (hx1 : w.cell? ⟨x, 1, none⟩ = some (.string s)) (hx2 : w.cell? ⟨x, 2, none⟩ = some (.pointer none))
    (hy1 : w.cell? ⟨y, 1, none⟩ = some (.string t)) (hy2 : w.cell? ⟨y, 2, none⟩ = some (.pointer none))
    (lv : v < w.heap.size) (lx : x < w.heap.size) (ly : y < w.heap.size) (hs : 0 < s.size) (ht : 0 < t.size) (hs' : s.size ≤ 4096) (ht' : t.size ≤ 4096) :
    Calls Ybaf.prog 6 #[.pointer (some ⟨v, 0, none⟩)] w fun e w' =>
      e = .returned (.string (s ++ t)) ∧ Below v w w' ∧ ∃ c, w'.cell? ⟨v, 2, none⟩ = some (.pointer (some ⟨x, 0, none⟩)) ∧ w'.cell? ⟨v, 4, none⟩ = some (.pointer (some ⟨c, 0, none⟩)) ∧
        w'.shape? c = some (9, 1) ∧ w'.cell? ⟨c, 0, none⟩ = some (.string (s ++ t)) := by
  have HS : Hid (v < w.heap.size ∧ x < w.heap.size ∧ y < w.heap.size ∧ 0 < s.size ∧ 0 < t.size ∧ s.size ≤ 4096 ∧ t.size ≤ 4096) := ⟨lv, lx, ly, hs, ht, hs', ht'⟩
  have HL : Hid (L = (s.size : Int) + (t.size : Int)) := ⟨hL⟩
  have HV : Hid (w.frozen? ⟨v, 4, none⟩ = false ∧ w.cell? ⟨x, 1, none⟩ = some (.string s) ∧ w.cell? ⟨x, 2, none⟩ = some (.pointer none) ∧ w.cell? ⟨y, 1, none⟩ = some (.string t) ∧ w.cell? ⟨y, 2, none⟩ = some (.pointer none)) := ⟨hvz, hx1, hx2, hy1, hy2⟩
  clear lv lx ly hs ht hs' ht' hL hvz hx1 hx2 hy1 hy2
  have k0 := cell_old hv0 (.cells #[.pointer none, .slice none 0 0] 42)
  have G1 : Hid (L = ((s.size + t.size : Nat) : Int)) := ⟨by have := HL.out; omega⟩
  have G2 : Hid ((w.alloc (.cells #[.pointer none, .slice none 0 0] 42)).heap[w.heap.size]? = some (.cells #[.pointer none, .slice none 0 0] 42 (0, 0))) := ⟨(MapKept.heap_alloc _ _).1⟩
  have G3 : Hid (w.heap.size ≤ (w.alloc (.cells #[.pointer none, .slice none 0 0] 42)).heap.size) := ⟨by simp⟩
  have G4 : Hid (s.size + t.size ≤ 281474976710656) := ⟨by have := HS.out; omega⟩
  go_enter Ybaf.func6, Ybaf.ntmps6
  go_upto_region 6 with first
    | (go_at_call 5; refine (ready_sum_nil v ⟨x, 0, none⟩ _ hv2 hv4).mono ?_; rintro e w' ⟨rfl, hw'⟩; have hw := hw'.symm; clear hw'; subst hw)
    | (go_at_call 9; refine (grow_calls w.heap.size w.heap.size L (s.size + t.size) G1.out _ (Nat.le_refl _) G2.out G3.out G4.out).mono ?_; rintro e w2 ⟨rfl, hB2, hbel2⟩)
  have BW2 : Hid (Below w.heap.size w w2) := ⟨((Below.refl _ _).alloc (Nat.le_refl _) _).trans hbel2⟩
  have HB2 : Hid (Lib.IsBuilderF 42 5 w.heap.size w.heap.size [] w2) := ⟨.inr (Lib.BuilderAtF.of hB2)⟩
  have v0 : w2.cell? ⟨v, 0, none⟩ = some (.int .i64 L) := (BW2.out.cell HS.out.1).trans hv0
  have WR : Hid (Calls Ybaf.prog 10 #[.pointer (some ⟨v, 0, none⟩), .pointer (some ⟨w.heap.size, 0, none⟩), .int .i64 L] w2 fun e w' =>
      e = .returned (.tuple #[]) ∧ Lib.IsBuilderF 42 5 w.heap.size w.heap.size (Lib.strCells s ++ Lib.strCells t) w' ∧ Below w.heap.size w2 w') :=
    ⟨write_calls v x y w.heap.size w.heap.size s t L w2 HL.out ((BW2.out.cell HS.out.1).trans hv2) ((BW2.out.cell HS.out.1).trans hv3) ((BW2.out.cell HS.out.1).trans hv4)
      ((BW2.out.cell HS.out.2.1).trans HV.out.2.1) ((BW2.out.cell HS.out.2.1).trans HV.out.2.2.1) ((BW2.out.cell HS.out.2.2.1).trans HV.out.2.2.2.1) ((BW2.out.cell HS.out.2.2.1).trans HV.out.2.2.2.2)
      HS.out.1 HS.out.2.1 HS.out.2.2.1 HB2.out BW2.out.size HS.out.2.2.2.1 HS.out.2.2.2.2.1 HS.out.2.2.2.2.2.1 HS.out.2.2.2.2.2.2⟩
  clear hB2 hbel2 k0
  go_upto_region 7 with (go_at_call 10; refine WR.out.mono ?_; rintro e w3 ⟨rfl, hB3, hbel3⟩)
  have BW3 : Hid (Below w.heap.size w w3) := ⟨BW2.out.trans hbel3⟩
  have SR : Hid (Calls Ybaf.prog 11 #[.pointer (some ⟨w.heap.size, 0, none⟩)] w3 fun e w' => e = .returned (.string (s ++ t)) ∧ Below w.heap.size w3 w') := ⟨string_calls _ _ s t w3 hB3 HS.out.2.2.2.1⟩
  clear hB3 hbel3 v0 WR BW2 HB2
  go_upto_region 8 with (go_at_call 11; refine SR.out.mono ?_; rintro e w4 ⟨rfl, hbel4⟩)
  have BW4 : Hid (Below w.heap.size w w4) := ⟨BW3.out.trans hbel4⟩
  clear hbel4 SR BW3
  have v2 : w4.cell? ⟨v, 2, none⟩ = some (.pointer (some ⟨x, 0, none⟩)) := (BW4.out.cell HS.out.1).trans hv2
  have v4 : w4.cell? ⟨v, 4, none⟩ = some (.pointer none) := (BW4.out.cell HS.out.1).trans hv4
  have z4 : w4.frozen? ⟨v, 4, none⟩ = false := (BW4.out.frozen HS.out.1).trans HV.out.1
  have lv4 : v < w4.heap.size := Nat.lt_of_lt_of_le HS.out.1 BW4.out.size
  clear hv0 hv2 hv3 hv4
  have SC : Hid (Calls Ybaf.prog 12 #[.pointer (some ⟨v, 4, none⟩), .pointer (some ⟨w4.heap.size, 0, none⟩)] (w4.alloc (.cells #[.string (s ++ t)] 9)) fun e w' => e = .returned (.tuple #[]) ∧ w' = (w4.alloc (.cells #[.string (s ++ t)] 9)).setCell ⟨v, 4, none⟩ (.pointer (some ⟨w4.heap.size, 0, none⟩))) :=
    ⟨store_calls _ _ (.pointer none) _ (cell_old v4 _) ((frozen?_alloc_cells _ _ _ _).trans z4) (World.shape?_alloc_at _ _ _ rfl)⟩
  go_wp2_with (go_at_call 12; refine SC.out.mono ?_; rintro e w5 ⟨rfl, hw5⟩)
  go_ret
  have HV4 := HS.out.1
  refine ⟨by simp, ?_, w4.heap.size, ?_, ?_, ?_, ?_⟩
  all_goals (try rw [hw5])
  · exact ((BW4.out.mono (Nat.le_of_lt HV4)).setCell (p := ⟨v, 4, none⟩) (Nat.le_refl v) _).alloc (by simp; omega) _
  · go_simp
  · go_simp
  · go_simp
  · go_simp

theorem concat_left (x y : Nat) (w : World) (h : w.cell? ⟨x, 0, none⟩ = some (.int .i64 0)) :
    Calls Ybaf.prog 4 #[.pointer (some ⟨x, 0, none⟩), .pointer (some ⟨y, 0, none⟩)] w fun e w' => e = .returned (.pointer (some ⟨y, 0, none⟩)) ∧ w' = w := by
  go_enter Ybaf.func4, Ybaf.ntmps4
  go_wp2
  go_ret
  exact ⟨rfl, rfl⟩

theorem concat_right (x y : Nat) (n : Int) (w : World) (h : w.cell? ⟨x, 0, none⟩ = some (.int .i64 n)) (hn : ¬ n = 0) (h' : w.cell? ⟨y, 0, none⟩ = some (.int .i64 0)) :
    Calls Ybaf.prog 4 #[.pointer (some ⟨x, 0, none⟩), .pointer (some ⟨y, 0, none⟩)] w fun e w' => e = .returned (.pointer (some ⟨x, 0, none⟩)) ∧ w' = w := by
  go_enter Ybaf.func4, Ybaf.ntmps4
  go_wp2
  go_ret
  exact ⟨rfl, rfl⟩

theorem concat_sum (x y : Nat) (n m L : Int) (w : World) (h : w.cell? ⟨x, 0, none⟩ = some (.int .i64 n)) (hn : ¬ n = 0) (h' : w.cell? ⟨y, 0, none⟩ = some (.int .i64 m)) (hm : ¬ m = 0)
    (b0 : 0 ≤ m) (b1 : m ≤ 4096) (b2 : n ≤ 4096) (hL : wrap64 (n + m) = L) :
    Calls Ybaf.prog 4 #[.pointer (some ⟨x, 0, none⟩), .pointer (some ⟨y, 0, none⟩)] w fun e w' => ∃ wd : World, wd.heap = w.heap ∧ Below w.heap.size w wd ∧ e = .returned (.pointer (some ⟨w.heap.size, 0, none⟩)) ∧
      w' = wd.alloc (.cells #[.int .i64 L, .string ⟨#[]⟩, .pointer (some ⟨x, 0, none⟩), .pointer (some ⟨y, 0, none⟩), .pointer none] 31) := by
  have c1 : wrap64 (9223372036854775807 - m) = 9223372036854775807 - m := by simp [wrap64]; omega
  have c2 : ¬ 9223372036854775807 - m < n := by omega
  clear b0 b1 b2
  go_enter Ybaf.func4, Ybaf.ntmps4
  go_wp2
  go_region
  go_wp2
  go_region
  go_wp2
  go_ret
  exact ⟨w.drew.drew, rfl, ⟨rfl, rfl, rfl, Nat.le_refl _, fun _ _ => rfl⟩, by simp, rfl⟩

end Go.Proofs.YbulkcikyFmt
