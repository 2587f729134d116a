/- (*stringVal).write at a sum of two plain values: four rounds. -/
import Derived.Test.YbulkcikyFmtReady
import Derived.Test.YbulkcikyFmtShelf
import Derived.LoopN
import Derived.Deep.AppendLies
import Derived.Deep.RegionHeld3
import Derived.OwnWalk
import Derived.Carry
namespace Go.Proofs.YbulkcikyFmt
open Go.ChangeShapes Go.WideShapes Go.ChangeAt Go.RowKit

/-- A builder stands where every block stands. -/
theorem builder_stands {T e : TypeId} {B b : Nat} {bs : List Value} {W W' : World} (h : Lib.IsBuilderF T e B b bs W) (hb : Below W.heap.size W W') : Lib.IsBuilderF T e B b bs W' := by
  have key : ∀ p, Lib.BuilderAtF T e B b p bs W → Lib.BuilderAtF T e B b p bs W' := by
    intro p h
    have hlt := h.lt
    obtain ⟨hB, v, hv, hown, hne⟩ := h
    exact ⟨hB, v, (hb.block b hlt).trans hv, hown.kept (row := none) ⟨hb.os, hb.tape, hb.output, hb.size, fun k hk _ => hb.block k hk⟩ (Classical.em _), hne⟩
  exact h.elim (fun x => .inl (key _ x)) (fun x => .inr (key _ x))

theorem Ybaf.info51 : (Ybaf.prog.info? 51).map (fun i => (i.zero, i.size, i.bytes)) = some (some (.agg #[.pointer none, .int .i64 0]), 2, 16) := by kernel_rfl

theorem len_calls (B b : Nat) (n : Int) (bs : List Value) (w : World) (h : Lib.IsBuilderF 42 5 B b bs w) (hn : (bs.length : Int) = n) :
    Calls Ybaf.prog 16 #[.pointer (some ⟨b, 0, none⟩)] w fun e w' => e = .returned (.int .i64 n) ∧ w' = w := by
  subst hn
  exact Ybaf.Builder_Len_f B b bs w h

theorem checkKey_ptr (e : Bool) (n : Nat) (x : Option Addr) (W : World) : (Instr.checkKey e (n + 1) 22 (.pointer x)).run Ybaf.prog W = .ok () W := by
  unfold Instr.checkKey
  simp [run_underlying Ybaf.underlying22]

theorem findKey_empty (x : Option Addr) (W : World) : (Instr.findKey 22 (.pointer x) []).run Ybaf.prog W = .ok none W := by
  unfold Instr.findKey
  simp [run_underlying Ybaf.underlying22, Instr.findNow]

theorem lookup_empty (m : Nat) (a : Addr) (W : World) (hm : W.heap[m]? = some (.map #[] 0)) :
    (Instr.lookup 49 (.map (some m)) (.pointer (some a)) true).run Ybaf.prog W = .ok (.tuple #[.int .i64 0, .bool false]) W := by
  have hz := Ybaf.zeroValue3 W
  have h1 := checkKey_ptr true 9999 (some a) W
  have h2 := findKey_empty (some a) W
  unfold Instr.lookup
  simp [run_underlying Ybaf.underlying49, MapKept.run_getObj_map hm, h1, h2, hz]

theorem cell_old {w : World} {a : Addr} {u : Value} (h : w.cell? a = some u) (o : Obj) : (w.alloc o).cell? a = some u := by
  rw [World.cell?_alloc_some w a o (by rw [h]; rfl), h]

/-- A row's cells stand behind a builder's write. -/
theorem row_cells {w : World} {g : Nat} {cur : Array Value} {xs : List Value} {n : Nat} (h : w.heap[g]? = some (.cells cur 51 (0, 0))) (ht : cur.toList.take n = xs) (j : Nat) (u : Value) (hj : xs[j]? = some u) : w.cell? ⟨g, j, none⟩ = some u := by
  rw [Lib.cell_of_heap h]
  subst ht
  rw [List.getElem?_take] at hj
  split at hj
  · simpa using hj
  · cases hj

theorem lt_of_heap {w : World} {g : Nat} {o : Obj} (h : w.heap[g]? = some o) : g < w.heap.size := by
  rcases Nat.lt_or_ge g w.heap.size with h' | h'
  · exact h'
  · rw [Array.getElem?_eq_none h'] at h; cases h

theorem not_bytes (cur : Array Value) : ∀ c fz, Obj.cells cur 51 (0, 0) ≠ Obj.cells c 5 fz := by
  intro c fz h
  injection h with _ h2 _
  exact absurd h2 (by decide)

structure Hid (p : Prop) : Prop where
  out : p

set_option maxHeartbeats 4000000 in
theorem write_calls (v x y b B : Nat) (s t : ByteArray) (L : Int) (w : World) (hL : L = (s.size : Int) + (t.size : Int))
    (hv2 : w.cell? ⟨v, 2, none⟩ = some (.pointer (some ⟨x, 0, none⟩))) (hv3 : w.cell? ⟨v, 3, none⟩ = some (.pointer (some ⟨y, 0, none⟩))) (hv4 : w.cell? ⟨v, 4, none⟩ = some (.pointer none))
    (hx1 : w.cell? ⟨x, 1, none⟩ = some (.string s)) (hx2 : w.cell? ⟨x, 2, none⟩ = some (.pointer none))
    (hy1 : w.cell? ⟨y, 1, none⟩ = some (.string t)) (hy2 : w.cell? ⟨y, 2, none⟩ = some (.pointer none))
    (lv : v < B) (lx : x < B) (ly : y < B) (hb0 : Lib.IsBuilderF 42 5 B b [] w) (hBw : B ≤ w.heap.size) (hs : 0 < s.size) (ht : 0 < t.size) (hs' : s.size ≤ 4096) (ht' : t.size ≤ 4096) :
    Calls Ybaf.prog 10 #[.pointer (some ⟨v, 0, none⟩), .pointer (some ⟨b, 0, none⟩), .int .i64 L] w fun e w' =>
      e = .returned (.tuple #[]) ∧ Lib.IsBuilderF 42 5 B b (Lib.strCells s ++ Lib.strCells t) w' ∧ Below B w w' := by
  have HB : Hid (Lib.IsBuilderF 42 5 B b [] w) := ⟨hb0⟩
  have HS : Hid (v < B ∧ x < B ∧ y < B ∧ B ≤ w.heap.size ∧ s.size ≤ 4096 ∧ t.size ≤ 4096) := ⟨lv, lx, ly, hBw, hs', ht'⟩
  obtain ⟨S, hS⟩ : ∃ S : Int, S = (s.size : Int) := ⟨_, rfl⟩
  have c0 : 0 < L := by omega
  have c1 : S < L := by omega
  have m0 : wrap64 L = L := by simp [wrap64]; omega
  have m1 : wrap64 (L - S) = L - S := by simp [wrap64]; omega
  have m2 : min (s.size : Int) L = (s.size : Int) := by omega
  have m3 : min (t.size : Int) (L - S) = (t.size : Int) := by omega
  have e1 : s.extract 0 s.size = s := ByteArray.extract_zero_size
  have e2 : t.extract 0 t.size = t := ByteArray.extract_zero_size
  have HL : Hid (L = (s.size : Int) + (t.size : Int) ∧ S = (s.size : Int) ∧ 0 < s.size ∧ 0 < t.size) := ⟨hL, hS, hs, ht⟩
  clear hL hS hs ht
  have lv1 : v < w.heap.size := by omega
  have lx1 : x < w.heap.size := by omega
  have ly1 : y < w.heap.size := by omega
  clear hb0 lv lx ly hBw hs' ht'
  have hmm := @run_makeMap Ybaf.prog
  go_enter Ybaf.func10, Ybaf.ntmps10
  go_wp2
  refine wp_loop_rounds 4 ?_
  rw [rounds_succ]
  go_wp2_with first
    | (go_at_call 16; refine (len_calls B b 0 [] _ ?l1 rfl).mono ?_; rotate_left 1; rintro e w' ⟨rfl, rfl⟩)
    | (go_at_call 5; refine (ready_sum_nil v ⟨x, 0, none⟩ _ ?l2 ?l3).mono ?_; rotate_left 2; rintro e w' ⟨rfl, rfl⟩)
  case l1 => exact (HB.out.alloc _).alloc _
  case l2 => exact cell_old (cell_old (cell_old hv2 _) _) _
  case l3 => exact cell_old (cell_old (cell_old hv4 _) _) _
  rw [lookup_empty _ _ _ (((MapKept.heap_alloc _ _).2 _ (by simp <;> omega)).trans (((MapKept.heap_alloc _ _).2 _ (by simp)).trans (MapKept.heap_alloc _ _).1))]
  obtain ⟨i0, hi0, hz0, hz1, hz2⟩ := info_parts Ybaf.info51
  go_wp2_with fail
  have g2 := cell_old (cell_old (cell_old hv2 (.map #[] 0)) (.cells #[.pointer (some ⟨v, 0, none⟩), .int .i64 (-1)] 51)) (.cells #[.pointer (some ⟨v, 0, none⟩), .int .i64 (-1)] 51)
  have g3 := cell_old (cell_old (cell_old hv3 (.map #[] 0)) (.cells #[.pointer (some ⟨v, 0, none⟩), .int .i64 (-1)] 51)) (.cells #[.pointer (some ⟨v, 0, none⟩), .int .i64 (-1)] 51)
  have GX : Hid (Lib.IsBuilderF 42 5 B b [] (((w.alloc (.map #[] 0)).alloc (.cells #[.pointer (some ⟨v, 0, none⟩), .int .i64 (-1)] 51)).alloc (.cells #[.pointer (some ⟨v, 0, none⟩), .int .i64 (-1)] 51)) ∧
      Below w.heap.size w (((w.alloc (.map #[] 0)).alloc (.cells #[.pointer (some ⟨v, 0, none⟩), .int .i64 (-1)] 51)).alloc (.cells #[.pointer (some ⟨v, 0, none⟩), .int .i64 (-1)] 51)) ∧
      (((w.alloc (.map #[] 0)).alloc (.cells #[.pointer (some ⟨v, 0, none⟩), .int .i64 (-1)] 51)).alloc (.cells #[.pointer (some ⟨v, 0, none⟩), .int .i64 (-1)] 51)).heap.size = w.heap.size + 3 ∧
      (((w.alloc (.map #[] 0)).alloc (.cells #[.pointer (some ⟨v, 0, none⟩), .int .i64 (-1)] 51)).alloc (.cells #[.pointer (some ⟨v, 0, none⟩), .int .i64 (-1)] 51)).heap[w.heap.size + 1]? = some (.cells #[.pointer (some ⟨v, 0, none⟩), .int .i64 (-1)] 51)) :=
    ⟨((HB.out.alloc _).alloc _).alloc _, (((Below.refl _ _).alloc (Nat.le_refl _) _).alloc (by simp) _).alloc (by simp <;> omega) _, by simp, ((MapKept.heap_alloc _ _).2 _ (by simp)).trans (heap_alloc2_new _ _ _)⟩
  generalize (((w.alloc (.map #[] 0)).alloc (.cells #[.pointer (some ⟨v, 0, none⟩), .int .i64 (-1)] 51)).alloc (.cells #[.pointer (some ⟨v, 0, none⟩), .int .i64 (-1)] 51)) = w3 at g2 g3 GX ⊢
  have OW : Hid (w3.ownsRow (w.heap.size + 1) 51 2 (.slice (some ⟨w.heap.size + 1, 0, none⟩) 0 1) 0 []) :=
    ⟨⟨rfl, .inr ⟨w.heap.size + 1, 1, #[.pointer (some ⟨v, 0, none⟩), .int .i64 (-1)], rfl, Nat.le_refl _, GX.out.2.2.2, by omega, by decide, rfl, rfl⟩⟩⟩
  have SZ : Hid (w.heap.size + 1 ≤ w3.heap.size) := ⟨by rw [GX.out.2.2.1]; omega⟩
  have N1 : Hid (∀ u ∈ [.pointer (some ⟨v, 0, none⟩), .int .i64 0, .pointer (some ⟨y, 0, none⟩), .int .i64 (-1), .pointer (some ⟨x, 0, none⟩), .int .i64 (-1)], Value.oneCell' u = true) := ⟨by simp [Value.oneCell']⟩
  have N2 : Hid (0 + 3 ≤ maxLen) := ⟨by decide⟩
  have N3 : Hid ((0 + 3) * 16 ≤ 140737488355328) := ⟨by decide⟩
  have N4 : Hid (∀ o, w.heap.size + 1 ≤ (w3.alloc o).drew.heap.size) := ⟨fun o => Nat.le_trans SZ.out (by simp)⟩
  have N5 : Hid (∀ o, (w3.alloc o).drew.heap.size = w3.heap.size + 1) := ⟨fun o => by simp⟩
  have N6 : Hid (0 < 2) := ⟨by decide⟩
  have N7 : Hid (0 < 3) := ⟨by decide⟩
  have lv3 : v < w3.heap.size := Nat.lt_of_lt_of_le lv1 (by have := SZ.out; omega)
  go_region_held3 (fun w' => w'.cell? ⟨v, 2, none⟩ = some (.pointer (some ⟨x, 0, none⟩)) ∧ w'.cell? ⟨v, 3, none⟩ = some (.pointer (some ⟨y, 0, none⟩)))
    (first
      | go_keep
      | (go_split_ands
         refine ⟨?_, ?_⟩
         · (rw [hgrow.cell_far _ (by simp; omega) (by simp [Value.ownBlock]; omega)]; assumption)
         · (rw [hgrow.cell_far _ (by simp; omega) (by simp [Value.ownBlock]; omega)]; assumption)))
    (first
      | (go_at_call 16; refine (len_calls B b 0 [] w3.drew GX.out.1 rfl).mono ?_; rintro e w' ⟨rfl, rfl⟩)
      | (refine step_append_lies _ (by rfl) _ _ _ (by rfl) (w.heap.size + 1) 51 i0 _ 2 16 Ybaf.underlying52 hi0 hz0 hz1 hz2 rfl N6.out (.slice (some ⟨w.heap.size + 1, 0, none⟩) 0 1) 0 [] (by rfl) ((OW.out.alloc _).drew)
            ⟨w3.heap.size, 0, none⟩ 3 3 [.pointer (some ⟨v, 0, none⟩), .int .i64 0, .pointer (some ⟨y, 0, none⟩), .int .i64 (-1), .pointer (some ⟨x, 0, none⟩), .int .i64 (-1)] (by rfl) (by rfl)
            (World.news_of_block (cs := #[.pointer (some ⟨v, 0, none⟩), .int .i64 0, .pointer (some ⟨y, 0, none⟩), .int .i64 (-1), .pointer (some ⟨x, 0, none⟩), .int .i64 (-1)]) (t := 51) (fr := (0, 0)) (MapKept.heap_alloc w3 _).1) N1.out
            N7.out N2.out N3.out (N4.out _) (w3.heap.size + 1) (N5.out _) ?_; intro gg cap w1 hown1 hgrow hat hlt))
  go_wp2_with fail
  have BW1 : Hid (Below w.heap.size w w1) := ⟨((GX.out.2.1.alloc (by rw [GX.out.2.2.1]; omega) _).drew).grown hgrow (by have := SZ.out; simp; omega) (by intro k hk; simp [Value.ownBlock] at hk; omega)⟩
  have HB1 : Hid (Lib.IsBuilderF 42 5 B b [] w1) := ⟨builder_stands HB.out BW1.out⟩
  obtain ⟨cur, hR, hcap, htk⟩ : ∃ cur, Hid (w1.heap[gg]? = some (.cells cur 51 (0, 0))) ∧ 3 ≤ cap ∧ Hid (cur.toList.take (3 * 2) = [.pointer (some ⟨v, 0, none⟩), .int .i64 0, .pointer (some ⟨y, 0, none⟩), .int .i64 (-1), .pointer (some ⟨x, 0, none⟩), .int .i64 (-1)]) := by
    obtain ⟨_, h | ⟨g', cap', cur, he, _, hh, hle, _, _, hx⟩⟩ := hown1
    · cases h.1
    · injection he with e1 e2 e3
      injection e1 with e1
      injection e1 with e1
      subst e1 e3
      exact ⟨cur, ⟨hh⟩, hle, ⟨hx⟩⟩
  have GL : Hid (w.heap.size + 1 ≤ gg) := by
    refine ⟨?_⟩
    rcases hat with h | h
    · simp [Value.ownBlock] at h; omega
    · have := SZ.out; omega
  have r4 := row_cells hR.out htk.out 4 _ rfl
  have r5 := row_cells hR.out htk.out 5 _ rfl
  have x1 : w1.cell? ⟨x, 1, none⟩ = some (.string s) := (BW1.out.cell lx1).trans hx1
  have x2 : w1.cell? ⟨x, 2, none⟩ = some (.pointer none) := (BW1.out.cell lx1).trans hx2
  have GB : Hid (some gg ≠ some b) := ⟨fun e => by have := HB.out.elim (fun h => h.lt) (fun h => h.lt); have := GL.out; injection e with e; omega⟩
  have HN1 : Hid (([] : List Value).length + s.size ≤ 140737488355328) := ⟨by have := HS.out; simp; omega⟩
  have HN2 : Hid (∀ o, B ≤ (w1.alloc o).heap.size) := ⟨fun o => by have := HS.out.2.2.2.1; have := BW1.out.size; simp; omega⟩
  have HLen : Hid ((Lib.strCells s).length = s.size ∧ (Lib.strCells t).length = t.size) := ⟨⟨Lib.strCells_length s, Lib.strCells_length t⟩⟩
  clear hown1 hgrow hat N1 N2 N3 N4 N5 N6 N7 OW SZ GX g2 g3 lv3
  try rw [rounds_succ]
  go_wp2_with first
    | (go_at_call 16; refine (len_calls B b 0 [] _ ?_ rfl).mono ?_; (first | exact HB1.out | exact HB1.out.alloc _); rintro e w' ⟨rfl, rfl⟩)
    | (go_at_call 5; refine (ready_leaf x s _ ?_ ?_).mono ?_; (exact cell_old x1 _); (exact cell_old x2 _); rintro e w' ⟨rfl, rfl⟩)
    | (go_at_call 17; refine (Ybaf.Builder_WriteString_k B b [] s _ (HB1.out.alloc _) HN1.out (HN2.out _)).mono ?_; rintro e w2 ⟨rfl, hA2, hbel2, hoth2⟩)
  have BW2 : Hid (Below B w w2) := ⟨((BW1.out.mono HS.out.2.2.2.1).alloc (Nat.le_trans HS.out.2.2.2.1 BW1.out.size) _).trans hbel2⟩
  have HB2 : Hid (Lib.IsBuilderF 42 5 B b (Lib.strCells s) w2) := ⟨.inr (by simpa using hA2)⟩
  have hR2 : Hid (w2.heap[gg]? = some (.cells cur 51 (0, 0))) := ⟨hoth2 gg _ (((MapKept.heap_alloc _ _).2 _ (lt_of_heap hR.out)).trans hR.out) GB.out (not_bytes _)⟩
  have y1 : w2.cell? ⟨y, 1, none⟩ = some (.string t) := (BW2.out.cell HS.out.2.2.1).trans hy1
  have y2 : w2.cell? ⟨y, 2, none⟩ = some (.pointer none) := (BW2.out.cell HS.out.2.2.1).trans hy2
  have q2 := row_cells hR2.out htk.out 2 _ rfl
  have q3 := row_cells hR2.out htk.out 3 _ rfl
  have HN3 : Hid ((Lib.strCells s).length + t.size ≤ 140737488355328) := ⟨by rw [HLen.out.1]; have := HS.out; omega⟩
  have HN4 : Hid (∀ o, B ≤ (w2.alloc o).heap.size) := ⟨fun o => by have := HS.out.2.2.2.1; have := BW2.out.size; simp; omega⟩
  have HQ : Hid (((Lib.strCells s).length : Int) = S) := ⟨by rw [HLen.out.1]; exact HL.out.2.1.symm⟩
  clear hA2 hbel2 hoth2 x1 x2 r4 r5 hR HB1 BW1
  rw [rounds_succ]
  go_wp2_with first
    | (go_at_call 16; refine (len_calls B b S (Lib.strCells s) _ ?_ HQ.out).mono ?_; (first | exact HB2.out | exact HB2.out.alloc _); rintro e w' ⟨rfl, rfl⟩)
    | (go_at_call 5; refine (ready_leaf y t _ ?_ ?_).mono ?_; (exact cell_old y1 _); (exact cell_old y2 _); rintro e w' ⟨rfl, rfl⟩)
    | (go_at_call 17; refine (Ybaf.Builder_WriteString_k B b (Lib.strCells s) t _ (HB2.out.alloc _) HN3.out (HN4.out _)).mono ?_; rintro e w3 ⟨rfl, hA3, hbel3, _⟩)
  have BW3 : Hid (Below B w w3) := ⟨(BW2.out.alloc (Nat.le_trans HS.out.2.2.2.1 BW2.out.size) _).trans hbel3⟩
  have HB3 : Hid (Lib.IsBuilderF 42 5 B b (Lib.strCells s ++ Lib.strCells t) w3) := ⟨.inr hA3⟩
  have HQ3 : Hid (((Lib.strCells s ++ Lib.strCells t).length : Int) = L) := ⟨by rw [List.length_append, HLen.out.1, HLen.out.2]; have := HL.out.1; omega⟩
  clear hA3 hbel3 y1 y2 q2 q3 hR2 HB2 BW2
  rw [rounds_succ]
  go_wp2_with (go_at_call 16; refine (len_calls B b L (Lib.strCells s ++ Lib.strCells t) _ HB3.out HQ3.out).mono ?_; rintro e w' ⟨rfl, rfl⟩)
  go_end0
  exact ⟨rfl, HB3.out, BW3.out⟩
end Go.Proofs.YbulkcikyFmt
