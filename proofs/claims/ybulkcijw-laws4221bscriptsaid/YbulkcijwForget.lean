import Derived.Test.YbulkcijwAdd
import Derived.Deep.RegionWith
import Derived.RegionTactic
import Derived.Deep.CutRange
namespace Go.Proofs.Ybulkcijw
open Go.RowKit Go.Maps Go.RwLone

def i32Cells (zs : List Int) : List Value := zs.map (Value.int .i32)

theorem Side6.drop1 {N m : Nat} {w : World} (h : Side6 N m w) (s : ByteArray) (hs : s.size ≤ maxLen) (ty : TypeId) :
    ∃ w', (Builtin.delete_ #[39, 9] ty #[.map (some (N + 1)), .string s]).run Yba.prog w = .ok (.tuple #[]) w' ∧ Side6 N m w' ∧ w.grownBy w' (some (N + 1)) := by
  obtain ⟨a, b, c, d, e, f, g⟩ := h
  obtain ⟨w', h1, h2, h3⟩ := b.drop (T := 39) (E := 21) law9 Yba.underlying39 ty (.string s) _ (WideMaps.keyOf_string_mk Yba.underlying9 hs)
  have hlt : ∀ {K : TypeId} {j : Nat}, HasMap w K j m → j < w.heap.size := fun ⟨_, _, _, hb, _⟩ => (Array.getElem?_eq_some_iff.1 hb).1
  have kp : ∀ {K : TypeId} {j : Nat}, HasMap w K j m → j ≠ N + 1 → HasMap w' K j m := fun hj hne => hj.keep (h3.block _ (hlt hj) (by simpa using hne))
  refine ⟨w', h1, ⟨?_, h2, kp c (by omega), kp d (by omega), kp e (by omega), kp f (by omega), kp g (by omega)⟩, h3⟩
  rw [World.cell?_of_block (w := w) (h3.block N (World.block_lt_of_cell? _ _ a) (by simp))]; exact a

/-- delete in one of the five maps with places for keys -/
theorem Side6.dropI {N m : Nat} {w : World} (h : Side6 N m w) (j : Nat) (hj : 2 ≤ j ∧ j ≤ 6) (T E : TypeId) (ht : Yba.prog.underlying T = some (.map 21 E)) (x : Int) (hx : (Lit.int .i32 x).wf = true) (ty : TypeId) :
    ∃ w', (Builtin.delete_ #[T, 21] ty #[.map (some (N + j)), .int .i32 x]).run Yba.prog w = .ok (.tuple #[]) w' ∧ Side6 N m w' ∧ w.grownBy w' (some (N + j)) := by
  obtain ⟨a, b, c, d, e, f, g⟩ := h
  have hm : HasMap w 21 (N + j) m := by
    rcases (by omega : j = 2 ∨ j = 3 ∨ j = 4 ∨ j = 5 ∨ j = 6) with rfl | rfl | rfl | rfl | rfl <;> assumption
  obtain ⟨w', h1, h2, h3⟩ := hm.drop (T := T) (E := E) law21 ht ty (.int .i32 x) _ (keyOf_int_mk Yba.underlying21 hx)
  have hlt : ∀ {K : TypeId} {j : Nat}, HasMap w K j m → j < w.heap.size := fun ⟨_, _, _, hb, _⟩ => (Array.getElem?_eq_some_iff.1 hb).1
  have kp : ∀ {i : Nat}, HasMap w 21 (N + i) m → HasMap w' 21 (N + i) m := fun {i} hi => by
    by_cases e : i = j
    · subst e; exact h2
    · exact hi.keep (h3.block _ (hlt hi) (by simp; omega))
  refine ⟨w', h1, ⟨?_, b.keep (h3.block _ (hlt b) (by simp; omega)), kp c, kp d, kp e, kp f, kp g⟩, h3⟩
  rw [World.cell?_of_block (w := w) (h3.block N (World.block_lt_of_cell? _ _ a) (by simp; omega))]; exact a

set_option maxHeartbeats 2000000 in
set_option maxRecDepth 100000 in
theorem forget_any (N k m p : Nat) (n : Int) (iv lv : Value) (ss : List ByteArray) (zs : List Int) (w : World) (hk : k ≤ 1000) (hp : p < k) (hn0 : 0 < n) (hn1 : n ≤ 1000) (hz : zs.length ≤ 1000) (hss : ∀ s ∈ ss, s.size ≤ 1000)
    (hT : Tab N 0 0 iv lv n w) (hS : Side6 N m w) (hI : w.ownsRow (N + 10) 9 1 iv k (strCells ss)) (hV : w.ownsRow (N + 10) 21 1 lv zs.length (i32Cells zs)) :
    Calls Yba.prog 10 #[.pointer (some ⟨N + 9, 0, none⟩), .int .i64 p] w fun e w' => e = .returned (.tuple #[]) ∧ ∃ g cap, Tab N 0 0 iv (.slice (some ⟨g, 0, none⟩) (zs.length + 1) cap) (n - 1) w' ∧ Side6 N m w' ∧
      w'.ownsRow (N + 10) 21 1 (.slice (some ⟨g, 0, none⟩) (zs.length + 1) cap) (zs.length + 1) (i32Cells (zs ++ [(p : Int)])) ∧ (lv.ownBlock = some g ∨ w.heap.size ≤ g) ∧ Kept N lv.ownBlock w w' := by
  have hlt := hT.lt
  obtain ⟨gi, ci, hiv, hgi, hgl⟩ := hI.form (by omega)
  obtain ⟨s, hs, hs2⟩ : ∃ s, w.cell? ⟨gi, p, none⟩ = some (.string s) ∧ s.size ≤ 1000 := by
    have hlen : ss.length = k := by have := hI.1; simpa [strCells] using this
    have hp2 : p < ss.length := by omega
    have h1 := hI.cells (g := gi) (by rw [hiv]; rfl) p (.string ss[p]) (by simp [strCells, hp2])
    refine ⟨ss[p], ?_, hss _ (List.getElem_mem hp2)⟩
    have e : (⟨gi, 0, none⟩ : Addr).add p = ⟨gi, p, none⟩ := by unfold Addr.add; split <;> simp_all
    rw [← e]; exact h1
  have L1 := hT.cell 1 (.pointer (some ⟨N, 0, none⟩)) rfl
  have L2 := hT.cell 2 (.int .i32 0) rfl
  have L4 := hT.cell 4 (.int .u32 0) rfl
  have L5 := hT.cell 5 (.int .u32 0) rfl
  have L6 := hT.cell 6 (.int .i32 0) rfl
  have F6 := hT.frozen 6
  have L8 : w.cell? ⟨N + 9, 8, none⟩ = some (.slice (some ⟨gi, 0, none⟩) k ci) := by
    have := hT.cell 8 iv rfl
    rwa [hiv] at this
  have IDC : Hid (Calls Yba.prog 22 #[.pointer (some ⟨N + 9, 0, none⟩), .int .i64 p] w.drew fun e w' => e = .returned (.string s) ∧ w' = w.drew) :=
    id_any (N + 9) N gi ci k p s (.int .i32 0) (.int .u32 0) (.int .u32 0) w.drew (by omega) hp (by omega) L1 hS.1 L2 L4 L5 L6 F6 L8 hs
  have hSd : Side6 N m w.drew := hS.keep (fun _ _ _ => rfl)
  obtain ⟨w1, r1, S1, G1⟩ := hSd.drop1 s (by unfold maxLen; omega) 0
  have L9 := hT.cell 9 (.map (some (N + 1))) rfl
  clear L1 L2 L4 L5 L6 F6 L8 hs
  have HIV : Hid (iv = .slice (some ⟨gi, 0, none⟩) k ci) := hiv
  clear hiv
  have hpw : (Lit.int .i32 (p : Int)).wf = true := by simp [Lit.wf, IntKind.min, IntKind.max, IntKind.signed, IntKind.bits]; omega
  obtain ⟨w2, r2, S2, G2⟩ := S1.dropI 2 (by omega) 40 9 Yba.underlying40 p hpw 0
  obtain ⟨w3, r3, S3, G3⟩ := S2.dropI 3 (by omega) 41 _ Yba.underlying41 p hpw 0
  obtain ⟨w4, r4, S4, G4⟩ := S3.dropI 4 (by omega) 42 _ Yba.underlying42 p hpw 0
  obtain ⟨w5, r5, S5, G5⟩ := S4.dropI 5 (by omega) 44 _ Yba.underlying44 p hpw 0
  obtain ⟨w6, r6, S6, G6⟩ := S5.dropI 6 (by omega) 45 _ Yba.underlying45 p hpw 0
  have T1 : Tab N 0 0 iv lv n w1 := Tab.keep (w := w.drew) hT (G1.block _ hlt (by simp))
  have T2 := T1.keep (G2.block _ T1.lt (by simp))
  have T3 := T2.keep (G3.block _ T2.lt (by simp))
  have T4 := T3.keep (G4.block _ T3.lt (by simp))
  have T5 := T4.keep (G5.block _ T4.lt (by simp))
  have T6 := T5.keep (G6.block _ T5.lt (by simp))
  have K6 : Kept N lv.ownBlock w w6 := ((((((Kept.drewN w 1).trans (Kept.grown G1 (.inr ⟨_, rfl, by omega, by omega⟩))).trans (Kept.grown G2 (.inr ⟨_, rfl, by omega, by omega⟩))).trans (Kept.grown G3 (.inr ⟨_, rfl, by omega, by omega⟩))).trans (Kept.grown G4 (.inr ⟨_, rfl, by omega, by omega⟩))).trans (Kept.grown G5 (.inr ⟨_, rfl, by omega, by omega⟩))).trans (Kept.grown G6 (.inr ⟨_, rfl, by omega, by omega⟩))
  have hbl : ∀ b, N + 10 ≤ b → lv.ownBlock ≠ some (N + 1) := fun b _ e => by have := (World.ownsRow.lt hV _ e).1; omega
  have hne : ∀ j, j < 10 → lv.ownBlock ≠ some (N + j) := fun j hj e => by have := (World.ownsRow.lt hV _ e).1; omega
  have V6 : w6.ownsRow (N + 10) 21 1 lv zs.length (i32Cells zs) := ((((((World.ownsRow.kept (w := w.drew) hV G1 (.inr (hne 1 (by omega)))).kept G2 (.inr (hne 2 (by omega)))).kept G3 (.inr (hne 3 (by omega)))).kept G4 (.inr (hne 4 (by omega)))).kept G5 (.inr (hne 5 (by omega)))).kept G6 (.inr (hne 6 (by omega))))
  have HZ6 : Hid (w.heap.size ≤ w6.heap.size) := K6.size
  have a12 := T1.cell 12 (.map (some (N + 2))) rfl
  have a13 := T2.cell 13 (.map (some (N + 3))) rfl
  have a14 := T3.cell 14 (.map (some (N + 4))) rfl
  have a17 := T4.cell 17 (.map (some (N + 5))) rfl
  have a18 := T5.cell 18 (.map (some (N + 6))) rfl
  have a10 := T6.cell 10 lv rfl
  clear G1 G2 G3 G4 G5 G6 hbl
  obtain ⟨i0, hi, hz0, hz1, hz2⟩ := info_parts Yba.info21
  go_enter Yba.func10, Yba.ntmps10
  go_wp2_with fail
  go_cut [] from 5 (fun wx => wx = w1)
  case first =>
    go_region_with ((go_at_call 22; refine Calls.mono IDC.out ?_; rintro e w' ⟨rfl, rfl⟩))
    all_goals
      go_wp2_with fail
      go_meet
      case rel => rfl
  case rest =>
    subst hcut
    go_wp2_with (at_builtin; refine wpList_append_lies _ rfl _ _ 22 rfl (N + 10) 21 i0 (.int .i32 0) 1 4 Yba.underlying22 hi hz0 hz1 hz2 rfl (by decide) lv zs.length (i32Cells zs) rfl (V6.alloc _) ⟨w6.heap.size, 0, none⟩ 1 1 [.int .i32 (p : Int)] rfl rfl ?apN1 ?apO1 (by decide) ?apL1 ?apB1 ?apS1 _ rfl ?apH1)
    case apN1 =>
      intro j u hj
      match j, hj with
      | 0, hj => simp at hj; subst hj; simp [Addr.add, go_sem]
    case apO1 => intro u hu; simp at hu; subst hu; rfl
    case apL1 => unfold maxLen; omega
    case apB1 => omega
    case apS1 => have := T6.lt; simp; omega
    intro g cap w7 V7' G7 hat hgl7
    have V7 : w7.ownsRow (N + 10) 21 1 (.slice (some ⟨g, 0, none⟩) (zs.length + 1) cap) (zs.length + 1) (i32Cells (zs ++ [(p : Int)])) := by simpa [i32Cells] using V7'
    have hne7 : ∀ b, b < N + 10 → some b ≠ lv.ownBlock := fun b hb e => by have := (World.ownsRow.lt V6 b e.symm).1; omega
    have l6 := T6.lt
    have T7 : Tab N 0 0 iv lv n w7 := T6.keep ((G7.block _ (by simp; omega) (hne7 _ (by omega))).trans (Below.heap_alloc _ _ _ (by omega)))
    have S7 : Side6 N m w7 := S6.keep (fun b _ h => (G7.block _ (by simp; omega) (hne7 _ (by omega))).trans (Below.heap_alloc _ _ _ (by omega)))
    have K7 : Kept N lv.ownBlock w w7 := (K6.trans (Kept.alloc _ _)).trans (Kept.grown G7 (.inl rfl))
    have HAT : Hid (lv.ownBlock = some g ∨ w.heap.size ≤ g) := by
      rcases hat with h | h
      · exact .inl h
      · right; rw [h]; have := HZ6.out; simp; omega
    have b10 := T7.cell 10 lv rfl
    have f10 := T7.frozen 10
    have b24 := T7.cell 24 (.int .i64 n) rfl
    have f24 := T7.frozen 24
    have HF : Hid (∃ g' cap', Tab N 0 0 iv (.slice (some ⟨g', 0, none⟩) (zs.length + 1) cap') (n - 1) ((w7.setCell ⟨N + 9, 10, none⟩ (.slice (some ⟨g, 0, none⟩) (zs.length + 1) cap)).setCell ⟨N + 9, 24, none⟩ (.int .i64 (n - 1))) ∧ Side6 N m ((w7.setCell ⟨N + 9, 10, none⟩ (.slice (some ⟨g, 0, none⟩) (zs.length + 1) cap)).setCell ⟨N + 9, 24, none⟩ (.int .i64 (n - 1))) ∧
        ((w7.setCell ⟨N + 9, 10, none⟩ (.slice (some ⟨g, 0, none⟩) (zs.length + 1) cap)).setCell ⟨N + 9, 24, none⟩ (.int .i64 (n - 1))).ownsRow (N + 10) 21 1 (.slice (some ⟨g', 0, none⟩) (zs.length + 1) cap') (zs.length + 1) (i32Cells (zs ++ [(p : Int)])) ∧ (lv.ownBlock = some g' ∨ w.heap.size ≤ g') ∧ Kept N lv.ownBlock w ((w7.setCell ⟨N + 9, 10, none⟩ (.slice (some ⟨g, 0, none⟩) (zs.length + 1) cap)).setCell ⟨N + 9, 24, none⟩ (.int .i64 (n - 1)))) := by
      refine ⟨g, cap, (T7.set10 _).set24 (n - 1), S7.keep (fun b _ _ => ?_), ?_, HAT.out, (K7.trans (Kept.set (N + 9) 10 _ (by omega) (by omega))).trans (Kept.set (N + 9) 24 _ (by omega) (by omega))⟩
      · rw [Below.heap_setCell _ _ _ _ (by show b ≠ N + 9; omega), Below.heap_setCell _ _ _ _ (by show b ≠ N + 9; omega)]
      · exact ownsRow_setCell_below (ownsRow_setCell_below V7 (by show N + 9 < N + 10; omega) _) (by show N + 9 < N + 10; omega) _
    clear V7' G7 hat
    go_wp2_with fail
    go_end0
    exact ⟨rfl, HF.out⟩
end Go.Proofs.Ybulkcijw
