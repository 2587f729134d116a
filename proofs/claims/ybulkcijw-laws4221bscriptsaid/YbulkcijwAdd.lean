import Derived.Test.YbulkcijwTab
namespace Go.Proofs.Ybulkcijw
open Go.RowKit Go.Maps Go.RwLone

theorem Yba.info9 : (Yba.prog.info? 9).map (fun i => (i.zero, i.size, i.bytes)) = some (some (.string ⟨#[]⟩), 1, 16) := by kernel_rfl
theorem law9 : Keyed Yba.prog 9 := string_keyed Yba.underlying9
theorem law21 : Keyed Yba.prog 21 := int_keyed Yba.underlying21

theorem HasMap.store {w : World} {K T E : TypeId} {b m : Nat} (h : HasMap w K b m) (L : Keyed Yba.prog K) (ht : Yba.prog.underlying T = some (.map K E)) (hm : m < maxLen) (key val : Value) (kl : Lit) (hkey : keyOf Yba.prog K key = some kl) :
    ∃ w', (Instr.mapUpdate T (.map (some b)) key val).run Yba.prog w = .ok () w' ∧ HasMap w' K b (m + 1) ∧ w.grownBy w' (some b) := by
  obtain ⟨D, h⟩ := h
  obtain ⟨w', h1, h2, h3⟩ := h.store (val := val) L ht hm hkey (d := .nil) (ps := []) rfl
  exact ⟨w', h1, ⟨_, h2⟩, h3.grown⟩
theorem HasMap.drop {w : World} {K T E : TypeId} {b m : Nat} (h : HasMap w K b m) (L : Keyed Yba.prog K) (ht : Yba.prog.underlying T = some (.map K E)) (ty : TypeId) (key : Value) (kl : Lit) (hkey : keyOf Yba.prog K key = some kl) :
    ∃ w', (Builtin.delete_ #[T, K] ty #[.map (some b), key]).run Yba.prog w = .ok (.tuple #[]) w' ∧ HasMap w' K b m ∧ w.grownBy w' (some b) := by
  obtain ⟨D, h⟩ := h
  obtain ⟨w', h1, h2, h3⟩ := h.drop L ht hkey ty
  exact ⟨w', h1, ⟨_, h2⟩, h3.grown⟩

theorem Side6.store1 {N m : Nat} {w : World} (h : Side6 N m w) (hm : m < maxLen) (s : ByteArray) (hs : s.size ≤ maxLen) (val : Value) :
    ∃ w', (Instr.mapUpdate 39 (.map (some (N + 1))) (.string s) val).run Yba.prog w = .ok () w' ∧ Side6 N (m + 1) w' ∧ w.grownBy w' (some (N + 1)) := by
  obtain ⟨a, b, c, d, e, f, g⟩ := h
  obtain ⟨w', h1, h2, h3⟩ := b.store (T := 39) (E := 21) law9 Yba.underlying39 hm (.string s) val _ (WideMaps.keyOf_string_mk Yba.underlying9 hs)
  have hlt : ∀ {K : TypeId} {j : Nat}, HasMap w K j m → j < w.heap.size := fun ⟨_, _, _, hb, _⟩ => (Array.getElem?_eq_some_iff.1 hb).1
  have kp : ∀ {K : TypeId} {j : Nat}, HasMap w K j m → j ≠ N + 1 → HasMap w' K j (m + 1) := fun hj hne => (hj.keep (h3.block _ (hlt hj) (by simpa using hne))).mono (by omega)
  refine ⟨w', h1, ⟨?_, h2, kp c (by omega), kp d (by omega), kp e (by omega), kp f (by omega), kp g (by omega)⟩, h3⟩
  rw [World.cell?_of_block (w := w) (h3.block N (World.block_lt_of_cell? _ _ a) (by simp))]; exact a
theorem Side6.store2 {N m : Nat} {w : World} (h : Side6 N m w) (hm : m < maxLen) (x : Int) (hx : (Lit.int .i32 x).wf = true) (val : Value) :
    ∃ w', (Instr.mapUpdate 40 (.map (some (N + 2))) (.int .i32 x) val).run Yba.prog w = .ok () w' ∧ Side6 N (m + 1) w' ∧ w.grownBy w' (some (N + 2)) := by
  obtain ⟨a, b, c, d, e, f, g⟩ := h
  obtain ⟨w', h1, h2, h3⟩ := c.store (T := 40) (E := 9) law21 Yba.underlying40 hm (.int .i32 x) val _ (keyOf_int_mk Yba.underlying21 hx)
  have hlt : ∀ {K : TypeId} {j : Nat}, HasMap w K j m → j < w.heap.size := fun ⟨_, _, _, hb, _⟩ => (Array.getElem?_eq_some_iff.1 hb).1
  have kp : ∀ {K : TypeId} {j : Nat}, HasMap w K j m → j ≠ N + 2 → HasMap w' K j (m + 1) := fun hj hne => (hj.keep (h3.block _ (hlt hj) (by simpa using hne))).mono (by omega)
  refine ⟨w', h1, ⟨?_, kp b (by omega), h2, kp d (by omega), kp e (by omega), kp f (by omega), kp g (by omega)⟩, h3⟩
  rw [World.cell?_of_block (w := w) (h3.block N (World.block_lt_of_cell? _ _ a) (by simp))]; exact a

def strCells (ss : List ByteArray) : List Value := ss.map Value.string

set_option maxHeartbeats 2000000 in
set_option maxRecDepth 100000 in
theorem add_any (N k m : Nat) (n : Int) (iv lv : Value) (ss : List ByteArray) (id : ByteArray) (w : World) (hk : k ≤ 1000) (hm : m ≤ 1000) (hn0 : 0 ≤ n) (hn1 : n ≤ 1000) (hid : id.size ≤ 1000)
    (hT : Tab N 0 0 iv lv n w) (hS : Side6 N m w) (hI : w.ownsRow (N + 10) 9 1 iv k (strCells ss)) :
    Calls Yba.prog 9 #[.pointer (some ⟨N + 9, 0, none⟩), .string id, .string ⟨#[115]⟩] w fun e w' => e = .returned (.int .i64 k) ∧ ∃ iv', Tab N 0 0 iv' lv (n + 1) w' ∧ Side6 N (m + 2) w' ∧
      w'.ownsRow (N + 10) 9 1 iv' (k + 1) (strCells (ss ++ [id])) ∧ (iv'.ownBlock = iv.ownBlock ∨ ∃ g, iv'.ownBlock = some g ∧ w.heap.size ≤ g) ∧ Kept N iv.ownBlock w w' := by
  have hlt := hT.lt
  have hivc : ∃ a c, iv = .slice a k c := by
    rcases hI.2 with ⟨rfl, rfl⟩ | ⟨g, cap, cur, rfl, _⟩
    · exact ⟨_, _, rfl⟩
    · exact ⟨_, _, rfl⟩
  obtain ⟨iva, ivc, hiv⟩ := hivc
  have IV : Hid (iv = .slice iva k ivc) := hiv
  clear hiv
  go_enter Yba.func9, Yba.ntmps9
  go_wp2_with fail
  refine (wlock_free Yba.rwWLib (N + 9) 2 (.int .u32 0) (.int .u32 0) w (hT.cell 2 _ rfl) (hT.cell 4 _ rfl) (hT.cell 5 _ rfl) (hT.cell 6 _ rfl) (hT.frozen 2) (hT.frozen 6)).mono ?_
  rintro e w1 ⟨rfl, hw1⟩
  have T1 : Tab N 1 (-1073741824) iv lv n w1 := by rw [hw1]; exact (hT.set2 1).set6 _
  have K1 : Kept N iv.ownBlock w w1 := by rw [hw1]; exact (Kept.set (N + 9) 2 _ (by omega) (by omega)).trans (Kept.set (N + 9) 6 _ (by omega) (by omega))
  have hb1 : ∀ b, b ≠ N + 9 → w1.heap[b]? = w.heap[b]? := by
    intro b hb
    rw [hw1, Below.heap_setCell _ _ _ _ hb, Below.heap_setCell _ _ _ _ hb]
  have hz1 : w1.heap.size = w.heap.size := by rw [hw1]; simp [World.setCell]
  have S1 : Side6 N m w1 := hS.keep (fun b _ _ => hb1 b (by omega))
  have I1 : w1.ownsRow (N + 10) 9 1 iv k (strCells ss) := by
    rcases hI with ⟨i1, i2 | ⟨g, cap, cur, i2, i3, i4, i5⟩⟩
    · exact ⟨i1, .inl i2⟩
    · exact ⟨i1, .inr ⟨g, cap, cur, i2, i3, by rw [hb1 g (by omega)]; exact i4, i5⟩⟩
  have HZ1 : Hid (w1.heap.size = w.heap.size) := hz1
  clear hw1 hb1 hz1
  go_wp2_with fail
  have c8 : w1.cell? ⟨N + 9, 8, none⟩ = some (.slice iva k ivc) := by
    have := T1.cell 8 iv rfl
    rwa [IV.out] at this
  refine (places_any (N + 9) N iva k ivc w1 (by omega) (T1.cell 1 _ rfl) S1.1 c8).mono ?_
  clear c8
  rintro e w2 ⟨rfl, q2, hq2⟩
  have T2 : Tab N 1 (-1073741824) iv lv n w2 := by rw [hq2]; exact T1
  have K2 : Kept N iv.ownBlock w w2 := by rw [hq2]; exact K1.trans (Kept.drewN _ _)
  have S2 : Side6 N m w2 := by rw [hq2]; exact S1.keep (fun _ _ _ => rfl)
  have I2 : w2.ownsRow (N + 10) 9 1 iv k (strCells ss) := by rw [hq2]; exact I1
  have HZ2 : Hid (w2.heap.size = w.heap.size) := by rw [Hid, hq2]; exact HZ1.out
  clear hq2
  have L8 := T2.cell 8 iv rfl
  have L11 := T2.cell 11 (.slice none 0 0) rfl
  obtain ⟨i0, hi, hz0, hz1, hz2⟩ := info_parts Yba.info9
  go_wp2_with (at_builtin; refine wpList_append_lies _ rfl _ _ 38 rfl (N + 10) 9 i0 (.string ⟨#[]⟩) 1 16 Yba.underlying38 hi hz0 hz1 hz2 rfl (by decide) iv k (strCells ss) rfl (I2.alloc _) ⟨w2.heap.size, 0, none⟩ 1 1 [.string id] rfl rfl ?apN1 ?apO1 (by decide) ?apL1 ?apB1 ?apS1 _ rfl ?apH1)
  case apN1 =>
    intro j u hj
    match j, hj with
    | 0, hj => simp at hj; subst hj; simp [Addr.add, go_sem]
  case apO1 => intro u hu; simp at hu; subst hu; rfl
  case apL1 => unfold maxLen; omega
  case apB1 => omega
  case apS1 => have := T2.lt; simp; omega
  intro g cap w3 I3' G3 hat hgl
  have I3 : w3.ownsRow (N + 10) 9 1 (.slice (some ⟨g, 0, none⟩) (k + 1) cap) (k + 1) (strCells (ss ++ [id])) := by simpa [strCells] using I3'
  have hown2 : ∀ x, iv.ownBlock = some x → N + 10 ≤ x := fun x hx => (World.ownsRow.lt I2 x hx).1
  have hne2 : ∀ b, b < N + 10 → some b ≠ iv.ownBlock := fun b hb e => by have := hown2 b e.symm; omega
  have l2 := T2.lt
  have T3 : Tab N 1 (-1073741824) iv lv n w3 := T2.keep ((G3.block _ (by simp; omega) (hne2 _ (by omega))).trans (Below.heap_alloc _ _ _ (by omega)))
  have S3 : Side6 N m w3 := S2.keep (fun b _ h => (G3.block _ (by simp; omega) (hne2 _ (by omega))).trans (Below.heap_alloc _ _ _ (by omega)))
  have K3 : Kept N iv.ownBlock w w3 := (K2.trans (Kept.alloc _ _)).trans (Kept.grown G3 (.inl rfl))
  have hgN : N + 10 ≤ g := (World.ownsRow.lt I3 g rfl).1
  have HAT : Hid (iv.ownBlock = some g ∨ w.heap.size ≤ g) := by
    rcases hat with h | h
    · exact .inl h
    · right; rw [h]; have := HZ2.out; simp; omega
  have L8' := T3.cell 8 iv rfl
  have F8' := T3.frozen 8
  clear hat I3' G3 L8 L11
  go_wp2_with fail
  have T4 := T3.set8 (.slice (some ⟨g, 0, none⟩) (k + 1) cap)
  refine (wunlock_held Yba.rwWLib (N + 9) 2 (.int .u32 0) (.int .u32 0) _ (T4.cell 2 _ rfl) (T4.cell 4 _ rfl) (T4.cell 5 _ rfl) (T4.cell 6 _ rfl) (T4.frozen 2) (T4.frozen 6)).mono ?_
  rintro e w5 ⟨rfl, hw5⟩
  have T5 : Tab N 0 0 (.slice (some ⟨g, 0, none⟩) (k + 1) cap) lv n w5 := by rw [hw5]; exact (T4.set6 0).set2 0
  have hb5 : ∀ b, b ≠ N + 9 → w5.heap[b]? = w3.heap[b]? := by
    intro b hb
    rw [hw5, Below.heap_setCell _ _ _ _ hb, Below.heap_setCell _ _ _ _ hb, Below.heap_setCell _ _ _ _ hb]
  have K5 : Kept N iv.ownBlock w w5 := by
    rw [hw5]
    exact ((K3.trans (Kept.set (N + 9) 8 _ (by omega) (by omega))).trans (Kept.set (N + 9) 6 _ (by omega) (by omega))).trans (Kept.set (N + 9) 2 _ (by omega) (by omega))
  have S5 : Side6 N m w5 := S3.keep (fun b _ _ => hb5 b (by omega))
  have I5 : w5.ownsRow (N + 10) 9 1 (.slice (some ⟨g, 0, none⟩) (k + 1) cap) (k + 1) (strCells (ss ++ [id])) := by
    rcases I3 with ⟨i1, ⟨i2, _⟩ | ⟨g', cap', cur, i2, i3, i4, i5⟩⟩
    · cases i2
    · exact ⟨i1, .inr ⟨g', cap', cur, i2, i3, by rw [hb5 g' (by omega)]; exact i4, i5⟩⟩
  clear hw5 hb5 T4 L8' F8'
  obtain ⟨w6, r6, S6, G6⟩ := S5.store1 (by unfold maxLen; omega) id (by unfold maxLen; omega) (.int .i32 (k : Int))
  obtain ⟨w7, r7, S7, G7⟩ := S6.store2 (by unfold maxLen; omega) (k : Int) (by simp [Lit.wf, IntKind.min, IntKind.max, IntKind.signed, IntKind.bits]; omega) (.string ⟨#[115]⟩)
  have l5 := T5.lt
  have T6 : Tab N 0 0 (.slice (some ⟨g, 0, none⟩) (k + 1) cap) lv n w6 := T5.keep (G6.block _ (by omega) (by simp))
  have l6 := T6.lt
  have T7 : Tab N 0 0 (.slice (some ⟨g, 0, none⟩) (k + 1) cap) lv n w7 := T6.keep (G7.block _ (by omega) (by simp))
  have K7 : Kept N iv.ownBlock w w7 := (K5.trans (Kept.grown G6 (.inr ⟨_, rfl, by omega, by omega⟩))).trans (Kept.grown G7 (.inr ⟨_, rfl, by omega, by omega⟩))
  have I7 : w7.ownsRow (N + 10) 9 1 (.slice (some ⟨g, 0, none⟩) (k + 1) cap) (k + 1) (strCells (ss ++ [id])) := (I5.kept G6 (.inr (by simp [Value.ownBlock]; omega))).kept G7 (.inr (by simp [Value.ownBlock]; omega))
  have a9 := T5.cell 9 (.map (some (N + 1))) rfl
  have a12 := T6.cell 12 (.map (some (N + 2))) rfl
  have a24 := T7.cell 24 (.int .i64 n) rfl
  have z24 := T7.frozen 24
  have HF : Hid (∃ iv', Tab N 0 0 iv' lv (n + 1) (w7.setCell ⟨N + 9, 24, none⟩ (.int .i64 (n + 1))) ∧ Side6 N (m + 2) (w7.setCell ⟨N + 9, 24, none⟩ (.int .i64 (n + 1))) ∧
      (w7.setCell ⟨N + 9, 24, none⟩ (.int .i64 (n + 1))).ownsRow (N + 10) 9 1 iv' (k + 1) (strCells (ss ++ [id])) ∧ (iv'.ownBlock = iv.ownBlock ∨ ∃ g, iv'.ownBlock = some g ∧ w.heap.size ≤ g) ∧ Kept N iv.ownBlock w (w7.setCell ⟨N + 9, 24, none⟩ (.int .i64 (n + 1)))) := by
    refine ⟨_, T7.set24 (n + 1), S7.keep (fun b _ _ => Below.heap_setCell _ _ _ _ (by show b ≠ N + 9; omega)), ?_, ?_, K7.trans (Kept.set (N + 9) 24 _ (by omega) (by omega))⟩
    · exact ownsRow_setCell_below I7 (by show N + 9 < N + 10; omega) _
    · rcases HAT.out with h | h
      · exact .inl h.symm
      · exact .inr ⟨g, rfl, h⟩
  clear G6 G7
  go_wp2_with fail
  go_ret
  exact ⟨rfl, HF.out⟩
end Go.Proofs.Ybulkcijw
