import Derived.Test.YbulkcijwFmtPlain
import Derived.Laws.CopyOwn
import Derived.Lib.BufferRead
namespace Go.Proofs.YbulkcijwFmt
open Go.RowKit Go.Extern.Stop Go.Stop Go.Extern

theorem Ybaf.info5m : (Ybaf.prog.info? 5).map (fun i => (i.zero, i.size, i.bytes)) = some (some (.int .u8 0), 1, 1) := by kernel_rfl
theorem Ybaf.size5 : (Ybaf.prog.info? 5).map (·.size) = some 1 := by kernel_rfl

theorem add_at (b o j : Nat) : (⟨b, o, none⟩ : Addr).add j = ⟨b, o + j, none⟩ := by unfold Addr.add; split <;> simp_all

/-- 'string(x)' of a slice that reads as l -/
theorem conv_at (w : World) (G o c : Nat) (l : List UInt8) (hc : ∀ j (hj : j < l.length), w.cell? ⟨G, o + j, none⟩ = some (.int .u8 (l[j].toNat : Int))) :
    (convert 22 9 (.slice (some ⟨G, o, none⟩) l.length c)).run Ybaf.prog w = .ok (.string ⟨l.toArray⟩) w :=
  run_convert_bytes_back w 22 9 5 ⟨G, o, none⟩ c l Ybaf.underlying22 Ybaf.underlying5 Ybaf.underlying9 (fun j hj => by rw [add_at]; exact hc j hj)

theorem conv_arg (w : World) (a : Option Addr) (n c : Nat) (l : List UInt8) (hl : l.length = n) (hnil : a = none → n = 0) (hc : ∀ x, a = some x → ∀ j (hj : j < l.length), w.cell? (x.add j) = some (.int .u8 (l[j].toNat : Int))) :
    (convert 22 9 (.slice a n c)).run Ybaf.prog w = .ok (.string ⟨l.toArray⟩) w := by
  cases a with
  | none =>
    obtain rfl := hnil rfl
    obtain rfl := List.eq_nil_of_length_eq_zero hl
    exact Lib.run_convert_nil_bytes w 22 9 5 c Ybaf.underlying22 Ybaf.underlying5 Ybaf.underlying9
  | some x =>
    subst hl
    exact run_convert_bytes_back w 22 9 5 x c l Ybaf.underlying22 Ybaf.underlying5 Ybaf.underlying9 (hc x rfl)

theorem equal_true (a b : Option Addr) (n ca m cb : Nat) (s : ByteArray) (w : World) (h1 : (convert 22 9 (.slice a n ca)).run Ybaf.prog w = .ok (.string s) w) (h2 : (convert 22 9 (.slice b m cb)).run Ybaf.prog w = .ok (.string s) w) :
    Calls Ybaf.prog 6 #[.slice a n ca, .slice b m cb] w fun e w' => e = .returned (.bool true) ∧ w' = w := by
  go_enter Ybaf.func6, Ybaf.ntmps6
  go_wp2
  go_ret
  exact ⟨rfl, rfl⟩

/-- 'copy(b, body)' into a row that has just been made. -/
theorem copy_bytes (a : Option Addr) (n c : Nat) (l : List UInt8) (hl : l.length = n) (hnil : a = none → n = 0) (w : World) (hc : ∀ x, a = some x → ∀ j (hj : j < l.length), w.cell? (x.add j) = some (.int .u8 (l[j].toNat : Int))) :
    ∃ W' v, (Builtin.copy_ #[22, 22] 3 #[.slice (some ⟨w.heap.size, 0, none⟩) n n, .slice a n c]).run Ybaf.prog (w.alloc (.cells (madeCells #[.int .u8 0] n) 5)) = .ok v W' ∧
      Below w.heap.size w W' ∧ w.heap.size < W'.heap.size ∧ ∀ i (hi : i < l.length), W'.cell? ⟨w.heap.size, i, none⟩ = some (.int .u8 (l[i].toNat : Int)) := by
  subst hl
  by_cases h0 : l.length = 0
  · refine ⟨_, _, run_copy_none (P := Ybaf.prog) _ 22 22 3 5 _ a _ _ _ c Ybaf.underlying22 Ybaf.size5 (by simp [h0]), (Below.refl _ _).alloc (Nat.le_refl _) _, by simp, fun i hi => by omega⟩
  obtain ⟨x, rfl⟩ : ∃ x, a = some x := by
    cases a with
    | none => exact absurd (hnil rfl) h0
    | some x => exact ⟨x, rfl⟩
  have hc' := hc x rfl
  have hg : (w.alloc (.cells (madeCells #[.int .u8 0] l.length) 5)).heap[w.heap.size]? = some (.cells (madeCells #[.int .u8 0] l.length) 5 (0, 0)) := by
    show (w.heap.push _)[w.heap.size]? = _
    simp
  have hlt : ∀ i (hi : i < l.length), (x.add i).block < w.heap.size := fun i hi => World.block_lt_of_cell? _ _ (hc' i hi)
  have hrun := run_copy_row Ybaf.prog (w.alloc (.cells (madeCells #[.int .u8 0] l.length) 5)) 22 22 3 5 w.heap.size 0 l.length l.length x l.length c (madeCells #[.int .u8 0] l.length) 5 (l.map fun b => .int .u8 (b.toNat : Int)) Ybaf.underlying22 Ybaf.size5 hg
    (by simp) (by
      intro j v hv
      rw [List.getElem?_map] at hv
      obtain ⟨y, hy, rfl⟩ := Option.map_eq_some_iff.1 hv
      obtain ⟨hj, rfl⟩ := List.getElem?_eq_some_iff.1 hy
      rw [← hc' j hj]
      exact World.cell?_of_block (Below.heap_alloc _ _ _ (hlt j hj)))
    (by simp [size_madeCells]) (by intro v hv; obtain ⟨a, _, rfl⟩ := List.mem_map.1 hv; rfl)
  refine ⟨_, _, hrun, below_setRow ((Below.refl _ _).alloc (Nat.le_refl _) _) (Nat.le_refl _) _, by simp [World.setRow], ?_⟩
  intro i hi
  have hb := setRow_heap (w.alloc (.cells (madeCells #[.int .u8 0] l.length) 5)) w.heap.size (madeCells #[.int .u8 0] l.length) (List.take 0 (madeCells #[.int .u8 0] l.length).toList ++ (l.map fun b : UInt8 => Value.int .u8 (b.toNat : Int)) ++ List.drop (0 + (l.map fun b : UInt8 => Value.int .u8 (b.toNat : Int)).length) (madeCells #[.int .u8 0] l.length).toList).toArray 5 (0, 0) hg
  have hd : List.drop (0 + (l.map fun b => Value.int .u8 (b.toNat : Int)).length) (madeCells #[Value.int IntKind.u8 0] l.length).toList = [] := by
    apply List.drop_eq_nil_of_le
    simp [size_madeCells]
  simp only [World.cell?, hb]
  rw [hd]
  simp [hi]

/-- the plain reading at place p: no nought from p on -/
theorem rdStr_drop_none (bs : List UInt8) (p : Nat) (h : ∀ j (hj : j < bs.length), p ≤ j → bs[j] ≠ 0) : rdStr (some (bs.drop p)) = ([], none) := by
  have e : (bs.drop p).findIdx? (· == 0) = none := by
    rw [List.findIdx?_eq_none_iff]
    intro x hx
    obtain ⟨j, hj, rfl⟩ := List.getElem_of_mem hx
    simp at hj
    have := h (p + j) (by omega) (by omega)
    simpa using this
  simp only [rdStr, e]
/-- .. the first nought from p on at q -/
theorem rdStr_drop_some (bs : List UInt8) (p q : Nat) (hpq : p ≤ q) (hq : q < bs.length) (h0 : bs[q] = 0) (h : ∀ j (hj : j < bs.length), p ≤ j → j < q → bs[j] ≠ 0) : rdStr (some (bs.drop p)) = ((bs.drop p).take (q - p), some (bs.drop (q + 1))) := by
  have e : (bs.drop p).findIdx? (· == 0) = some (q - p) := by
    rw [List.findIdx?_eq_some_iff_getElem]
    refine ⟨by simp; omega, ?_, ?_⟩
    · have : (bs.drop p)[q - p]'(by simp; omega) = bs[q] := by simp [(by omega : p + (q - p) = q)]
      rw [this, h0]; rfl
    · intro j hj
      have := h (p + j) (by omega) (by omega) (by omega)
      simpa using this
  simp only [rdStr, e, List.drop_drop]
  rw [show p + (q - p + 1) = q + 1 by omega]
end Go.Proofs.YbulkcijwFmt
