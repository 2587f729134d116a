import Derived.Test.YbulkcijwFmtString
import Derived.Deep.OwnRows
namespace Go.Proofs.YbulkcijwFmt
open Go.RowKit Go.Extern.Stop Go.Stop Go.Extern

/-- the state behind one column, behind k columns; the k-th name -/
def stepC (st : Option (List UInt8)) : Option (List UInt8) := rdNext 18 (rdStr st).2
def stAt (st : Option (List UInt8)) : Nat → Option (List UInt8)
  | 0 => st
  | k + 1 => stepC (stAt st k)
def nameAt (st : Option (List UInt8)) (k : Nat) : List UInt8 := (rdStr (stAt st k)).1

/-- no state holds more than was there -/
def Short (n : Nat) (st : Option (List UInt8)) : Prop := ∀ bs, st = some bs → bs.length ≤ n
theorem short_str {n : Nat} {st : Option (List UInt8)} (h : Short n st) : Short n (rdStr st).2 := by
  cases st with
  | none => intro bs hb; simp [rdStr] at hb
  | some b =>
    intro bs hb
    have hl := h b rfl
    cases hf : b.findIdx? (· == 0) with
    | none => simp [rdStr, hf] at hb
    | some i =>
      simp [rdStr, hf] at hb
      subst hb
      simp; omega
theorem short_next {n m : Nat} {st : Option (List UInt8)} (h : Short n st) : Short n (rdNext m st) := by
  cases st with
  | none => intro bs hb; simp [rdNext] at hb
  | some b =>
    intro bs hb
    have hl := h b rfl
    by_cases hm : m ≤ b.length
    · simp [rdNext, hm] at hb
      subst hb
      simp; omega
    · simp [rdNext, hm] at hb
theorem short_at {n : Nat} {st : Option (List UInt8)} (h : Short n st) : ∀ k, Short n (stAt st k)
  | 0 => h
  | k + 1 => short_next (short_str (short_at h k))

theorem Ybaf.info9 : (Ybaf.prog.info? 9).map (fun i => (i.zero, i.size, i.bytes)) = some (some (.string ⟨#[]⟩), 1, 16) := by kernel_rfl

def colCount (bs : List UInt8) : Nat := (rdInt (some bs)).toNat

/-- the first k names stand in row C -/
def Cols (w : World) (C n k : Nat) (st : Option (List UInt8)) : Prop := w.rowIs C 9 n (fun i => if i < k then .string ⟨(nameAt st i).toArray⟩ else .string ⟨#[]⟩)
theorem Cols.set {w : World} {C n k : Nat} {st : Option (List UInt8)} (h : Cols w C n k st) : Cols (w.setCell ⟨C, k, none⟩ (.string ⟨(nameAt st k).toArray⟩)) C n (k + 1) st := by
  refine (World.rowIs.set h k _).congr ?_
  intro i _
  by_cases h1 : i = k
  · subst h1; simp
  · by_cases h2 : i < k
    · simp [h1, h2, (by omega : i < k + 1)]
    · have h3 : ¬ i < k + 1 := by omega
      show (if i = k then _ else if i < k then _ else _) = if i < k + 1 then _ else _
      rw [if_neg h1, if_neg h2, if_neg h3]

/-- what a round of the loop knows -/
def Rnd (F : Interp) (rb G : Nat) (kind : Int) (w : World) (C n k : Nat) (st : Option (List UInt8)) (w' : World) : Prop :=
  Cols w' C n k st ∧ St rb G kind (stAt st k) w' ∧ Side w.heap.size rb w w' ∧ F.answers w'.tape ∧ rb ≠ C ∧ G ≠ C ∧ rb < w.heap.size ∧ G < w.heap.size ∧ w.heap.size ≤ C

theorem Rnd.store {F : Interp} {rb G : Nat} {kind : Int} {w : World} {C n k : Nat} {st : Option (List UInt8)} {w' w2 : World} (h : Rnd F rb G kind w C n k st w') (hst : St rb G kind (rdStr (stAt st k)).2 w2) (hS : Side w'.heap.size rb w' w2) :
    Cols w2 C n k st ∧ w2.tape = w'.tape ∧ St rb G kind (rdStr (stAt st k)).2 (w2.setCell ⟨C, k, none⟩ (.string ⟨(nameAt st k).toArray⟩)) ∧ Side w.heap.size rb w (w2.setCell ⟨C, k, none⟩ (.string ⟨(nameAt st k).toArray⟩)) := by
  obtain ⟨a, b, c, d, e, f, g, i, j⟩ := h
  have hlt := World.rowIs.lt a
  have a2 : Cols w2 C n k st := World.rowIs.of_block a (hS.block C hlt (Ne.symm e))
  refine ⟨a2, hS.tape, ?_, ?_⟩
  · exact hst.keep (by simp [World.setCell]) (Below.heap_setCell _ _ _ _ e) (Below.heap_setCell _ _ _ _ f)
  · have := c.size
    exact (c.trans (hS.mono (by omega))).setNew C k j _

theorem Rnd.next {F : Interp} {rb G : Nat} {kind : Int} {w : World} {C n k : Nat} {st : Option (List UInt8)} {w' w2 w3 : World} (h : Rnd F rb G kind w C n k st w') (hst : St rb G kind (rdStr (stAt st k)).2 w2) (hS : Side w'.heap.size rb w' w2)
    (hst3 : St rb G kind (rdNext 18 (rdStr (stAt st k)).2) w3) (hS3 : Side (w2.setCell ⟨C, k, none⟩ (.string ⟨(nameAt st k).toArray⟩)).heap.size rb (w2.setCell ⟨C, k, none⟩ (.string ⟨(nameAt st k).toArray⟩)) w3) : Rnd F rb G kind w C n (k + 1) st w3 := by
  obtain ⟨a2, t2, s2, d2⟩ := h.store hst hS
  obtain ⟨a, b, c, d, e, f, g, i, j⟩ := h
  have a3 := a2.set
  have hlt := World.rowIs.lt a3
  have := d2.size
  refine ⟨World.rowIs.of_block a3 (hS3.block C hlt (Ne.symm e)), hst3, d2.trans (hS3.mono this), ?_, e, f, g, i, j⟩
  rw [hS3.tape]
  show F.answers w2.tape
  rw [t2]; exact d

set_option maxHeartbeats 1000000 in
theorem cols_pos (F : Interp) (rb G : Nat) (kind : Int) (bs : List UInt8) (n : Nat) (hn : rdInt (some bs) = (n : Int)) (hn2 : n ≤ 65536) (hbound : bs.length ≤ 1099511627776) (w : World) (hF : F.answers w.tape) (h : St rb G kind (some bs) w) (hG : G < w.heap.size) :
    Calls Ybaf.prog 5 #[.pointer (some ⟨rb, 0, none⟩)] w fun e w' => ∃ C, e = .returned (.slice (some ⟨C, 0, none⟩) n n) ∧ Rnd F rb G kind w C n n (rdNext 2 (some bs)) w' := by
  have hlt := h.lt
  have hi := int16_any F rb G kind bs w hF h
  rw [hn] at hi
  clear hn
  have hsh : Hid (∀ k, Short 1099511627776 (stAt (rdNext 2 (some bs)) k)) := short_at (short_next (fun b hb => by cases hb; exact hbound))
  generalize rdNext 2 (some bs) = st at *
  have hmk := run_make_row' (P := Ybaf.prog) 28 9 (.string ⟨#[]⟩) 16 Ybaf.underlying28 Ybaf.info9 rfl .i64 .i64 n (by omega) (by omega)
  have HI : Hid (Calls Ybaf.prog 7 #[.pointer (some ⟨rb, 0, none⟩)] w fun e w' => e = .returned (.int .i64 (n : Int)) ∧ St rb G kind st w' ∧ Side w.heap.size rb w w') := hi
  clear hi
  go_enter Ybaf.func5, Ybaf.ntmps5
  go_wp2_with fail
  refine Calls.mono HI.out ?_
  rintro e w1 ⟨rfl, h1, hS⟩
  clear HI
  have hz1 := hS.size
  have hn0 : ¬ (n : Int) < 0 := by omega
  have hn1 : (0 : Int) ≤ (n : Int) := by omega
  go_wp2_with fail
  go_loopw [11] (fun i w' => ∃ k : Nat, k ≤ n ∧ i = .int .i64 k ∧ Rnd F rb G kind w w1.heap.size n k st w') (fun i _ => n - (intOf i).toNat)
  case atStart =>
    refine ⟨0, by omega, rfl, (World.rowIs_made w1 _ n 9).congr (by simp), ?_, hS.alloc hz1 _, ?_, by omega, by omega, hlt, hG, hz1⟩
    · exact h1.keep (by simp) (Below.heap_alloc _ _ _ (by omega)) (Below.heap_alloc _ _ _ (by omega))
    · show F.answers w1.tape
      rw [hS.tape]; exact hF
  case round =>
    obtain ⟨k, hk, rfl, hR⟩ := hrel
    by_cases hkn : k < n
    · have hlt' : (k : Int) < (n : Int) := by omega
      have hk0 : (0 : Int) ≤ (k : Int) := by omega
      go_wp2_with fail
      refine (string_st F rb G kind (stAt st k) (hsh.out k) _ hR.2.2.2.1 hR.2.1).mono ?_
      rintro e w2 ⟨rfl, h2, hS2⟩
      have hso := hR.store h2 hS2
      have kc : w2.cell? ⟨w1.heap.size, k, none⟩ = some (.string ⟨#[]⟩) := by
        have := World.rowIs.cell hso.1 hkn
        simpa using this
      have kf := World.rowIs.frozen hso.1 k
      go_wp2_with fail
      refine (next_st F rb G kind _ 18 (by omega) _ ?_ hso.2.2.1).mono ?_
      · show F.answers w2.tape
        rw [hso.2.1]; exact hR.2.2.2.1
      rintro e w3 ⟨⟨v, rfl⟩, h3, hS3⟩
      have hN := hR.next h2 hS2 h3 hS3
      go_wp2_with fail
      go_roundw
      case rel => exact ⟨k + 1, by omega, by go_num, hN⟩
      case measure => simp [intOf]; omega
    · obtain rfl : k = n := by omega
      go_wp2_with fail
      go_ret
      exact ⟨_, rfl, hR⟩

set_option maxHeartbeats 1000000 in
theorem cols_neg (F : Interp) (rb G : Nat) (kind : Int) (bs : List UInt8) (hn : rdInt (some bs) < 0) (w : World) (hF : F.answers w.tape) (h : St rb G kind (some bs) w) (hG : G < w.heap.size) :
    Calls Ybaf.prog 5 #[.pointer (some ⟨rb, 0, none⟩)] w fun e w' => ∃ C, e = .returned (.slice (some ⟨C, 0, none⟩) 0 0) ∧ Rnd F rb G kind w C 0 0 (rdNext 2 (some bs)) w' := by
  have hlt := h.lt
  have hi := int16_any F rb G kind bs w hF h
  generalize rdInt (some bs) = z at *
  generalize rdNext 2 (some bs) = st at *
  have hmk : ∀ w : World, (Instr.makeSlice 28 (.int .i64 0) (.int .i64 0)).run Ybaf.prog w = .ok (.slice (some ⟨w.heap.size, 0, none⟩) 0 0) (w.alloc (.cells (madeCells #[.string ⟨#[]⟩] 0) 9)) := fun w => run_make_row' (P := Ybaf.prog) 28 9 (.string ⟨#[]⟩) 16 Ybaf.underlying28 Ybaf.info9 rfl .i64 .i64 0 (by omega) (by omega) w
  have HI : Hid (Calls Ybaf.prog 7 #[.pointer (some ⟨rb, 0, none⟩)] w fun e w' => e = .returned (.int .i64 z) ∧ St rb G kind st w' ∧ Side w.heap.size rb w w') := hi
  clear hi
  go_enter Ybaf.func5, Ybaf.ntmps5
  go_wp2_with fail
  refine Calls.mono HI.out ?_
  rintro e w1 ⟨rfl, h1, hS⟩
  clear HI
  have hz1 := hS.size
  go_wp2_with fail
  go_loopw [11] (fun i w' => i = .int .i64 0 ∧ Rnd F rb G kind w w1.heap.size 0 0 st w') (fun _ _ => 0)
  case atStart =>
    refine ⟨rfl, (World.rowIs_made w1 _ 0 9).congr (by simp), ?_, hS.alloc hz1 _, ?_, by omega, by omega, hlt, hG, hz1⟩
    · exact h1.keep (by simp) (Below.heap_alloc _ _ _ (by omega)) (Below.heap_alloc _ _ _ (by omega))
    · show F.answers w1.tape
      rw [hS.tape]; exact hF
  case round =>
    obtain ⟨rfl, hR⟩ := hrel
    go_wp2_with fail
    go_ret
    exact ⟨_, rfl, hR⟩

theorem s16_le (b0 b1 : UInt8) : s16 b0 b1 ≤ 65536 := by
  have h0 := b0.toNat_lt
  have h1 := b1.toNat_lt
  unfold s16
  split <;> omega

theorem rdInt_le (bs : List UInt8) : rdInt (some bs) ≤ 65536 := by
  match bs with
  | [] => simp [rdInt]
  | [_] => simp [rdInt]
  | b0 :: b1 :: bs => exact s16_le b0 b1

/-- 'readColumns(r)': as many names as the number says, each as the plain reading has it. -/
theorem cols_any (F : Interp) (rb G : Nat) (kind : Int) (bs : List UInt8) (hbound : bs.length ≤ 1099511627776) (w : World) (hF : F.answers w.tape) (h : St rb G kind (some bs) w) (hG : G < w.heap.size) :
    Calls Ybaf.prog 5 #[.pointer (some ⟨rb, 0, none⟩)] w fun e w' => ∃ C, e = .returned (.slice (some ⟨C, 0, none⟩) (colCount bs) (colCount bs)) ∧ Rnd F rb G kind w C (colCount bs) (colCount bs) (rdNext 2 (some bs)) w' := by
  have hle := rdInt_le bs
  by_cases hn : rdInt (some bs) < 0
  · have e : colCount bs = 0 := by unfold colCount; omega
    rw [e]
    exact cols_neg F rb G kind bs hn w hF h hG
  · exact cols_pos F rb G kind bs (colCount bs) (by unfold colCount; omega) (by unfold colCount; omega) hbound w hF h hG
end Go.Proofs.YbulkcijwFmt
