import Derived.Test.YbulkcijwClone
namespace Go.Proofs.Ybulkcijw
open Go.RowKit

theorem take_any (b : Nat) (a : Option Addr) (n c : Nat) (w : World) (h : w.cell? ⟨b, 10, none⟩ = some (.slice a n c)) (hf : w.frozen? ⟨b, 10, none⟩ = false) :
    Calls Yba.prog 6 #[.pointer (some ⟨b, 0, none⟩)] w fun e w' => e = .returned (.slice a n c) ∧ w.setCell ⟨b, 10, none⟩ (.slice none 0 0) = w' := by
  go_enter Yba.func6, Yba.ntmps6
  go_wp2
  go_ret
  exact ⟨rfl, rfl⟩

theorem Reads.lt {w : World} {a : Option Addr} {n : Nat} {zs : List Int} (h : Reads w a n zs) : n = 0 ∨ ∃ b off, a = some ⟨b, off, none⟩ ∧ b < w.heap.size := by
  rcases h with h | ⟨b, off, rfl, h⟩
  · exact .inl h
  · by_cases h0 : n = 0
    · exact .inl h0
    · refine .inr ⟨b, off, rfl, ?_⟩
      rcases Nat.lt_or_ge b w.heap.size with h' | h'
      · exact h'
      · have := h 0 (by omega)
        simp [World.cell?, Array.getElem?_eq_none h'] at this

theorem Reads.below {B : Nat} {w w' : World} {a : Option Addr} {n : Nat} {zs : List Int} (h : Reads w a n zs) (hb : Below B w w') (ha : ∀ x, a = some x → x.block < B) : Reads w' a n zs := by
  rcases h with h | ⟨b, off, rfl, h⟩
  · exact .inl h
  · exact .inr ⟨b, off, rfl, fun i hi => by rw [hb.cell (p := ⟨b, off + i, none⟩) (ha ⟨b, off, none⟩ rfl)]; exact h i hi⟩

theorem Reads.old {w w' : World} {a : Option Addr} {n : Nat} {zs : List Int} (h : Reads w a n zs) (hb : Below w.heap.size w w') : Reads w' a n zs := by
  rcases h.lt with h0 | ⟨b, off, rfl, hlt⟩
  · exact .inl h0
  · exact h.below hb (by rintro x hx; cases hx; exact hlt)

theorem cells_old {w w' : World} {a : Option Addr} {n : Nat} {zs : List Int} (h : ∀ x, a = some x → ∀ i, i < n → w.cell? (x.add i) = some (.int .i32 (zs.getD i 0))) (hb : Below w.heap.size w w') :
    ∀ x, a = some x → ∀ i, i < n → w'.cell? (x.add i) = some (.int .i32 (zs.getD i 0)) := by
  intro x hx i hi
  have h' := h x hx i hi
  rw [← h']
  refine hb.cell ?_
  rcases Nat.lt_or_ge (x.add i).block w.heap.size with h2 | h2
  · exact h2
  · simp [World.cell?, Array.getElem?_eq_none h2] at h'

set_option maxRecDepth 100000 in
theorem law_main (a0 : Option Addr) (len0 cap0 : Nat) (z0 : List Int) (a1 : Option Addr) (len1 cap1 : Nat) (z1 : List Int) (a2 : Int) (w : World)
    (n0 : len0 ≤ 4096) (n1 : len1 ≤ 4096) (l0 : len0 ≤ z0.length) (l1 : len1 ≤ z1.length) (e0 : a0 = none → len0 = 0) (e1 : a1 = none → len1 = 0)
    (c0 : ∀ x, a0 = some x → ∀ i, i < len0 → w.cell? (x.add i) = some (.int .i32 (z0.getD i 0)))
    (c1 : ∀ x, a1 = some x → ∀ i, i < len1 → w.cell? (x.add i) = some (.int .i32 (z1.getD i 0)))
    (r0 : Reads w a0 len0 z0) (r1 : Reads w a1 len1 z1) :
    Calls Yba.prog 3 #[.slice a0 len0 cap0, .slice a1 len1 cap1, .int .i64 a2] w fun e w' => e = .returned (.bool true) ∧ Below w.heap.size w w' := by
  have C0 : Hid (∀ x, a0 = some x → ∀ i, i < len0 → w.cell? (x.add i) = some (.int .i32 (z0.getD i 0))) := c0
  have C1 : Hid (∀ x, a1 = some x → ∀ i, i < len1 → w.cell? (x.add i) = some (.int .i32 (z1.getD i 0))) := c1
  have E0 : Hid (a0 = none → len0 = 0) := e0
  have E1 : Hid (a1 = none → len1 = 0) := e1
  clear c0 c1 e0 e1
  have g0 : ¬ ((4096 : Int) < (len0 : Int)) := by omega
  have g1 : ¬ ((4096 : Int) < (len1 : Int)) := by omega
  have heq := fun (w : World) (a : Option Addr) (n c n' c' : Nat) => Lib.run_eql_slice_nil (P := Yba.prog) w 22 21 a n c n' c' Yba.underlying22
  have hne := fun (w : World) (a : Option Addr) (n c n' c' : Nat) => run_neq_slice_nil_any (P := Yba.prog) w 22 21 a n c n' c' Yba.underlying22
  go_enter Yba.func3, Yba.ntmps3
  go_wp2_with fail
  refine (clone_any a0 len0 cap0 z0 _ (by omega) l0 E0.out C0.out).mono ?_
  rintro e w1 ⟨b0, rfl, s0, hB1, R0, L0⟩
  have LL0 : Hid (∀ x, b0 = some x → x.block < w1.heap.size) := L0
  clear L0
  go_wp2_with fail
  refine (clone_any a1 len1 cap1 z1 _ (by omega) l1 E1.out (cells_old C1.out hB1)).mono ?_
  rintro e w2 ⟨b1, rfl, s1, hB2, R1, L1⟩
  clear L1
  go_wp2_with fail
  refine (take_any _ b0 len0 len0 _ (by simp [go_sem]) (by simp [go_sem])).mono ?_
  rintro e w3 ⟨rfl, hw3⟩
  have k10 : w3.cell? ⟨w2.heap.size, 10, none⟩ = some (.slice none 0 0) := by subst hw3; simp [go_sem]
  have k11 : w3.cell? ⟨w2.heap.size, 11, none⟩ = some (.slice b1 len1 len1) := by subst hw3; simp [go_sem]
  have k24 : w3.cell? ⟨w2.heap.size, 24, none⟩ = some (.int .i64 a2) := by subst hw3; simp [go_sem]
  have f10 : w3.frozen? ⟨w2.heap.size, 10, none⟩ = false := by subst hw3; simp [go_sem]
  have hB3 : Below w2.heap.size w2 w3 := by subst hw3; exact ((Below.refl _ _).alloc (Nat.le_refl _) _).setCell (Nat.le_refl _) _
  have hs1 := hB1.size
  have hs2 := hB2.size
  have hB : Below w.heap.size w w3 := (hB1.trans (hB2.mono hs1)).trans (hB3.mono (Nat.le_trans hs1 hs2))
  have q0 := r0.old hB
  have q1 := r1.old hB
  have q2 := R0.old (hB2.trans (hB3.mono hs2))
  have q3 := R1.old hB3
  clear hw3 LL0 C0 C1 E0 E1
  go_wp2_with fail
  refine (eq_any _ _ len0 _ _ z0 _ (by omega) q2 q0).mono ?_
  rintro e w4 ⟨rfl, m4, rfl⟩
  go_wp2_with fail
  refine (eq_any _ _ len1 _ _ z1 _ (by omega) ?_ ?_).mono ?_
  · exact q3
  · exact q1
  rintro e w4 ⟨rfl, m5, rfl⟩
  go_wp2_with fail
  refine (take_any _ none 0 0 _ (by simp [go_sem, k10]) (by simp [go_sem, f10])).mono ?_
  rintro e w5 ⟨rfl, hw5⟩
  have k : w5.cell? ⟨w2.heap.size, 10, none⟩ = some (.slice none 0 0) := by subst hw5; simp [go_sem, k10]
  have hBf : Below w.heap.size w w5 := by subst hw5; exact Below.setCell (by first | exact hB | exact below_drewN hB _ | exact below_drewN (below_drewN hB _) _) (by simp; omega) _
  clear hw5
  go_wp2_with fail
  go_ret
  exact ⟨rfl, hBf⟩
end Go.Proofs.Ybulkcijw
