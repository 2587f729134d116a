import Derived.Test.YbulkcijwTake
import Derived.Test.YbulkcijwLocks
import Derived.Conc.RwLoneW
namespace Go.Proofs.Ybulkcijw
open Go.RowKit
open Go.RwLone

/-- 's.Len()' of a snapshot without ids -/
theorem len_any (fb : Nat) (w : World) (h : w.cell? ⟨fb, 0, none⟩ = some (.slice none 0 0)) :
    Calls Yba.prog 20 #[.pointer (some ⟨fb, 0, none⟩)] w fun e w' => e = .returned (.int .i64 0) ∧ w' = w := by
  go_enter Yba.func20, Yba.ntmps20
  go_wp2
  go_ret
  exact ⟨rfl, rfl⟩

theorem places_any (tb fb : Nat) (a : Option Addr) (k cap : Nat) (w : World) (hk : k ≤ 1000000) (c1 : w.cell? ⟨tb, 1, none⟩ = some (.pointer (some ⟨fb, 0, none⟩))) (cf : w.cell? ⟨fb, 0, none⟩ = some (.slice none 0 0)) (c8 : w.cell? ⟨tb, 8, none⟩ = some (.slice a k cap)) :
    Calls Yba.prog 19 #[.pointer (some ⟨tb, 0, none⟩)] w fun e w' => e = .returned (.int .i64 k) ∧ ∃ q, w' = w.drewN q := by
  go_enter Yba.func19, Yba.ntmps19
  go_wp2
  go_quiet ((go_at_call 20; exact Calls.quiet_of_same (len_any fb _ cf)))
  go_wp2
  go_ret
  exact ⟨by simp, _, rfl⟩

/-- a cell written and written back -/
theorem set_back {w : World} {a : Addr} {u v : Value} (h : w.cell? a = some u) : (w.setCell a v).setCell a u = w := by
  obtain ⟨b, o, sp⟩ := a
  have hlt : b < w.heap.size := World.block_lt_of_cell? _ _ h
  cases w with
  | mk heap tape drawn os output =>
    simp only [World.setCell, World.mk.injEq, and_true]
    apply Array.ext
    · simp
    · intro k h1 h2
      simp only [Array.getElem_modify]
      by_cases hk : b = k
      · subst hk
        simp only [if_true]
        simp only [World.cell?] at h
        rw [Array.getElem?_eq_getElem h2] at h
        split at h
        · rename_i c e f hb
          have hb' : heap[b] = .cells c e f := Option.some.inj hb
          rw [hb']
          by_cases hs : sp.isSome = true
          · simp [hs] at h
          · simp only [hs, if_false, Bool.false_eq_true] at h ⊢
            have : (c.setIfInBounds o v).setIfInBounds o u = c := by
              apply Array.ext_getElem?
              intro j
              simp only [Array.getElem?_setIfInBounds]
              by_cases hj : o = j
              · subst hj
                obtain ⟨hlo, he⟩ := Array.getElem?_eq_some_iff.1 h
                simp [hlo, he]
              · simp [hj]
            rw [this]
        · cases h
      · simp [hk]

set_option maxHeartbeats 1600000 in
theorem id_any (tb fb g cap k p : Nat) (s : ByteArray) (x0 x2 x3 : Value) (w : World) (hk : k ≤ 1000000) (hp : p < k) (hg : g ≠ tb)
    (c1 : w.cell? ⟨tb, 1, none⟩ = some (.pointer (some ⟨fb, 0, none⟩))) (cf : w.cell? ⟨fb, 0, none⟩ = some (.slice none 0 0))
    (c2 : w.cell? ⟨tb, 2, none⟩ = some x0) (c4 : w.cell? ⟨tb, 4, none⟩ = some x2) (c5 : w.cell? ⟨tb, 5, none⟩ = some x3) (c6 : w.cell? ⟨tb, 6, none⟩ = some (.int .i32 0)) (z6 : w.frozen? ⟨tb, 6, none⟩ = false)
    (c8 : w.cell? ⟨tb, 8, none⟩ = some (.slice (some ⟨g, 0, none⟩) k cap)) (cs : w.cell? ⟨g, p, none⟩ = some (.string s)) :
    Calls Yba.prog 22 #[.pointer (some ⟨tb, 0, none⟩), .int .i64 p] w fun e w' => e = .returned (.string s) ∧ w' = w := by
  have hp' : (p : Int) < (k : Int) := by omega
  have hp0 : (0 : Int) ≤ (p : Int) := by omega
  go_enter_defers Yba.func22, Yba.ntmps22
  go_wp2_with (go_at_call 20; refine (len_any fb _ cf).mono ?_; rintro e w' ⟨rfl, rfl⟩)
  refine (rlock_open Yba.rwRLib tb 2 0 x0 x3 _ c2 c5 c6 z6 (by simp [wrap32])).mono ?_
  rintro e w' ⟨rfl, rfl⟩
  go_wp2_with fail
  refine leaves_cons (f := 41) (args := #[.pointer (some ⟨tb, 2, none⟩)]) (by simp) (by simp [go_sem]) ?_
  refine (runlock_deferred Yba.rwRLib tb 2 (wrap32 (0 + 1)) x0 x2 .returning _ ((World.cell?_setCell_other _ ⟨tb, 6, none⟩ ⟨tb, 2, none⟩ _ (by simp)).trans c2) ((World.cell?_setCell_other _ ⟨tb, 6, none⟩ ⟨tb, 4, none⟩ _ (by simp)).trans c4) (World.cell?_setCell_same _ _ _ c6) (by simp [z6]) (by simp [wrap32])).mono ?_
  rintro e u' w'' ⟨rfl, rfl, rfl⟩
  refine ⟨_, results_tmp rfl _ _ _, rfl, ?_⟩
  have e0 : wrap32 (wrap32 (0 + 1) + -1) = 0 := by simp [wrap32]
  rw [e0]
  exact set_back c6
end Go.Proofs.Ybulkcijw
