import Derived.Test.YbulkcijwRows
import Derived.WalkKit
import Derived.WalkSpells
import Derived.WalkLawsBesides
import Derived.Below
import Derived.Deep.QuietTactic
import Derived.BigQuiet
import Derived.Outline
namespace Go.Proofs.Ybulkcijw
open Go.RowKit

/-- A slice value that leads to n readable 32-bit numbers, the first n of zs. -/
def Reads (w : World) (a : Option Addr) (n : Nat) (zs : List Int) : Prop :=
  n = 0 ∨ ∃ b off, a = some ⟨b, off, none⟩ ∧ ∀ i, i < n → w.cell? ⟨b, off + i, none⟩ = some (.int .i32 (zs.getD i 0))

theorem eq_zero (a b : Option Addr) (ca cb : Nat) (w : World) :
    Calls Yba.prog 7 #[.slice a 0 ca, .slice b 0 cb] w fun e w' => e = .returned (.bool true) ∧ ∃ n, w' = w.drewN n := by
  go_enter Yba.func7, Yba.ntmps7
  go_wp2
  go_loop [13] (fun i => i = .int .i64 0) (fun _ => 0)
  case atStart => rfl
  case round =>
    subst hrel
    go_wp2
    go_ret
    exact ⟨rfl, 0, rfl⟩

theorem eq_some (b off b2 off2 : Nat) (n ca cb : Nat) (zs : List Int) (w : World) (hn : n ≤ 1000000)
    (h1 : ∀ i, i < n → w.cell? ⟨b, off + i, none⟩ = some (.int .i32 (zs.getD i 0)))
    (h2 : ∀ i, i < n → w.cell? ⟨b2, off2 + i, none⟩ = some (.int .i32 (zs.getD i 0))) :
    Calls Yba.prog 7 #[.slice (some ⟨b, off, none⟩) n ca, .slice (some ⟨b2, off2, none⟩) n cb] w fun e w' => e = .returned (.bool true) ∧ ∃ n, w' = w.drewN n := by
  have H1 : Hid (∀ i, i < n → w.cell? ⟨b, off + i, none⟩ = some (.int .i32 (zs.getD i 0))) := h1
  have H2 : Hid (∀ i, i < n → w.cell? ⟨b2, off2 + i, none⟩ = some (.int .i32 (zs.getD i 0))) := h2
  clear h1 h2
  go_enter Yba.func7, Yba.ntmps7
  go_wp2
  go_loopw [13] (fun i w' => ∃ k q : Nat, k ≤ n ∧ i = .int .i64 k ∧ w' = w.drewN q) (fun i _ => n - (intOf i).toNat)
  case atStart => exact ⟨0, 0, Nat.zero_le _, rfl, rfl⟩
  case round =>
    obtain ⟨k, q, hk, rfl, rfl⟩ := hrel
    by_cases hlt : k < n
    · have g1 := H1.out k hlt
      have g2 := H2.out k hlt
      have hlt' : (k : Int) < (n : Int) := by omega
      have hlt0 : (0 : Int) ≤ (k : Int) := by omega
      go_wp2
      go_quiet (fail)
      go_wp2
      go_roundw
      case rel => exact ⟨k + 1, _, by omega, by go_num, rfl⟩
      case measure => simp [intOf]; omega
    · go_wp2
      go_ret
      exact ⟨rfl, q, rfl⟩

theorem eq_any (a b : Option Addr) (n ca cb : Nat) (zs : List Int) (w : World) (hn : n ≤ 1000000) (h1 : Reads w a n zs) (h2 : Reads w b n zs) :
    Calls Yba.prog 7 #[.slice a n ca, .slice b n cb] w fun e w' => e = .returned (.bool true) ∧ ∃ n, w' = w.drewN n := by
  rcases h1 with rfl | ⟨b1, o1, rfl, h1⟩
  · exact eq_zero a b ca cb w
  · rcases h2 with rfl | ⟨b2, o2, rfl, h2⟩
    · exact eq_zero _ b ca cb w
    · exact eq_some b1 o1 b2 o2 n ca cb zs w hn h1 h2
end Go.Proofs.Ybulkcijw
