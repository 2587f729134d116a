import Derived.Test.YbulkcijwFmtMal
import Derived.Laws.IdiomStrings
namespace Go.Proofs.YbulkcijwFmt
open Go.RowKit Go.Extern.Stop Go.Stop Go.Extern

theorem next_ok (rb G off : Nat) (n len cap : Nat) (w : World) (hn : n ≤ len) (hc : len ≤ cap)
    (h1 : w.cell? ⟨rb, 1, none⟩ = some (.slice (some ⟨G, off, none⟩) len cap)) (hf : w.frozen? ⟨rb, 1, none⟩ = false) :
    Calls Ybaf.prog 9 #[.pointer (some ⟨rb, 0, none⟩), .int .i64 n] w fun e w' => e = .returned (.slice (some ⟨G, off, none⟩) n cap) ∧
      w.setCell ⟨rb, 1, none⟩ (.slice (if cap = n then some ⟨G, off, none⟩ else some ⟨G, off + n, none⟩) (len - n) (cap - n)) = w' := by
  have hn' : (n : Int) ≤ (len : Int) := by omega
  have hn2 : (n : Int) ≤ (cap : Int) := by omega
  have hn0 : (0 : Int) ≤ (n : Int) := by omega
  go_enter Ybaf.func9, Ybaf.ntmps9
  go_wp2
  all_goals
    go_ret
    exact ⟨rfl, rfl⟩

theorem next_dead (F : Interp) (rb : Nat) (kind : Int) (n len cap : Nat) (a : Option Addr) (e0 : Value) (w : World) (hF : F.answers w.tape) (hn : len < n)
    (h0 : w.cell? ⟨rb, 0, none⟩ = some (.int .u8 kind)) (h1 : w.cell? ⟨rb, 1, none⟩ = some (.slice a len cap)) (h2 : w.cell? ⟨rb, 2, none⟩ = some e0)
    (f1 : w.frozen? ⟨rb, 1, none⟩ = false) (f2 : w.frozen? ⟨rb, 2, none⟩ = false) (hrb : rb < w.heap.size) :
    Calls Ybaf.prog 9 #[.pointer (some ⟨rb, 0, none⟩), .int .i64 n] w fun e w' => e = .returned (.slice none 0 0) ∧
      ∃ t x w1, Below w.heap.size w w1 ∧ (w1.setCell ⟨rb, 2, none⟩ (.iface t x)).setCell ⟨rb, 1, none⟩ (.slice none 0 0) = w' := by
  have hn0 : ¬ (n : Int) < 0 := by omega
  have hn' : (len : Int) < (n : Int) := by omega
  go_enter Ybaf.func9, Ybaf.ntmps9
  go_wp2_with fail
  refine (mal_any F rb kind w hF h0).mono ?_
  rintro e w1 ⟨⟨t, x, rfl⟩, hB⟩
  have k1 : w1.cell? ⟨rb, 1, none⟩ = some (.slice a len cap) := by rw [hB.cell (p := ⟨rb, 1, none⟩) hrb]; exact h1
  have k2 : w1.cell? ⟨rb, 2, none⟩ = some e0 := by rw [hB.cell (p := ⟨rb, 2, none⟩) hrb]; exact h2
  have g1 : w1.frozen? ⟨rb, 1, none⟩ = false := by rw [hB.frozen (p := ⟨rb, 1, none⟩) hrb]; exact f1
  have g2 : w1.frozen? ⟨rb, 2, none⟩ = false := by rw [hB.frozen (p := ⟨rb, 2, none⟩) hrb]; exact f2
  go_wp2
  go_ret
  exact ⟨rfl, t, x, w1, hB, rfl⟩
end Go.Proofs.YbulkcijwFmt
