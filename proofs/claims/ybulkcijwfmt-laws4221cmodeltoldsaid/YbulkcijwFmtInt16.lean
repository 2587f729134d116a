import Derived.Test.YbulkcijwFmtState
namespace Go.Proofs.YbulkcijwFmt
open Go.RowKit Go.Extern.Stop Go.Stop Go.Extern

theorem ret_int {k : IntKind} {a b : Int} (h : a = b) : Ending.returned (.int k a) = .returned (.int k b) := by rw [h]

theorem uint16_any (G off cap : Nat) (b0 b1 : UInt8) (w : World)
    (h0 : w.cell? ⟨G, off, none⟩ = some (.int .u8 b0.toNat)) (h1 : w.cell? ⟨G, off + 1, none⟩ = some (.int .u8 b1.toNat)) :
    Calls Ybaf.prog 10 #[.agg #[], .slice (some ⟨G, off, none⟩) 2 cap] w fun e w' => e = .returned (.int .u16 (b1.toNat + b0.toNat * 256)) ∧ Below w.heap.size w w' := by
  have hG : G < w.heap.size := by
    rcases Nat.lt_or_ge G w.heap.size with h' | h'
    · exact h'
    · simp [World.cell?, Array.getElem?_eq_none h'] at h0
  have hb0 := b0.toNat_lt
  have hb1 := b1.toNat_lt
  have i0 : (0 : Int) < 2 := by omega
  have i1 : (1 : Int) < 2 := by omega
  go_enter Ybaf.func10, Ybaf.ntmps10
  go_wp2
  go_quiet (fail)
  go_wp2
  go_ret
  exact ⟨ret_int (u16_or8 _ _ (by omega) (by omega) (by omega) (by omega) (by omega)), below_drewN ((Below.refl _ _).alloc (Nat.le_refl _) _) _⟩

/-- the number that two bytes give, as Go's int(int16(..)) -/
def s16 (b0 b1 : UInt8) : Int := if b0.toNat < 128 then b1.toNat + b0.toNat * 256 else b1.toNat + b0.toNat * 256 - 65536

theorem wrap_i16 (n : Int) : IntKind.i16.wrap n = if 32768 ≤ n % 65536 then n % 65536 - 65536 else n % 65536 := by
  simp [IntKind.wrap, IntKind.bits, IntKind.signed]

theorem s16_eq (b0 b1 : UInt8) : wrap64 (IntKind.i16.wrap (b1.toNat + b0.toNat * 256)) = s16 b0 b1 := by
  have hb0 := b0.toNat_lt
  have hb1 := b1.toNat_lt
  have e : IntKind.i16.wrap ((b1.toNat : Int) + b0.toNat * 256) = s16 b0 b1 := by
    rw [wrap_i16]
    unfold s16
    by_cases h : b0.toNat < 128
    · rw [if_neg (by omega), if_pos h]; omega
    · rw [if_pos (by omega), if_neg h]; omega
  rw [e]
  unfold wrap64 s16
  split <;> omega

/-- what int16 reads -/
def rdInt (st : Option (List UInt8)) : Int :=
  match st with
  | some (b0 :: b1 :: _) => s16 b0 b1
  | _ => 0

theorem int16_ok (rb G : Nat) (kind : Int) (off cap : Nat) (b0 b1 : UInt8) (bs : List UInt8) (w : World) (h : At rb G kind off cap (b0 :: b1 :: bs) w) :
    Calls Ybaf.prog 7 #[.pointer (some ⟨rb, 0, none⟩)] w fun e w' => e = .returned (.int .i64 (s16 b0 b1)) ∧ St rb G kind (some bs) w' ∧ Side w.heap.size rb w w' := by
  have heq := fun (w : World) (a : Option Addr) (n c n' c' : Nat) => Lib.run_eql_slice_nil (P := Ybaf.prog) w 22 5 a n c n' c' Ybaf.underlying22
  go_enter Ybaf.func7, Ybaf.ntmps7
  go_wp2_with fail
  refine (next_at rb G kind off cap _ 2 w h (by simp)).mono ?_
  rintro e w1 ⟨rfl, h1, hS, hc⟩
  have k0 := hc 0 (by simp)
  have k1 := hc 1 (by simp)
  simp only [Nat.add_zero, List.getElem_cons_zero, List.getElem_cons_succ] at k0 k1
  have HC : Hid (G < w.heap.size ∧ rb < w.heap.size) := ⟨h.2.1, h.1⟩
  clear hc
  go_wp2_with fail
  refine (uint16_any G off cap b0 b1 _ k0 k1).mono ?_
  rintro e w2 ⟨rfl, hB⟩
  have hsz := hS.size
  have HF : Hid (St rb G kind (some bs) w2 ∧ Side w.heap.size rb w w2) := by
    refine ⟨h1.keep hB.size (hB.block _ ?_) (hB.block _ ?_), hS.trans (Side.ofBelow (hB.mono hsz))⟩
    · have := HC.out.2; omega
    · have := HC.out.1; omega
  go_wp2_with fail
  go_ret
  exact ⟨ret_int (s16_eq b0 b1), HF.out⟩

theorem int16_bad (F : Interp) (rb G : Nat) (kind : Int) (off cap : Nat) (bs : List UInt8) (w : World) (hF : F.answers w.tape) (h : At rb G kind off cap bs w) (hl : bs.length < 2) :
    Calls Ybaf.prog 7 #[.pointer (some ⟨rb, 0, none⟩)] w fun e w' => e = .returned (.int .i64 0) ∧ St rb G kind none w' ∧ Side w.heap.size rb w w' := by
  have heq := fun (w : World) (a : Option Addr) (n c n' c' : Nat) => Lib.run_eql_slice_nil (P := Ybaf.prog) w 22 5 a n c n' c' Ybaf.underlying22
  obtain ⟨a, a2, a3, b, c, d, e, f, g, k⟩ := h
  have K : Hid (∀ i (h : i < bs.length), w.cell? ⟨G, off + i, none⟩ = some (.int .u8 bs[i].toNat)) := k
  clear k
  go_enter Ybaf.func7, Ybaf.ntmps7
  go_wp2_with fail
  refine (next_dead F rb kind 2 bs.length cap _ _ w hF (by omega) c d e f g a).mono ?_
  rintro e' w' ⟨rfl, t', x', w1, hB, hw⟩
  have HF : Hid (St rb G kind none w' ∧ Side w.heap.size rb w w') := by
    subst hw
    exact dead_after hB a c d e f g t' x'
  clear hw
  go_wp2_with fail
  go_ret
  exact ⟨rfl, HF.out⟩

theorem int16_any (F : Interp) (rb G : Nat) (kind : Int) (bs : List UInt8) (w : World) (hF : F.answers w.tape) (h : St rb G kind (some bs) w) :
    Calls Ybaf.prog 7 #[.pointer (some ⟨rb, 0, none⟩)] w fun e w' => e = .returned (.int .i64 (rdInt (some bs))) ∧ St rb G kind (rdNext 2 (some bs)) w' ∧ Side w.heap.size rb w w' := by
  obtain ⟨off, cap, h⟩ := h
  match bs, h with
  | b0 :: b1 :: bs, h =>
    refine (int16_ok rb G kind off cap b0 b1 bs w h).mono ?_
    rintro e w' ⟨rfl, p⟩
    exact ⟨rfl, by simpa [rdNext] using p⟩
  | [], h => exact int16_bad F rb G kind off cap _ w hF h (by simp)
  | [x], h => exact int16_bad F rb G kind off cap _ w hF h (by simp)
end Go.Proofs.YbulkcijwFmt
