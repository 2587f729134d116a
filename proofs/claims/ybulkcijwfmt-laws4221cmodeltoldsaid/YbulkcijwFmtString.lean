import Derived.Test.YbulkcijwFmtInt16
namespace Go.Proofs.YbulkcijwFmt
open Go.RowKit Go.Extern.Stop Go.Stop Go.Extern

/-- what string() reads: the bytes up to the first nought, and what is left behind it -/
def rdStr (st : Option (List UInt8)) : List UInt8 × Option (List UInt8) :=
  match st with
  | none => ([], none)
  | some bs => match bs.findIdx? (· == 0) with
    | some i => (bs.take i, some (bs.drop (i + 1)))
    | none => ([], none)

/-- 'r.string()' where the first nought is at i. -/
theorem string_ok (rb G : Nat) (kind : Int) (off cap : Nat) (bs : List UInt8) (i : Nat) (hi : i < bs.length) (h0 : bs[i] = 0) (hne : ∀ j (hj : j < i), bs[j]'(by omega) ≠ 0) (hbound : bs.length ≤ 1099511627776) (w : World) (h : At rb G kind off cap bs w) :
    Calls Ybaf.prog 8 #[.pointer (some ⟨rb, 0, none⟩)] w fun e w' => e = .returned (.string ⟨(bs.take i).toArray⟩) ∧ St rb G kind (some (bs.drop (i + 1))) w' ∧ Side w.heap.size rb w w' := by
  have HA : Hid (At rb G kind off cap bs w) := h
  obtain ⟨a, a2, a3, b, c, d, e, f, g, k⟩ := h
  have hcv := run_convert_bytes_back (P := Ybaf.prog) w 22 9 5 ⟨G, off, none⟩ cap (bs.take i) Ybaf.underlying22 Ybaf.underlying5 Ybaf.underlying9 (fun j hj => by
    simp at hj
    have e : (⟨G, off, none⟩ : Addr).add j = ⟨G, off + j, none⟩ := by unfold Addr.add; split <;> simp_all
    rw [e, k j (by omega)]
    simp)
  rw [List.length_take, Nat.min_eq_left (by omega)] at hcv
  have K : Hid (∀ i (h : i < bs.length), w.cell? ⟨G, off + i, none⟩ = some (.int .u8 bs[i].toNat)) := k
  have NE : Hid (∀ j (hj : j < i), bs[j]'(by omega) ≠ 0) := hne
  have H0 : Hid (bs[i] = 0) := h0
  clear k hne h0
  go_enter Ybaf.func8, Ybaf.ntmps8
  go_wp2
  go_loop [11] (fun x => ∃ k : Nat, k ≤ i ∧ x = .int .i64 k) (fun x => i + 1 - (intOf x).toNat)
  case atStart => exact ⟨0, by omega, rfl⟩
  case round =>
    obtain ⟨j, hj, rfl⟩ := hrel
    have hlt : (j : Int) < (bs.length : Int) := by omega
    have h00 : (0 : Int) ≤ (j : Int) := by omega
    have kj := K.out j (by omega)
    by_cases hji : j < i
    · have hz : (((bs[j]'(by omega)).toNat : Int) == 0) = false := by
        have h := NE.out j hji
        rw [beq_eq_false_iff_ne]
        intro e
        apply h
        apply UInt8.toNat_inj.1
        simpa using e
      go_wp2
      exact ⟨⟨j + 1, by omega, by go_num⟩, by simp [intOf]; omega⟩
    · obtain rfl : j = i := by omega
      rw [H0.out] at kj
      have kj' : w.cell? ⟨G, off + j, none⟩ = some (.int .u8 0) := kj
      clear kj
      have hj1 : (j : Int) + 1 ≤ (bs.length : Int) := by omega
      have hj2 : (j : Int) ≤ (cap : Int) := by omega
      have key1 : Hid (cap = j + 1 → St rb G kind (some (bs.drop (j + 1))) (w.setCell ⟨rb, 1, none⟩ (.slice (some ⟨G, off, none⟩) (bs.length - (j + 1)) 0))) := by
        intro hcap
        have := adv (n := j + 1) HA.out (by omega) off (fun hh => by omega)
        rwa [hcap, Nat.sub_self] at this
      have key2 : Hid (St rb G kind (some (bs.drop (j + 1))) (w.setCell ⟨rb, 1, none⟩ (.slice (some ⟨G, off + (j + 1), none⟩) (bs.length - (j + 1)) (cap - (j + 1))))) := adv (n := j + 1) HA.out (by omega) _ (fun hh => rfl)
      have key3 : Hid (∀ v, Side w.heap.size rb w (w.setCell ⟨rb, 1, none⟩ v)) := fun v => (Side.refl _ _ _).setCell _ _
      clear HA
      go_wp2
      all_goals go_ret
      · exact ⟨rfl, key1.out (by assumption), key3.out _⟩
      · exact ⟨rfl, key2.out, key3.out _⟩

/-- 'r.string()' where there is no nought. -/
theorem string_none (F : Interp) (rb G : Nat) (kind : Int) (off cap : Nat) (bs : List UInt8) (hne : ∀ j (hj : j < bs.length), bs[j] ≠ 0) (hbound : bs.length ≤ 1099511627776) (w : World) (hF : F.answers w.tape) (h : At rb G kind off cap bs w) :
    Calls Ybaf.prog 8 #[.pointer (some ⟨rb, 0, none⟩)] w fun e w' => e = .returned (.string ⟨#[]⟩) ∧ St rb G kind none w' ∧ Side w.heap.size rb w w' := by
  obtain ⟨a, a2, a3, b, c, d, e, f, g, k⟩ := h
  have K : Hid (∀ i (h : i < bs.length), w.cell? ⟨G, off + i, none⟩ = some (.int .u8 bs[i].toNat)) := k
  have NE : Hid (∀ j (hj : j < bs.length), bs[j] ≠ 0) := hne
  clear k hne
  go_enter Ybaf.func8, Ybaf.ntmps8
  go_wp2
  go_loop [11] (fun x => ∃ k : Nat, k ≤ bs.length ∧ x = .int .i64 k) (fun x => bs.length + 1 - (intOf x).toNat)
  case atStart => exact ⟨0, by omega, rfl⟩
  case round =>
    obtain ⟨j, hj, rfl⟩ := hrel
    by_cases hji : j < bs.length
    · have hlt : (j : Int) < (bs.length : Int) := by omega
      have h00 : (0 : Int) ≤ (j : Int) := by omega
      have kj := K.out j (by omega)
      have hz : (((bs[j]'(by omega)).toNat : Int) == 0) = false := by
        have h := NE.out j hji
        rw [beq_eq_false_iff_ne]
        intro e
        apply h
        apply UInt8.toNat_inj.1
        simpa using e
      go_wp2
      exact ⟨⟨j + 1, by omega, by go_num⟩, by simp [intOf]; omega⟩
    · have hlt : ¬ (j : Int) < (bs.length : Int) := by omega
      go_wp2_with fail
      refine (mal_any F rb kind w hF c).mono ?_
      rintro e' w1 ⟨⟨t, x, rfl⟩, hB⟩
      have HD := dead_after hB a c d e f g t x
      have k1 : w1.cell? ⟨rb, 1, none⟩ = some (.slice (some ⟨G, off, none⟩) bs.length cap) := by rw [hB.cell (p := ⟨rb, 1, none⟩) a]; exact d
      have k2 : w1.cell? ⟨rb, 2, none⟩ = some .nilIface := by rw [hB.cell (p := ⟨rb, 2, none⟩) a]; exact e
      have g1 : w1.frozen? ⟨rb, 1, none⟩ = false := by rw [hB.frozen (p := ⟨rb, 1, none⟩) a]; exact f
      have g2 : w1.frozen? ⟨rb, 2, none⟩ = false := by rw [hB.frozen (p := ⟨rb, 2, none⟩) a]; exact g
      go_wp2
      go_ret
      exact ⟨rfl, HD⟩

theorem string_dead (F : Interp) (rb G : Nat) (kind : Int) (w : World) (hF : F.answers w.tape) (h : Dead rb kind w) :
    Calls Ybaf.prog 8 #[.pointer (some ⟨rb, 0, none⟩)] w fun e w' => e = .returned (.string ⟨#[]⟩) ∧ St rb G kind none w' ∧ Side w.heap.size rb w w' := by
  obtain ⟨a, c, d, ⟨t0, x0, e⟩, f, g⟩ := h
  go_enter Ybaf.func8, Ybaf.ntmps8
  go_wp2
  go_loop [11] (fun x => x = .int .i64 0) (fun _ => 0)
  case atStart => rfl
  case round =>
    subst hrel
    go_wp2_with fail
    refine (mal_any F rb kind w hF c).mono ?_
    rintro e' w1 ⟨⟨t, x, rfl⟩, hB⟩
    have HD := dead_after hB a c d e f g t x
    have k1 : w1.cell? ⟨rb, 1, none⟩ = some (.slice none 0 0) := by rw [hB.cell (p := ⟨rb, 1, none⟩) a]; exact d
    have k2 : w1.cell? ⟨rb, 2, none⟩ = some (.iface t0 x0) := by rw [hB.cell (p := ⟨rb, 2, none⟩) a]; exact e
    have g1 : w1.frozen? ⟨rb, 1, none⟩ = false := by rw [hB.frozen (p := ⟨rb, 1, none⟩) a]; exact f
    have g2 : w1.frozen? ⟨rb, 2, none⟩ = false := by rw [hB.frozen (p := ⟨rb, 2, none⟩) a]; exact g
    go_wp2
    go_ret
    exact ⟨rfl, HD⟩

/-- 'r.string()' in whatever state. -/
theorem string_st (F : Interp) (rb G : Nat) (kind : Int) (st : Option (List UInt8)) (hbound : ∀ bs, st = some bs → bs.length ≤ 1099511627776) (w : World) (hF : F.answers w.tape) (h : St rb G kind st w) :
    Calls Ybaf.prog 8 #[.pointer (some ⟨rb, 0, none⟩)] w fun e w' => e = .returned (.string ⟨(rdStr st).1.toArray⟩) ∧ St rb G kind (rdStr st).2 w' ∧ Side w.heap.size rb w w' := by
  cases st with
  | none => exact string_dead F rb G kind w hF h
  | some bs =>
    obtain ⟨off, cap, h⟩ := h
    cases hf : bs.findIdx? (· == 0) with
    | none =>
      have hall := List.findIdx?_eq_none_iff.1 hf
      have e1 : rdStr (some bs) = ([], none) := by simp [rdStr, hf]
      rw [e1]
      exact string_none F rb G kind off cap bs (fun j hj => by have := hall _ (List.getElem_mem hj); simpa using this) (hbound bs rfl) w hF h
    | some i =>
      obtain ⟨hi, h0, hlt⟩ := List.findIdx?_eq_some_iff_getElem.1 hf
      have e1 : rdStr (some bs) = (bs.take i, some (bs.drop (i + 1))) := by simp [rdStr, hf]
      rw [e1]
      exact string_ok rb G kind off cap bs i hi (by simpa using h0) (fun j hj => by have := hlt j hj; simpa using this) (hbound bs rfl) w h
end Go.Proofs.YbulkcijwFmt
