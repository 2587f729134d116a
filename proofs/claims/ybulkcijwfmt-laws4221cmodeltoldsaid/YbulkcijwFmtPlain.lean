import Derived.Test.YbulkcijwFmtCols
namespace Go.Proofs.YbulkcijwFmt

theorem stAt_shift (st : Option (List UInt8)) : ∀ k, stAt st (k + 1) = stAt (stepC st) k
  | 0 => rfl
  | k + 1 => by
    show stepC (stAt st (k + 1)) = stepC (stAt (stepC st) k)
    rw [stAt_shift st k]
theorem nameAt_shift (st : Option (List UInt8)) (k : Nat) : nameAt st (k + 1) = nameAt (stepC st) k := by
  unfold nameAt
  rw [stAt_shift]

/-- the bytes of a name without its noughts -/
def clean (l : List UInt8) : List UInt8 := l.filter (· != 0)
theorem clean_ne (l : List UInt8) : ∀ x ∈ clean l, x ≠ 0 := by
  intro x hx
  have := (List.mem_filter.1 hx).2
  simpa using this
theorem clean_snoc (l : List UInt8) (c : UInt8) : clean (l ++ [c]) = if c = 0 then clean l else clean l ++ [c] := by
  unfold clean
  rw [List.filter_append]
  by_cases h : c = 0 <;> simp [h]
theorem clean_len (l : List UInt8) : (clean l).length ≤ l.length := List.length_filter_le _ _

/-- eighteen filler bytes from place k on -/
def fills (fb : Nat → UInt8) (k : Nat) (t : Nat) : List UInt8 := (List.range t).map (fun j => fb (k + j))
theorem fills_len (fb : Nat → UInt8) (k t : Nat) : (fills fb k t).length = t := by simp [fills]
theorem fills_succ (fb : Nat → UInt8) (k t : Nat) : fills fb k (t + 1) = fills fb k t ++ [fb (k + t)] := by
  simp [fills, List.range_succ]

/-- the message's columns, the i-th name's eighteen fillers from place 18 i on -/
def encs (fb : Nat → UInt8) : Nat → List (List UInt8) → List UInt8
  | _, [] => []
  | k, c :: cs => (c ++ 0 :: fills fb (18 * k) 18) ++ encs fb (k + 1) cs
theorem encs_snoc (fb : Nat → UInt8) : ∀ (cs : List (List UInt8)) (k : Nat) (c : List UInt8), encs fb k (cs ++ [c]) = encs fb k cs ++ (c ++ 0 :: fills fb (18 * (k + cs.length)) 18)
  | [], k, c => by simp [encs]
  | d :: cs, k, c => by
    have e : k + 1 + cs.length = k + (cs.length + 1) := by omega
    simp [encs, encs_snoc fb cs (k + 1) c, e]

theorem rdStr_name (c rest : List UInt8) (hc : ∀ x ∈ c, x ≠ 0) : rdStr (some (c ++ 0 :: rest)) = (c, some rest) := by
  have h : (c ++ 0 :: rest).findIdx? (· == 0) = some c.length := by
    rw [List.findIdx?_eq_some_iff_getElem]
    refine ⟨by simp, by simp, ?_⟩
    intro j hj
    have : (c ++ 0 :: rest)[j]'(by simp; omega) = c[j] := List.getElem_append_left hj
    rw [this]
    have := hc _ (List.getElem_mem hj)
    simpa using this
  have h2 : c.length + 1 = (c ++ [0]).length := by simp
  simp only [rdStr, h]
  rw [List.take_left, show c ++ 0 :: rest = (c ++ [0]) ++ rest by simp, h2, List.drop_left]

theorem step_encs (fb : Nat → UInt8) (k : Nat) (c : List UInt8) (cs : List (List UInt8)) (hc : ∀ x ∈ c, x ≠ 0) : stepC (some (encs fb k (c :: cs))) = some (encs fb (k + 1) cs) := by
  unfold stepC
  have e : encs fb k (c :: cs) = c ++ 0 :: (fills fb (18 * k) 18 ++ encs fb (k + 1) cs) := by simp [encs]
  rw [e, rdStr_name _ _ hc]
  have h : 18 ≤ (fills fb (18 * k) 18 ++ encs fb (k + 1) cs).length := by simp [fills_len]
  simp only [rdNext, if_pos h]
  rw [show (18 : Nat) = (fills fb (18 * k) 18).length by rw [fills_len]]
  simp [fills_len]

/-- the columns read back -/
theorem back (fb : Nat → UInt8) : ∀ (cs : List (List UInt8)) (k : Nat), (∀ c ∈ cs, ∀ x ∈ c, x ≠ 0) → stAt (some (encs fb k cs)) cs.length = some [] ∧ ∀ i, i < cs.length → nameAt (some (encs fb k cs)) i = cs.getD i []
  | [], k, _ => ⟨rfl, fun i hi => by simp at hi⟩
  | c :: cs, k, h => by
    have hs := step_encs fb k c cs (h c (by simp))
    obtain ⟨p, q⟩ := back fb cs (k + 1) (fun d hd => h d (by simp [hd]))
    refine ⟨?_, ?_⟩
    · rw [List.length_cons, stAt_shift, hs]; exact p
    · intro i hi
      cases i with
      | zero =>
        show (rdStr (some (encs fb k (c :: cs)))).1 = c
        have e : encs fb k (c :: cs) = c ++ 0 :: (fills fb (18 * k) 18 ++ encs fb (k + 1) cs) := by simp [encs]
        rw [e, rdStr_name _ _ (h c (by simp))]
      | succ i =>
        rw [nameAt_shift, hs, q i (by simpa using hi)]
        simp

theorem head_read (n : Nat) (hn : n ≤ 300) (rest : List UInt8) : rdInt (some (UInt8.ofNat (n / 256) :: UInt8.ofNat n :: rest)) = n ∧ rdNext 2 (some (UInt8.ofNat (n / 256) :: UInt8.ofNat n :: rest)) = some rest := by
  refine ⟨?_, by simp [rdNext]⟩
  have h0 : (UInt8.ofNat (n / 256)).toNat = n / 256 := by simp [UInt8.toNat_ofNat']; omega
  have h1 : (UInt8.ofNat n).toNat = n % 256 := by simp [UInt8.toNat_ofNat']
  simp only [rdInt, s16, h0, h1]
  rw [if_pos (by omega)]
  omega
theorem encs_len (fb : Nat → UInt8) : ∀ (cs : List (List UInt8)) (k : Nat), (∀ c ∈ cs, c.length ≤ 1024) → (encs fb k cs).length ≤ 1043 * cs.length
  | [], _, _ => by simp [encs]
  | c :: cs, k, h => by
    have h1 := encs_len fb cs (k + 1) (fun d hd => h d (by simp [hd]))
    have h2 := h c (by simp)
    simp [encs, fills_len]
    omega
end Go.Proofs.YbulkcijwFmt
