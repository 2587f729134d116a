import Derived.Test.YbulkcijwFmtMd
import Derived.Deep.CutRange
namespace Go.Proofs.YbulkcijwFmt
open Go.RowKit Go.Extern.Stop Go.Stop Go.Extern

/-- what the law knows behind readColumns: the copy's bytes, the reply's state, the names -/
def Mid (G rb C : Nat) (kind : Int) (bs : List UInt8) (N : Nat) (st : Option (List UInt8)) (w w' : World) : Prop :=
  (∀ i (hi : i < bs.length), w'.cell? ⟨G, i, none⟩ = some (.int .u8 (bs[i].toNat : Int))) ∧ St rb G kind (stAt st N) w' ∧ (∀ i, i < N → w'.cell? ⟨C, i, none⟩ = some (.string ⟨(nameAt st i).toArray⟩)) ∧ Below w.heap.size w w'

theorem md_cols (F : Interp) (kind : Int) (bs : List UInt8) (hbs : bs.length ≤ 4096) (w w1 : World) (hF : F.answers w.tape) (hB : Below w.heap.size w w1) (hz : w.heap.size < w1.heap.size) (hc : ∀ i (hi : i < bs.length), w1.cell? ⟨w.heap.size, i, none⟩ = some (.int .u8 (bs[i].toNat : Int))) :
    Calls Ybaf.prog 5 #[.pointer (some ⟨w1.heap.size, 0, none⟩)] (w1.alloc (.cells #[.int .u8 kind, .slice (some ⟨w.heap.size, 0, none⟩) bs.length bs.length, .nilIface] 27)) fun e w' => ∃ C, e = .returned (.slice (some ⟨C, 0, none⟩) (colCount bs) (colCount bs)) ∧
      Mid w.heap.size w1.heap.size C kind bs (colCount bs) (rdNext 2 (some bs)) w w' := by
  have hst : St w1.heap.size w.heap.size kind (some bs) (w1.alloc (.cells #[.int .u8 kind, .slice (some ⟨w.heap.size, 0, none⟩) bs.length bs.length, .nilIface] 27)) := by
    refine ⟨0, bs.length, by simp, by simp; omega, by omega, Nat.le_refl _, by simp [go_sem], by simp [go_sem], by simp [go_sem], by simp [go_sem], by simp [go_sem], ?_⟩
    intro i hi
    rw [World.cell?_of_block (w := w1) (Below.heap_alloc _ _ _ hz)]
    simpa using hc i hi
  refine (cols_any F w1.heap.size w.heap.size kind bs (by omega) _ (by show F.answers w1.tape; rw [hB.tape]; exact hF) hst (by simp; omega)).mono ?_
  rintro e w' ⟨C, rfl, hR⟩
  obtain ⟨a, b, c, d, e', f, k, l, j⟩ := hR
  refine ⟨C, rfl, ?_, b, ?_, (hB.alloc (by omega) _).trans ((c.mono (by simp; omega)).below (by omega))⟩
  · intro i hi
    rw [c.cell (p := ⟨w.heap.size, i, none⟩) (by simp; omega) (by show w.heap.size ≠ w1.heap.size; omega), World.cell?_of_block (w := w1) (Below.heap_alloc _ _ _ hz)]
    exact hc i hi
  · intro i hi
    have := World.rowIs.cell a hi
    simpa only [hi, if_true] using this

/-- the law's own two variables, ahead of column k -/
def Now (bs : List UInt8) (st : Option (List UInt8)) (k : Nat) (pos dead : Value) : Prop :=
  (dead = .bool true ∧ stAt st k = none) ∨ (dead = .bool false ∧ ∃ p : Nat, pos = .int .i64 p ∧ p ≤ bs.length ∧ stAt st k = some (bs.drop p))

theorem Mid.drew {G rb C : Nat} {kind : Int} {bs : List UInt8} {N : Nat} {st : Option (List UInt8)} {w w' : World} (h : Mid G rb C kind bs N st w w') (q : Nat) : Mid G rb C kind bs N st w (w'.drewN q) := by
  obtain ⟨a, b, c, d⟩ := h
  exact ⟨a, b.keep (Nat.le_refl _) rfl rfl, c, below_drewN d q⟩

theorem s16_bd (b0 b1 : UInt8) : -40000 ≤ s16 b0 b1 ∧ s16 b0 b1 ≤ 40000 := by
  have h0 := b0.toNat_lt
  have h1 := b1.toNat_lt
  unfold s16
  split <;> omega

theorem now_dead {bs : List UInt8} {st : Option (List UInt8)} {k : Nat} (h : stAt st k = none) (pos : Value) : nameAt st k = [] ∧ Now bs st (k + 1) pos (.bool true) := by
  refine ⟨by simp [nameAt, h, rdStr], .inl ⟨rfl, ?_⟩⟩
  show stepC (stAt st k) = none
  rw [h]; rfl
theorem now_none {bs : List UInt8} {st : Option (List UInt8)} {k p : Nat} (h : stAt st k = some (bs.drop p)) (hz : ∀ j (hj : j < bs.length), p ≤ j → bs[j] ≠ 0) (pos : Value) : nameAt st k = [] ∧ Now bs st (k + 1) pos (.bool true) := by
  have e := rdStr_drop_none bs p hz
  refine ⟨by simp [nameAt, h, e], .inl ⟨rfl, ?_⟩⟩
  show stepC (stAt st k) = none
  rw [h, stepC, e]; rfl
theorem now_some {bs : List UInt8} {st : Option (List UInt8)} {k p q : Nat} (h : stAt st k = some (bs.drop p)) (hpq : p ≤ q) (hq : q < bs.length) (h0 : bs[q] = 0) (hz : ∀ j (hj : j < bs.length), p ≤ j → j < q → bs[j] ≠ 0) :
    nameAt st k = (bs.drop p).take (q - p) ∧ (bs.length < q + 19 → ∀ pos, Now bs st (k + 1) pos (.bool true)) ∧ (q + 19 ≤ bs.length → Now bs st (k + 1) (.int .i64 (q + 19 : Nat)) (.bool false)) := by
  have e := rdStr_drop_some bs p q hpq hq h0 hz
  refine ⟨by simp [nameAt, h, e], ?_, ?_⟩
  · intro hlt pos
    refine .inl ⟨rfl, ?_⟩
    show stepC (stAt st k) = none
    rw [h, stepC, e]
    simp only [rdNext]
    rw [if_neg (by simp; omega)]
  · intro hge
    refine .inr ⟨rfl, q + 19, rfl, hge, ?_⟩
    show stepC (stAt st k) = _
    rw [h, stepC, e]
    simp only [rdNext]
    rw [if_pos (by simp; omega), List.drop_drop]

theorem rest_equal (wc : World) (G off p cap : Nat) (bs : List UInt8) (hp : p ≤ bs.length) (h1 : ∀ i (hi : i < (bs.drop p).length), wc.cell? ⟨G, off + i, none⟩ = some (.int .u8 ((bs.drop p)[i].toNat : Int))) (h2 : ∀ i (hi : i < bs.length), wc.cell? ⟨G, i, none⟩ = some (.int .u8 (bs[i].toNat : Int))) (x : Nat) :
    Calls Ybaf.prog 6 #[.slice (some ⟨G, off, none⟩) (bs.length - p) cap, .slice (if bs.length = p then some ⟨G, 0, none⟩ else some ⟨G, p, none⟩) (bs.length - p) (bs.length - p)] (wc.drewN x) fun e w'' => e = .returned (.bool true) ∧ ∃ n, w'' = wc.drewN n := by
  have hl : (bs.drop p).length = bs.length - p := List.length_drop
  have e1 := conv_at (wc.drewN x) G off cap (bs.drop p) h1
  rw [hl] at e1
  have e2 : (convert 22 9 (.slice (if bs.length = p then some ⟨G, 0, none⟩ else some ⟨G, p, none⟩) (bs.length - p) (bs.length - p))).run Ybaf.prog (wc.drewN x) = .ok (.string ⟨(bs.drop p).toArray⟩) (wc.drewN x) := by
    rw [← hl]
    split
    · exact conv_at _ G 0 _ (bs.drop p) (fun j hj => by simp at hj; omega)
    · refine conv_at _ G p _ (bs.drop p) (fun j hj => ?_)
      simp at hj
      show wc.cell? _ = _
      rw [h2 (p + j) (by omega)]
      simp
  refine (equal_true _ _ _ _ _ _ ⟨(bs.drop p).toArray⟩ (wc.drewN x) e1 e2).mono ?_
  rintro e w' ⟨rfl, rfl⟩
  exact ⟨rfl, x, rfl⟩

theorem s16_law (b0 b1 : UInt8) : wrap64 (IntKind.i16.wrap (bits .or .u16 ((b0.toNat : Int) * 256) (b1.toNat : Int))) = s16 b0 b1 := by
  have h0 := b0.toNat_lt
  have h1 := b1.toNat_lt
  have hc : bits .or .u16 ((b0.toNat : Int) * 256) (b1.toNat : Int) = bits .or .u16 (b1.toNat : Int) ((b0.toNat : Int) * 256) := by simp only [bits, BitVec.or_comm]
  rw [hc, u16_or8 _ _ (by omega) (by omega) (by omega) (by omega) (by omega)]
  exact s16_eq b0 b1

set_option maxHeartbeats 2000000 in
set_option maxRecDepth 100000 in
theorem md_main (F : Interp) (kind : Int) (a1 : Option Addr) (cap1 : Nat) (bs : List UInt8) (w : World) (hF : F.answers w.tape) (hn : bs.length ≤ 4096) (hnil : a1 = none → bs.length = 0)
    (hc : ∀ x, a1 = some x → ∀ j (hj : j < bs.length), w.cell? (x.add j) = some (.int .u8 (bs[j].toNat : Int))) :
    Calls Ybaf.prog 3 #[.int .u8 kind, .slice a1 bs.length cap1] w fun e w' => e = .returned (.bool true) ∧ Below w.heap.size w w' := by
  obtain ⟨W', v, hcp, hB, hS, hC⟩ := copy_bytes a1 bs.length cap1 bs rfl hnil w hc
  have hmk := run_make_row' (P := Ybaf.prog) 22 5 (.int .u8 0) 1 Ybaf.underlying22 Ybaf.info5m rfl .i64 .i64 bs.length (by omega) (by omega)
  have HC : Hid (Calls Ybaf.prog 5 #[.pointer (some ⟨W'.heap.size, 0, none⟩)] (W'.alloc (.cells #[.int .u8 kind, .slice (some ⟨w.heap.size, 0, none⟩) bs.length bs.length, .nilIface] 27)) fun e w' => ∃ C, e = .returned (.slice (some ⟨C, 0, none⟩) (colCount bs) (colCount bs)) ∧
      Mid w.heap.size W'.heap.size C kind bs (colCount bs) (rdNext 2 (some bs)) w w') := md_cols F kind bs hn w W' hF hB hS hC
  have CA : Hid (∀ x, a1 = some x → ∀ j (hj : j < bs.length), w.cell? (x.add j) = some (.int .u8 (bs[j].toNat : Int))) := hc
  have NI : Hid (a1 = none → bs.length = 0) := hnil
  clear hC hc hnil
  have hn' : ¬ (4096 : Int) < (bs.length : Int) := by omega
  go_enter Ybaf.func3, Ybaf.ntmps3
  go_wp2_with fail
  refine Calls.mono HC.out ?_
  rintro e w2 ⟨C, rfl, hM⟩
  clear HC hmk hcp
  go_upto_if 31 with fail
  go_cut [8, 9, 10] from 14 (fun pos dead nn wx => ∃ z : Int, nn = .int .i64 z ∧ z.toNat = colCount bs ∧ -40000 ≤ z ∧ z ≤ 40000 ∧ Now bs (rdNext 2 (some bs)) 0 pos dead ∧ Mid w.heap.size W'.heap.size C kind bs (colCount bs) (rdNext 2 (some bs)) w wx)
  case first =>
    match bs, hM with
    | [], hM =>
      go_wp2_with fail
      go_meet
      case rel => exact ⟨0, rfl, by simp [colCount, rdInt], by omega, by omega, .inl ⟨rfl, rfl⟩, hM⟩
    | [x], hM =>
      go_wp2_with fail
      go_meet
      case rel => exact ⟨0, rfl, by simp [colCount, rdInt], by omega, by omega, .inl ⟨rfl, rfl⟩, hM⟩
    | b0 :: b1 :: rest, hM =>
      have k0 := hM.1 0 (by simp)
      have k1 := hM.1 1 (by simp)
      simp only [List.getElem_cons_zero, List.getElem_cons_succ] at k0 k1
      have i0 : (0 : Int) < ((b0 :: b1 :: rest).length : Int) := by simp; omega
      have i1 : (1 : Int) < ((b0 :: b1 :: rest).length : Int) := by simp; omega
      have i2 : ¬ ((b0 :: b1 :: rest).length : Int) < 2 := by simp; omega
      have hb0 := b0.toNat_lt
      have hb1 := b1.toNat_lt
      have hsb := s16_bd b0 b1
      go_wp2_with fail
      go_quiet (fail)
      go_wp2_with fail
      go_meet
      case rel => exact ⟨s16 b0 b1, congrArg (Value.int .i64) (s16_law b0 b1), rfl, hsb.1, hsb.2, .inr ⟨rfl, 2, rfl, by simp, by simp [stAt, rdNext]⟩, hM.drew _⟩
  case rest =>
    obtain ⟨z, rfl, hz, hz1, hz2, hNow, hM2⟩ := hcut
    clear hM
    have HZ : Hid (z.toNat = colCount bs) := hz
    clear hz
    go_upto_if 45 with fail
    go_cut [10] from 14 (fun nn wx => nn = .int .i64 (colCount bs : Int) ∧ wx = wc)
    case first =>
      by_cases hneg : z < 0
      · go_wp2_with fail
        go_meet
        case rel => exact ⟨by have := HZ.out; congr 1; omega, rfl⟩
      · go_wp2_with fail
        go_meet
        case rel => exact ⟨by have := HZ.out; congr 1; omega, rfl⟩
    case rest =>
      obtain ⟨rfl, rfl⟩ := hcut
      have hcb : colCount bs ≤ 40000 := by have := HZ.out; omega
      generalize hN : colCount bs = N at *
      generalize hst : rdNext 2 (some bs) = st at *
      clear hN hst HZ
      have hM := hM2
      clear hM2
      have CB : Hid (∀ i (hi : i < bs.length), wc.cell? ⟨w.heap.size, i, none⟩ = some (.int .u8 (bs[i].toNat : Int))) := hM.1
      have CN : Hid (∀ i, i < N → wc.cell? ⟨C, i, none⟩ = some (.string ⟨(nameAt st i).toArray⟩)) := hM.2.2.1
      go_wp2_with fail
      go_loop [8, 9, 11] (fun pos dead i => ∃ k : Nat, k ≤ N ∧ i = .int .i64 k ∧ Now bs st k pos dead) (fun _ _ i => N - (intOf i).toNat)
      case atStart => exact ⟨0, by omega, rfl, hNow⟩
      case round =>
        clear hNow
        obtain ⟨k, hkN, rfl, hNow⟩ := hrel
        by_cases hkn : k < N
        · have hlt : (k : Int) < (N : Int) := by omega
          have hk0 : (0 : Int) ≤ (k : Int) := by omega
          have cn := CN.out k hkn
          rcases hNow with ⟨rfl, hs⟩ | ⟨rfl, p, rfl, hp, hs⟩
          · obtain ⟨e1, e2⟩ := now_dead (bs := bs) hs u8
            rw [e1] at cn
            clear hs e1
            go_wp2_with fail
            go_round
            case rel => exact ⟨k + 1, by omega, by go_num, e2⟩
            case measure => simp [intOf]; omega
          · have HS : Hid (stAt st k = some (bs.drop p)) := hs
            have CNk : Hid (wc.cell? ⟨C, k, none⟩ = some (.string ⟨(nameAt st k).toArray⟩)) := cn
            clear hs cn
            go_wp2_with fail
            go_loop [13] (fun j => ∃ q : Nat, p ≤ q ∧ q ≤ bs.length ∧ j = .int .i64 q ∧ Hid (∀ t (ht : t < bs.length), p ≤ t → t < q → bs[t] ≠ 0)) (fun j => bs.length - (intOf j).toNat)
            case atStart => exact ⟨p, Nat.le_refl _, hp, rfl, fun t _ h1 h2 => by omega⟩
            case round =>
              obtain ⟨q, hpq, hq, rfl, hZ⟩ := hrel
              by_cases hql : q < bs.length
              · have hql' : (q : Int) < (bs.length : Int) := by omega
                have hq0 : (0 : Int) ≤ (q : Int) := by omega
                have cb := CB.out q hql
                by_cases hzero : bs[q] = 0
                · rw [hzero] at cb
                  have cb' : wc.cell? ⟨w.heap.size, q, none⟩ = some (.int .u8 0) := cb
                  obtain ⟨e1, e2, e3⟩ := now_some HS.out hpq hql hzero hZ.out
                  have CNq := CNk.out
                  rw [e1] at CNq
                  have hnp : ¬ bs.length = p := by omega
                  have hcv := conv_at wc w.heap.size p (bs.length - p) ((bs.drop p).take (q - p)) (fun j hj => by
                    simp at hj
                    rw [CB.out (p + j) (by omega)]
                    simp)
                  have hll : ((bs.drop p).take (q - p)).length = q - p := by simp; omega
                  rw [hll] at hcv
                  have E2 : Hid (bs.length < q + 19 → ∀ pos, Now bs st (k + 1) pos (.bool true)) := e2
                  have E3 : Hid (q + 19 ≤ bs.length → Now bs st (k + 1) (.int .i64 (q + 19 : Nat)) (.bool false)) := e3
                  have hpq' : (p : Int) ≤ (q : Int) := by omega
                  have hqn : ((q : Int) == (bs.length : Int)) = false := by rw [beq_eq_false_iff_ne]; omega
                  clear cb hzero e1 e2 e3 hll CNk HS
                  by_cases h18 : bs.length < q + 19
                  · have h18' : (bs.length : Int) - ((q : Int) + 1) < 18 := by omega
                    go_wp2_with fail
                    go_round
                    case rel => exact ⟨k + 1, by omega, by go_num, E2.out h18 _⟩
                    case measure => simp [intOf]; omega
                  · have h18' : ¬ (bs.length : Int) - ((q : Int) + 1) < 18 := by omega
                    go_wp2_with fail
                    go_round
                    case rel => exact ⟨k + 1, by omega, by go_num, by have := E3.out (by omega); simpa [Int.add_assoc] using this⟩
                    case measure => simp [intOf]; omega
                · have hz : (((bs[q]'hql).toNat : Int) != 0) = true := by
                    rw [bne_iff_ne]
                    intro e
                    apply hzero
                    apply UInt8.toNat_inj.1
                    simpa using e
                  have HZ : Hid (bs[q] ≠ 0) := hzero
                  clear hzero
                  go_wp2_with fail
                  go_round
                  case rel => exact ⟨q + 1, by omega, by omega, by go_num, fun t ht h1 h2 => by by_cases e : t = q; (subst e; exact HZ.out); exact hZ.out t ht h1 (by omega)⟩
                  case measure => simp [intOf]; omega
              · obtain rfl : q = bs.length := by omega
                have hql' : ¬ ((bs.length : Int) < (bs.length : Int)) := by omega
                obtain ⟨e1, e2⟩ := now_none HS.out (fun j hj h1 => hZ.out j hj h1 hj) (.int .i64 (p : Int))
                have CNq := CNk.out
                rw [e1] at CNq
                clear e1 CNk HS
                go_wp2_with fail
                go_round
                case rel => exact ⟨k + 1, by omega, by go_num, e2⟩
                case measure => simp [intOf]; omega
        · obtain rfl : N = k := by omega
          have hlt : ¬ (N : Int) < (N : Int) := by omega
          have heq := fun (w : World) (a : Option Addr) (n c n' c' : Nat) => Lib.run_eql_slice_nil (P := Ybaf.prog) w 22 5 a n c n' c' Ybaf.underlying22
          have hSt := hM.2.1
          have hBe := hM.2.2.2
          have c1 : (convert 22 9 (.slice (some ⟨w.heap.size, 0, none⟩) bs.length bs.length)).run Ybaf.prog wc = .ok (.string ⟨bs.toArray⟩) wc := conv_at wc w.heap.size 0 bs.length bs (fun j hj => by rw [Nat.zero_add]; exact CB.out j hj)
          have c2 : (convert 22 9 (.slice a1 bs.length cap1)).run Ybaf.prog wc = .ok (.string ⟨bs.toArray⟩) wc := conv_arg wc a1 bs.length cap1 bs rfl NI.out (fun x hx j hj => cell_later hBe (CA.out x hx j hj))
          have C1 : Hid ((convert 22 9 (.slice (some ⟨w.heap.size, 0, none⟩) bs.length bs.length)).run Ybaf.prog wc = .ok (.string ⟨bs.toArray⟩) wc) := c1
          have C2 : Hid ((convert 22 9 (.slice a1 bs.length cap1)).run Ybaf.prog wc = .ok (.string ⟨bs.toArray⟩) wc) := c2
          clear c1 c2 hM
          rcases hNow with ⟨rfl, hs⟩ | ⟨rfl, p, rfl, hp, hs⟩
          · rw [hs] at hSt
            obtain ⟨d1, d2, d3, ⟨t, x, d4⟩, d5, d6⟩ := hSt
            clear hs
            go_wp2_with fail
            refine (equal_true _ _ _ _ _ _ ⟨bs.toArray⟩ wc C1.out C2.out).mono ?_
            rintro e w3 ⟨rfl, rfl⟩
            go_wp2_with fail
            go_ret
            exact ⟨rfl, hBe⟩
          · rw [hs] at hSt
            obtain ⟨off, cap, d1, d2, d3, d4, d5, d6, d7, d8, d9, d10⟩ := hSt
            have HT : Hid (∀ x, Calls Ybaf.prog 6 #[.slice (some ⟨w.heap.size, off, none⟩) (bs.length - p) cap, .slice (if bs.length = p then some ⟨w.heap.size, 0, none⟩ else some ⟨w.heap.size, p, none⟩) (bs.length - p) (bs.length - p)] (wc.drewN x) fun e w'' => e = .returned (.bool true) ∧ ∃ n, w'' = wc.drewN n) := rest_equal wc w.heap.size off p cap bs hp d10 CB.out
            clear hs d10
            go_wp2_with fail
            refine (equal_true _ _ _ _ _ _ ⟨bs.toArray⟩ wc C1.out C2.out).mono ?_
            rintro e w3 ⟨rfl, rfl⟩
            go_wp2_with fail
            rw [List.length_drop] at d6
            have hgd : ((bs.length - p : Nat) : Int) = (bs.length : Int) - (p : Int) := by omega
            have hp' : (p : Int) ≤ (bs.length : Int) := by omega
            go_quiet ((go_at_call 6; exact HT.out _))
            go_wp2_with fail
            all_goals
              go_ret
              exact ⟨rfl, below_drewN hBe _⟩
end Go.Proofs.YbulkcijwFmt
