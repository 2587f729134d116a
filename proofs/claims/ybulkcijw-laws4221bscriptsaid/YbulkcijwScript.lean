import Derived.Test.YbulkcijwInv2
import Derived.Test.YbulkcijwShelf
namespace Go.Proofs.Ybulkcijw
open Go.RowKit Go.Maps Go.RwLone

/-- 'strings.Repeat("x", k+1)' -/
theorem rep_any (k : Nat) (hk : k ≤ 300) (w : World) :
    Calls Yba.prog 8 #[.string ⟨#[120]⟩, .int .i64 ((k : Int) + 1)] w fun e w' => ∃ s : ByteArray, e = .returned (.string s) ∧ s.size ≤ 1000 ∧ Below w.heap.size w w' := by
  have h := Yba.strings_Repeat ⟨#[120]⟩ (k + 1) w (by omega) (by show 1 * (k + 1) ≤ _; omega)
  have e : ((k + 1 : Nat) : Int) = (k : Int) + 1 := by omega
  rw [e] at h
  refine h.mono ?_
  rintro e w' ⟨rfl, hb⟩
  refine ⟨_, rfl, ?_, hb⟩
  show (Lib.repeatL [120] (k + 1)).toArray.size ≤ 1000
  simp [Lib.repeatL_length]
  omega

/-- 'slices.Delete(s, j, j+1)' -/
theorem del_any (b n c j : Nat) (zs : List Int) (w : World) (hz : zs.length = n) (hcap : n ≤ c) (hm : c ≤ maxLen) (hj : j < n) (hc : ∀ j, j < zs.length → w.cell? ⟨b, j, none⟩ = some (.int .i64 (zs.getD j 0))) (hf : ∀ j, j < n → w.frozen? ⟨b, j, none⟩ = false) :
    Calls Yba.prog 11 #[.slice (some ⟨b, 0, none⟩) n c, .int .i64 (j : Int), .int .i64 ((j : Int) + 1)] w fun e w' => e = .returned (.slice (some ⟨b, 0, none⟩) (n - 1) c) ∧
      ∃ q, (w.drewN q).setCells b 0 (((zs.take n).take j ++ (zs.take n).drop (j + 1) ++ List.replicate (j + 1 - j) 0).map (Value.int .i64)) = w' := by
  have h := Yba.slices_Delete_int_cells b 0 n c j (j + 1) zs w (by omega) hcap (by unfold maxLen at hm; omega) (by omega) (by omega) (by simpa using hc) (by simpa using hf)
  have e : ((j + 1 : Nat) : Int) = (j : Int) + 1 := by omega
  rw [e, show j + 1 - j = 1 by omega] at h
  refine h.mono ?_
  rintro e w' ⟨rfl, q, rfl⟩
  exact ⟨rfl, q, by rw [show j + 1 - j = 1 by omega]⟩

set_option maxHeartbeats 4000000 in
set_option maxRecDepth 100000 in
theorem script_main (a0 : Option Addr) (n cap0 : Nat) (ob : Nat → Int) (w : World) (hn : n ≤ 300) (hob : ∀ i, i < n → 0 ≤ ob i ∧ ob i ≤ 255)
    (hops : ∀ i, i < n → ∃ b o, a0 = some ⟨b, o, none⟩ ∧ w.cell? ⟨b, o + i, none⟩ = some (.int .u8 (ob i))) :
    Calls Yba.prog 4 #[.slice a0 n cap0] w fun e w' => e = .returned (.bool true) ∧ Below w.heap.size w w' := by
  have OP : Hid (∀ i, i < n → ∃ b o, a0 = some ⟨b, o, none⟩ ∧ w.cell? ⟨b, o + i, none⟩ = some (.int .u8 (ob i))) := hops
  have OB : Hid (∀ i, i < n → 0 ≤ ob i ∧ ob i ≤ 255) := hob
  clear hops hob
  have hn' : ¬ (300 : Int) < (n : Int) := by omega
  have hmm := @run_makeMap Yba.prog
  obtain ⟨i0, hi, hz0, hz1, hz2⟩ := info_parts Yba.info3
  obtain ⟨i1, hi1, hy0, hy1, hy2⟩ := info_parts Yba.info21
  go_enter Yba.func4, Yba.ntmps4
  go_wp2_with fail
  rw [show w.heap.size + 1 + 1 + 1 + 1 + 1 + 1 + 1 + 1 + 1 = w.heap.size + 9 from rfl]
  go_loopw [4, 5, 6, 31] (fun live want kk x w' => ∃ t ss L zs iv lv, t ≤ n ∧ x = .int .i64 (t : Nat) ∧ kk = .int .i64 (ss.length : Nat) ∧ Inv w t ss L zs iv lv live want w') (fun _ _ _ x _ => n - (intOf x).toNat)
  case atStart => exact ⟨0, [], [], [], _, _, by omega, rfl, rfl, w0_start w⟩
  case round =>
    obtain ⟨w1, hw1⟩ : ∃ w1, w1 = wr := ⟨_, rfl⟩
    subst hw1
    obtain ⟨t, ss, L, zs, iv, lv, ht, rfl, rfl, hI⟩ := hrel
    have b1 := hI.ns
    have b2 := hI.nl
    have b3 := hI.nz
    obtain ⟨la, lc, hla⟩ : ∃ a c, u4 = .slice a L.length c := by
      rcases hI.live.2 with ⟨h1, h2⟩ | ⟨g, cap, cur, h1, _⟩
      · exact ⟨none, 0, by rw [h1, h2]⟩
      · exact ⟨_, _, h1⟩
    subst hla
    by_cases htn : t < n
    · obtain ⟨bo, oo, rfl, hc⟩ := OP.out t htn
      obtain ⟨o1, o2⟩ := OB.out t htn
      have hc' := cell_later hI.bel hc
      have hlt : (t : Int) < (n : Int) := by omega
      have ht0 : (0 : Int) ≤ (t : Int) := by omega
      by_cases hev : ob t % 2 = 0
      · have hev' : (ob t % 2 == 0) = true := by simp [hev]
        have HEV : Hid (ob t % 2 = 0) := hev
        clear hev
        go_wp2_with fail
        refine (rep_any ss.length (by omega) w1).mono ?_
        rintro e w2 ⟨sid, rfl, hsid, hB2⟩
        have I2 := hI.below hB2
        clear hI hB2
        go_wp2_with fail
        refine (add_any w.heap.size ss.length (2 * t) (L.length : Int) iv lv ss sid w2 (by omega) (by omega) (by omega) (by omega) hsid I2.tab I2.side I2.ids).mono ?_
        rintro e w3 ⟨rfl, iv', T3, S3, R3, hn3, K3⟩
        have live3 := ownBlock_kept I2.live K3 I2.iv'
        go_wp2_with (at_builtin; refine wpList_append_lies _ rfl _ _ 65 rfl (w.heap.size + 10) 3 i0 (.int .i64 0) 1 8 Yba.underlying65 hi hz0 hz1 hz2 rfl (by decide) _ L.length (i64Cells L) rfl (live3.alloc _) ⟨w3.heap.size, 0, none⟩ 1 1 [.int .i64 (ss.length : Int)] rfl rfl ?apN1 ?apO1 (by decide) ?apL1 ?apB1 ?apS1 _ rfl ?apH1)
        case apN1 =>
          intro j u hj
          match j, hj with
          | 0, hj => simp at hj; subst hj; simp [Addr.add, go_sem]
        case apO1 => intro u hu; simp at hu; subst hu; rfl
        case apL1 => unfold maxLen; omega
        case apB1 => omega
        case apS1 => have := T3.lt; simp; omega
        intro g cap w4 V4 G4 hat hgl4
        have HI4 : Hid (Inv w (t + 1) (ss ++ [sid]) (L ++ [ss.length]) zs iv' lv (.slice (some ⟨g, 0, none⟩) (L.length + 1) cap) u5 w4) :=
          I2.added hsid T3 S3 R3 hn3 K3 _ (by simpa [i64Cells] using V4) G4 (by simpa using hat)
        clear V4 G4 hat T3 S3 R3 hn3 K3 live3 I2
        go_wp2_with fail
        go_roundw
        case rel => exact ⟨t + 1, ss ++ [sid], L ++ [ss.length], zs, iv', lv, by omega, by go_num, by simp, HI4.out⟩
        case measure => simp [intOf]; omega
      · have hev' : (ob t % 2 == 0) = false := by rw [beq_eq_false_iff_ne]; exact hev
        have HEV : Hid (¬ ob t % 2 = 0) := hev
        clear hev
        by_cases hl0 : L.length = 0
        · have hl0' : ((L.length : Int) == 0) = true := by simp [hl0]
          have HL0 : Hid (L.length = 0) := hl0
          clear hl0
          go_wp2_with fail
          refine (rep_any ss.length (by omega) w1).mono ?_
          rintro e w2 ⟨sid, rfl, hsid, hB2⟩
          have I2 := hI.below hB2
          clear hI hB2
          go_wp2_with fail
          refine (add_any w.heap.size ss.length (2 * t) (L.length : Int) iv lv ss sid w2 (by omega) (by omega) (by omega) (by omega) hsid I2.tab I2.side I2.ids).mono ?_
          rintro e w3 ⟨rfl, iv', T3, S3, R3, hn3, K3⟩
          have live3 := ownBlock_kept I2.live K3 I2.iv'
          go_wp2_with (at_builtin; refine wpList_append_lies _ rfl _ _ 65 rfl (w.heap.size + 10) 3 i0 (.int .i64 0) 1 8 Yba.underlying65 hi hz0 hz1 hz2 rfl (by decide) _ L.length (i64Cells L) rfl (live3.alloc _) ⟨w3.heap.size, 0, none⟩ 1 1 [.int .i64 (ss.length : Int)] rfl rfl ?apN2 ?apO2 (by decide) ?apL2 ?apB2 ?apS2 _ rfl ?apH2)
          case apN2 =>
            intro j u hj
            match j, hj with
            | 0, hj => simp at hj; subst hj; simp [Addr.add, go_sem]
          case apO2 => intro u hu; simp at hu; subst hu; rfl
          case apL2 => unfold maxLen; omega
          case apB2 => omega
          case apS2 => have := T3.lt; simp; omega
          intro g cap w4 V4 G4 hat hgl4
          have HI4 : Hid (Inv w (t + 1) (ss ++ [sid]) (L ++ [ss.length]) zs iv' lv (.slice (some ⟨g, 0, none⟩) (L.length + 1) cap) u5 w4) :=
            I2.added hsid T3 S3 R3 hn3 K3 _ (by simpa [i64Cells] using V4) G4 (by simpa using hat)
          clear V4 G4 hat T3 S3 R3 hn3 K3 live3 I2
          go_wp2_with fail
          go_roundw
          case rel => exact ⟨t + 1, ss ++ [sid], L ++ [ss.length], zs, iv', lv, by omega, by go_num, by simp, HI4.out⟩
          case measure => simp [intOf]; omega
        · have hl0' : ((L.length : Int) == 0) = false := by rw [beq_eq_false_iff_ne]; omega
          obtain ⟨gl, cl, hv, hgl0, hgl1⟩ := hI.live.form (by omega)
          cases hv
          obtain ⟨jn, hjn, hjl⟩ : ∃ jn : Nat, ob t / 2 % (L.length : Int) = (jn : Int) ∧ jn < L.length := by
            have h1 : 0 ≤ ob t / 2 % (L.length : Int) := Int.emod_nonneg _ (by omega)
            have h2 : ob t / 2 % (L.length : Int) < (L.length : Int) := Int.emod_lt_of_pos _ (by omega)
            exact ⟨(ob t / 2 % (L.length : Int)).toNat, by omega, by omega⟩
          have hcl : L.length ≤ lc ∧ lc ≤ maxLen := by
            rcases hI.live.2 with ⟨h1, _⟩ | ⟨g, cap, cur, h1, _, _, h3, h4, _⟩
            · cases h1
            · cases h1; exact ⟨h3, h4⟩
          obtain ⟨p, hp⟩ : ∃ p, p = L[jn] := ⟨_, rfl⟩
          have hps : p < ss.length := by rw [hp]; exact hI.small _ (List.getElem_mem hjl)
          have hcj : w1.cell? ⟨gl, jn, none⟩ = some (.int .i64 (p : Int)) := by
            have h1 := hI.live.cells (g := gl) rfl jn (.int .i64 (L[jn] : Int)) (by simp [i64Cells, hjl])
            have e : (⟨gl, 0, none⟩ : Addr).add jn = ⟨gl, jn, none⟩ := by unfold Addr.add; split <;> simp_all
            rw [← e, hp]; exact h1
          have HP : Hid (p = L[jn]) := hp
          clear hp
          have hjn0 : (0 : Int) ≤ (jn : Int) := by omega
          have hjn1 : (jn : Int) < (L.length : Int) := by omega
          have hps' : (p : Int) ≤ 1000 := by omega
          have hLne : ¬ L.length = 0 := hl0
          have HL0 : Hid (¬ L.length = 0) := hl0
          clear hl0 hLne
          go_wp2_with fail
          refine (forget_any w.heap.size ss.length (2 * t) p (L.length : Int) iv lv ss zs w1 (by omega) hps (by omega) (by omega) (by omega) hI.sz hI.tab hI.side hI.ids hI.lea).mono ?_
          rintro e w2 ⟨rfl, g2, cap2, T2, S2, V2, hat2, K2⟩
          have want2 := ownBlock_kept hI.want K2 hI.lw
          go_wp2_with (at_builtin; refine wpList_append_lies _ rfl _ _ 22 rfl (w.heap.size + 10) 21 i1 (.int .i32 0) 1 4 Yba.underlying22 hi1 hy0 hy1 hy2 rfl (by decide) _ zs.length (i32Cells zs) rfl (want2.alloc _) ⟨w2.heap.size, 0, none⟩ 1 1 [.int .i32 (p : Int)] rfl rfl ?apN3 ?apO3 (by decide) ?apL3 ?apB3 ?apS3 _ rfl ?apH3)
          case apN3 =>
            intro j u hj
            match j, hj with
            | 0, hj => simp at hj; subst hj; simp [Addr.add, go_sem]
          case apO3 => intro u hu; simp at hu; subst hu; rfl
          case apL3 => unfold maxLen; omega
          case apB3 => omega
          case apS3 => have := T2.lt; simp; omega
          intro gw capw w3 W3 G3 hat3 hgl3
          have live2 := ownBlock_kept hI.live K2 hI.lv'
          have live3 : w3.ownsRow (w.heap.size + 10) 3 1 (.slice (some ⟨gl, 0, none⟩) L.length lc) L.length (i64Cells L) := (live2.alloc _).kept G3 (.inr (fun e => hI.vw gl rfl e.symm))
          have HL : Hid (∀ q, Inv w (t + 1) ss (L.eraseIdx jn) (zs ++ [(p : Int)]) iv (.slice (some ⟨g2, 0, none⟩) (zs.length + 1) cap2) (.slice (some ⟨gl, 0, none⟩) (L.length - 1) lc) (.slice (some ⟨gw, 0, none⟩) (zs.length + 1) capw)
              ((w3.drewN q).setCells gl 0 ((((L.map (fun x : Nat => (x : Int))).take L.length).take jn ++ ((L.map (fun x : Nat => (x : Int))).take L.length).drop (jn + 1) ++ List.replicate (jn + 1 - jn) 0).map (Value.int .i64)))) :=
            fun q => hI.forgot hjl T2 S2 V2 hat2 K2 _ (by simpa [i32Cells] using W3) G3 (by simpa using hat3) rfl q _ rfl
          have HCELL : Hid (∀ j, j < (L.map (fun x : Nat => (x : Int))).length → w3.cell? ⟨gl, j, none⟩ = some (.int .i64 ((L.map (fun x : Nat => (x : Int))).getD j 0))) := by
            intro j hj
            have hj' : j < L.length := by simpa using hj
            rw [live3.cellAt j (by omega)]
            simp [i64Cells, hj']
          have HFRZ : Hid (∀ j, j < L.length → w3.frozen? ⟨gl, j, none⟩ = false) := fun j _ => live3.frozenAt j
          clear W3 G3 hat3 T2 S2 V2 hat2 K2 live2 live3 want2 hI
          go_wp2_with fail
          refine (del_any gl L.length lc jn (L.map (fun x : Nat => (x : Int))) w3 (by simp) hcl.1 hcl.2 hjl HCELL.out HFRZ.out).mono ?_
          rintro e w4 ⟨rfl, q4, hw4⟩
          have HI4 : Hid (Inv w (t + 1) ss (L.eraseIdx jn) (zs ++ [(p : Int)]) iv (.slice (some ⟨g2, 0, none⟩) (zs.length + 1) cap2) (.slice (some ⟨gl, 0, none⟩) (L.length - 1) lc) (.slice (some ⟨gw, 0, none⟩) (zs.length + 1) capw) w4) := by
            rw [← hw4]; exact HL.out q4
          clear hw4 HL
          go_wp2_with fail
          go_roundw
          case rel => exact ⟨t + 1, ss, L.eraseIdx jn, zs ++ [(p : Int)], iv, _, by omega, by go_num, rfl, HI4.out⟩
          case measure => simp [intOf]; omega
    · have hlt : ¬ (t : Int) < (n : Int) := by omega
      have shape : ∀ {e : TypeId} {v : Value} {k : Nat} {xs : List Value}, w1.ownsRow (w.heap.size + 10) e 1 v k xs → ∃ a c, v = .slice a k c := by
        intro e v k xs h
        rcases h.2 with ⟨h1, h2⟩ | ⟨g, cap, cur, h1, _⟩
        · exact ⟨none, 0, by rw [h1, h2]⟩
        · exact ⟨_, _, h1⟩
      obtain ⟨lva, lvc, hlv⟩ := shape hI.lea
      obtain ⟨wva, wvc, hwv⟩ := shape hI.want
      obtain ⟨iva, ivc, hiv⟩ := shape hI.ids
      have hnone : lva.isNone = wva.isNone := by
        by_cases h0 : zs = []
        · obtain ⟨h1, h2⟩ := hI.nil h0
          rw [hlv] at h1
          rw [hwv] at h2
          simp only [Value.slice.injEq] at h1 h2
          rw [h1.1, h2.1]
        · have hpos : 0 < zs.length := List.length_pos_iff.2 h0
          obtain ⟨g1, c1, h1, _⟩ := hI.lea.form hpos
          obtain ⟨g2, c2, h2, _⟩ := hI.want.form hpos
          rw [hlv] at h1
          rw [hwv] at h2
          cases h1; cases h2; rfl
      have rd : ∀ {v : Value} {a : Option Addr} {c : Nat} {w2 : World}, w2.ownsRow (w.heap.size + 10) 21 1 v zs.length (i32Cells zs) → v = .slice a zs.length c → Reads w2 a zs.length zs := by
        intro v a c w2 h hv
        by_cases h0 : zs.length = 0
        · exact .inl h0
        · obtain ⟨g, c', h1, _⟩ := h.form (by omega)
          rw [hv] at h1
          cases h1
          refine .inr ⟨g, 0, rfl, fun i hi => ?_⟩
          subst hv
          rw [Nat.zero_add, h.cellAt i (by omega)]
          simp [i32Cells, hi]
      have c10 : w1.cell? ⟨w.heap.size + 9, 10, none⟩ = some (.slice lva zs.length lvc) := by rw [← hlv]; exact hI.tab.cell 10 lv rfl
      have T2 := hI.tab.set10 (.slice none 0 0)
      have lea2 := ownsRow_setCell_below hI.lea (a := ⟨w.heap.size + 9, 10, none⟩) (by show w.heap.size + 9 < w.heap.size + 10; omega) (.slice none 0 0)
      have want2 := ownsRow_setCell_below hI.want (a := ⟨w.heap.size + 9, 10, none⟩) (by show w.heap.size + 9 < w.heap.size + 10; omega) (.slice none 0 0)
      have RL : Hid (Reads (w1.setCell ⟨w.heap.size + 9, 10, none⟩ (.slice none 0 0)) lva zs.length zs) := rd lea2 hlv
      have RW : Hid (Reads (w1.setCell ⟨w.heap.size + 9, 10, none⟩ (.slice none 0 0)) wva zs.length zs) := rd want2 hwv
      have HB : Hid (Below w.heap.size w (w1.setCell ⟨w.heap.size + 9, 10, none⟩ (.slice none 0 0))) := hI.bel.setCell (by show w.heap.size ≤ w.heap.size + 9; omega) _
      have f10 := hI.tab.frozen 10
      have heq := fun (w : World) (a : Option Addr) (n c n' c' : Nat) => Lib.run_eql_slice_nil (P := Yba.prog) w 22 21 a n c n' c' Yba.underlying22
      have hne := fun (w : World) (a : Option Addr) (n c n' c' : Nat) => run_neq_slice_nil_any (P := Yba.prog) w 22 21 a n c n' c' Yba.underlying22
      rw [hwv]
      have HIV : Hid (iv = .slice iva ss.length ivc) := hiv
      clear hlv hwv hiv shape rd lea2 want2
      go_wp2_with fail
      refine (take_any (w.heap.size + 9) lva zs.length lvc w1 c10 f10).mono ?_
      rintro e w2 ⟨rfl, hw2⟩
      rw [hw2] at T2 RL RW HB
      clear hw2
      go_wp2_with fail
      refine (eq_any _ _ zs.length _ _ zs _ (by omega) RL.out RW.out).mono ?_
      rintro e w3 ⟨rfl, q3, hw3⟩
      have T3 : Tab w.heap.size 0 0 iv (.slice none 0 0) (L.length : Int) w3 := by rw [hw3]; exact T2
      have HB3 : Hid (Below w.heap.size w w3) := by rw [hw3]; exact below_drewN HB.out _
      clear hw3
      have d10 := T3.cell 10 (.slice none 0 0) rfl
      have g10 := T3.frozen 10
      have d24 := T3.cell 24 (.int .i64 (L.length : Int)) rfl
      have d8 : w3.cell? ⟨w.heap.size + 9, 8, none⟩ = some (.slice iva ss.length ivc) := by rw [← HIV.out]; exact T3.cell 8 iv rfl
      go_wp2_with fail
      refine (take_any (w.heap.size + 9) none 0 0 _ d10 g10).mono ?_
      rintro e w4 ⟨rfl, hw4⟩
      have HB4 : Hid (Below w.heap.size w w4) := by rw [← hw4]; exact HB3.out.setCell (by show w.heap.size ≤ w.heap.size + 9; omega) _
      clear hw4
      go_wp2_with fail
      go_ret
      exact ⟨rfl, HB4.out⟩
end Go.Proofs.Ybulkcijw
