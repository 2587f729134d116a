import Derived.Test.YbulkcijwInv
namespace Go.Proofs.Ybulkcijw
open Go.RowKit Go.Maps Go.RwLone

theorem setCells_block (b : Nat) : ∀ (vs : List Value) (o : Nat) (w : World) (cur : Array Value) (t : TypeId) (fr : Nat × Nat), w.heap[b]? = some (.cells cur t fr) → o + vs.length ≤ cur.size →
    ∃ cur', (w.setCells b o vs).heap[b]? = some (.cells cur' t fr) ∧ cur'.toList = cur.toList.take o ++ vs ++ cur.toList.drop (o + vs.length)
  | [], o, w, cur, t, fr, h, _ => ⟨cur, h, by simp⟩
  | v :: r, o, w, cur, t, fr, h, hl => by
    obtain ⟨cur', h1, h2⟩ := setCells_block b r (o + 1) (w.setCell ⟨b, o, none⟩ v) (cur.setIfInBounds o v) t fr (blk_set h v) (by simp at hl ⊢; omega)
    refine ⟨cur', h1, ?_⟩
    rw [h2]
    simp only [Array.toList_setIfInBounds]
    exact list_seg_step cur.toList o v r (by simp at hl ⊢; omega)

theorem setCells_other (b : Nat) : ∀ (vs : List Value) (o : Nat) (w : World), (∀ k, k ≠ b → (w.setCells b o vs).heap[k]? = w.heap[k]?) ∧ (w.setCells b o vs).heap.size = w.heap.size ∧ (w.setCells b o vs).os = w.os ∧ (w.setCells b o vs).tape = w.tape ∧ (w.setCells b o vs).output = w.output
  | [], o, w => ⟨fun _ _ => rfl, rfl, rfl, rfl, rfl⟩
  | v :: r, o, w => by
    obtain ⟨h1, h2, h3, h4, h5⟩ := setCells_other b r (o + 1) (w.setCell ⟨b, o, none⟩ v)
    refine ⟨fun k hk => (h1 k hk).trans (Below.heap_setCell _ _ _ _ hk), h2.trans (by simp [World.setCell]), h3, h4, h5⟩

/-- A process has been forgotten. -/
theorem Inv.forgot {w : World} {t : Nat} {ss : List ByteArray} {L : List Nat} {zs : List Int} {iv lv liv wv : Value} {w1 w2 w3 : World} {p j : Nat} (h : Inv w t ss L zs iv lv liv wv w1) (hj : j < L.length)
    {g cap : Nat} (hT : Tab w.heap.size 0 0 iv (.slice (some ⟨g, 0, none⟩) (zs.length + 1) cap) ((L.length : Int) - 1) w2) (hS : Side6 w.heap.size (2 * t) w2)
    (hV : w2.ownsRow (w.heap.size + 10) 21 1 (.slice (some ⟨g, 0, none⟩) (zs.length + 1) cap) (zs.length + 1) (i32Cells (zs ++ [(p : Int)]))) (hat : lv.ownBlock = some g ∨ w1.heap.size ≤ g) (hK : Kept w.heap.size lv.ownBlock w1 w2)
    (o : Obj) {gw capw : Nat} (hW : w3.ownsRow (w.heap.size + 10) 21 1 (.slice (some ⟨gw, 0, none⟩) (zs.length + 1) capw) (zs.length + 1) (i32Cells (zs ++ [(p : Int)]))) (hG : (w2.alloc o).grownBy w3 wv.ownBlock) (hatw : wv.ownBlock = some gw ∨ gw = w2.heap.size + 1)
    {gl cl : Nat} (hl : liv = .slice (some ⟨gl, 0, none⟩) L.length cl) (q : Nat) (xs : List Int) (hx : xs = L.map (fun x : Nat => (x : Int))) :
    Inv w (t + 1) ss (L.eraseIdx j) (zs ++ [(p : Int)]) iv (.slice (some ⟨g, 0, none⟩) (zs.length + 1) cap) (.slice (some ⟨gl, 0, none⟩) (L.length - 1) cl) (.slice (some ⟨gw, 0, none⟩) (zs.length + 1) capw)
      ((w3.drewN q).setCells gl 0 (((xs.take L.length).take j ++ (xs.take L.length).drop (j + 1) ++ List.replicate (j + 1 - j) 0).map (Value.int .i64))) := by
  subst hx
  have hb1 : ∀ {e v n xs}, w1.ownsRow (w.heap.size + 10) e 1 v n xs → ∀ x, v.ownBlock = some x → x < w1.heap.size := fun h x hx => (World.ownsRow.lt h x hx).2
  have hnL : (Value.slice (some ⟨g, 0, none⟩) (zs.length + 1) cap).ownBlock = lv.ownBlock ∨ ∃ g', (Value.slice (some ⟨g, 0, none⟩) (zs.length + 1) cap).ownBlock = some g' ∧ w1.heap.size ≤ g' := by
    rcases hat with h | h
    · exact .inl h.symm
    · exact .inr ⟨g, rfl, h⟩
  have il2 := (apart_new h.il.symm hnL (hb1 h.ids)).symm
  have lv2 := apart_new h.lv' hnL (hb1 h.live)
  have lw2 := apart_new h.lw hnL (hb1 h.want)
  have ids2 := ownBlock_kept h.ids hK h.il.symm
  have live2 := ownBlock_kept h.live hK h.lv'
  have want2 := ownBlock_kept h.want hK h.lw
  have s12 := hK.size
  have l2 := hT.lt
  have hneW : ∀ b, b < w.heap.size + 10 → some b ≠ wv.ownBlock := fun b hb e => by have := (World.ownsRow.lt h.want b e.symm).1; omega
  have hblk : ∀ b, b < w.heap.size + 10 → w3.heap[b]? = w2.heap[b]? := fun b hb => (hG.block b (by simp; omega) (hneW b hb)).trans (Below.heap_alloc _ _ _ (by omega))
  have kp : ∀ {e v n xs}, w2.ownsRow (w.heap.size + 10) e 1 v n xs → Apart wv.ownBlock v.ownBlock → w3.ownsRow (w.heap.size + 10) e 1 v n xs := by
    intro e v n xs hr hap
    refine (hr.alloc o).kept hG ?_
    cases hv : v.ownBlock with
    | none => exact .inl rfl
    | some x => exact .inr (fun e => hap x e.symm hv)
  have hb2 : ∀ {e v n xs}, w2.ownsRow (w.heap.size + 10) e 1 v n xs → ∀ x, v.ownBlock = some x → x < w2.heap.size + 1 := fun h x hx => by have := (World.ownsRow.lt h x hx).2; omega
  have hnW : (Value.slice (some ⟨gw, 0, none⟩) (zs.length + 1) capw).ownBlock = wv.ownBlock ∨ ∃ g', (Value.slice (some ⟨gw, 0, none⟩) (zs.length + 1) capw).ownBlock = some g' ∧ w2.heap.size + 1 ≤ g' := by
    rcases hatw with h | h
    · exact .inl h.symm
    · exact .inr ⟨gw, rfl, by omega⟩
  have ids3 := kp ids2 h.iw.symm
  have lea3 := kp hV lw2.symm
  have live3 := kp live2 h.vw.symm
  have iw3 := (apart_new h.iw.symm hnW (hb2 ids2)).symm
  have lw3 := (apart_new lw2.symm hnW (hb2 hV)).symm
  have vw3 := (apart_new h.vw.symm hnW (hb2 live2)).symm
  subst hl
  obtain ⟨ho1, ho2, ho3, ho4, ho5⟩ := setCells_other gl (((((L.map (fun x : Nat => (x : Int))).take L.length).take j ++ ((L.map (fun x : Nat => (x : Int))).take L.length).drop (j + 1) ++ List.replicate (j + 1 - j) 0).map (Value.int .i64))) 0 (w3.drewN q)
  generalize hvs : (((L.map (fun x : Nat => (x : Int))).take L.length).take j ++ ((L.map (fun x : Nat => (x : Int))).take L.length).drop (j + 1) ++ List.replicate (j + 1 - j) 0).map (Value.int .i64) = vs at *
  have hvl : vs.length = L.length := by rw [← hvs]; simp; omega
  have hgl : w.heap.size + 10 ≤ gl := (World.ownsRow.lt live3 gl rfl).1
  have kp4 : ∀ {e v n xs}, w3.ownsRow (w.heap.size + 10) e 1 v n xs → v.ownBlock ≠ some gl → ((w3.drewN q).setCells gl 0 vs).ownsRow (w.heap.size + 10) e 1 v n xs := by
    intro e v n xs hr hne
    rcases hr with ⟨h1, h2 | ⟨gg, cc, cur, rfl, hg, hh, r⟩⟩
    · exact ⟨h1, .inl h2⟩
    · exact ⟨h1, .inr ⟨gg, cc, cur, rfl, hg, by rw [ho1 gg (fun e => hne (by rw [e]; rfl))]; exact hh, r⟩⟩
  have hblk4 : ∀ b, b < w.heap.size + 10 → ((w3.drewN q).setCells gl 0 vs).heap[b]? = w2.heap[b]? := fun b hb => (ho1 b (by omega)).trans (hblk b hb)
  have hel : (L.eraseIdx j).length = L.length - 1 := by rw [List.length_eraseIdx]; simp [hj]
  exact {
    tab := by
      have e : ((L.eraseIdx j).length : Int) = (L.length : Int) - 1 := by rw [hel]; omega
      rw [e]; exact hT.keep (hblk4 _ (by omega))
    side := side_mono (hS.keep (fun b _ _ => hblk4 b (by omega))) (by omega)
    ids := kp4 ids3 (fun e => h.iv' gl e rfl)
    lea := by
      have := kp4 lea3 (fun e => lv2 gl e rfl)
      simpa using this
    live := by
      rcases live3 with ⟨h1, ⟨h2, _⟩ | ⟨gg, cc, cur, h2, hg, hh, hnc, hcm, hcs, htk⟩⟩
      · cases h2
      · cases h2
        obtain ⟨cur', hc1, hc2⟩ := setCells_block gl vs 0 (w3.drewN q) cur 3 (0, 0) hh (by rw [hvl]; omega)
        have hcl : cur'.size = cur.size := by
          have := congrArg List.length hc2
          simp [hvl] at this
          omega
        refine ⟨by simp [i64Cells, hel], .inr ⟨gl, cl, cur', by rw [hel], hg, hc1, by omega, hcm, by omega, ?_⟩⟩
        rw [hc2, ← hvs]
        have e1 : (L.map (fun x : Nat => (x : Int))).take L.length = L.map (fun x : Nat => (x : Int)) := List.take_of_length_le (by simp)
        rw [e1, hel]
        simp only [List.take_zero, List.nil_append, Nat.mul_one, List.map_append]
        rw [List.append_assoc, List.take_append_of_le_length (by simp; omega), List.take_of_length_le (by simp; omega)]
        simp [i64Cells, List.eraseIdx_eq_take_drop_succ]
        rfl
    want := by
      have := kp4 hW (fun e => vw3 gl rfl e)
      simpa using this
    il := il2
    iv' := h.iv'
    iw := iw3
    lv' := lv2
    lw := lw3
    vw := vw3
    ns := by have := h.ns; omega
    nl := by have := h.nl; rw [hel]; omega
    nz := by have := h.nz; simp; omega
    sz := h.sz
    small := fun x hx => h.small x (List.mem_of_mem_eraseIdx hx)
    nil := fun hz => by simp at hz
    bel := by
      refine h.bel.trans ⟨?_, ?_, ?_, ?_, ?_⟩
      · exact ho3.trans (hG.os.trans hK.os)
      · exact ho4.trans (hG.tape.trans hK.tape)
      · exact ho5.trans (hG.output.trans hK.output)
      · rw [ho2]; have := hG.size; simp at this; show w1.heap.size ≤ w3.heap.size; omega
      · intro k hk
        rw [hblk4 k (by omega)]
        have hl1 := h.tab.lt
        exact hK.block k (by omega) (.inl hk) (fun e => by have := (World.ownsRow.lt h.lea k e.symm).1; omega) }
end Go.Proofs.Ybulkcijw
