import Derived.Test.YbulkcijwForget
namespace Go.Proofs.Ybulkcijw
open Go.RowKit Go.Maps Go.RwLone

def i64Cells (zs : List Nat) : List Value := zs.map (fun x : Nat => Value.int .i64 (x : Int))
theorem Yba.info3 : (Yba.prog.info? 3).map (fun i => (i.zero, i.size, i.bytes)) = some (some (.int .i64 0), 1, 8) := by kernel_rfl

/-- no block in common -/
def Apart (a b : Option Nat) : Prop := ∀ x, a = some x → b ≠ some x

/-- what a round of the script's loop knows -/
structure Inv (w : World) (t : Nat) (ss : List ByteArray) (L : List Nat) (zs : List Int) (iv lv liv wv : Value) (w' : World) : Prop where
  tab : Tab w.heap.size 0 0 iv lv (L.length : Int) w'
  side : Side6 w.heap.size (2 * t) w'
  ids : w'.ownsRow (w.heap.size + 10) 9 1 iv ss.length (strCells ss)
  lea : w'.ownsRow (w.heap.size + 10) 21 1 lv zs.length (i32Cells zs)
  live : w'.ownsRow (w.heap.size + 10) 3 1 liv L.length (i64Cells L)
  want : w'.ownsRow (w.heap.size + 10) 21 1 wv zs.length (i32Cells zs)
  il : Apart iv.ownBlock lv.ownBlock
  iv' : Apart iv.ownBlock liv.ownBlock
  iw : Apart iv.ownBlock wv.ownBlock
  lv' : Apart lv.ownBlock liv.ownBlock
  lw : Apart lv.ownBlock wv.ownBlock
  vw : Apart liv.ownBlock wv.ownBlock
  ns : ss.length ≤ t
  nl : L.length ≤ ss.length
  nz : zs.length ≤ t
  sz : ∀ s ∈ ss, s.size ≤ 1000
  small : ∀ x ∈ L, x < ss.length
  nil : zs = [] → lv = .slice none 0 0 ∧ wv = .slice none 0 0
  bel : Below w.heap.size w w'

theorem Inv.start (w : World) (w' : World) (hT : Tab w.heap.size 0 0 (.slice none 0 0) (.slice none 0 0) 0 w') (hS : Side6 w.heap.size 0 w') (hB : Below w.heap.size w w') : Inv w 0 [] [] [] (.slice none 0 0) (.slice none 0 0) (.slice none 0 0) (.slice none 0 0) w' where
  tab := hT
  side := hS
  ids := World.ownsRow_nil _ _ _ _
  lea := World.ownsRow_nil _ _ _ _
  live := World.ownsRow_nil _ _ _ _
  want := World.ownsRow_nil _ _ _ _
  il := fun x h => by cases h
  iv' := fun x h => by cases h
  iw := fun x h => by cases h
  lv' := fun x h => by cases h
  lw := fun x h => by cases h
  vw := fun x h => by cases h
  ns := Nat.le_refl _
  nl := Nat.le_refl _
  nz := Nat.le_refl _
  sz := fun s h => by simp at h
  small := fun s h => by simp at h
  nil := fun _ => ⟨rfl, rfl⟩
  bel := hB

/-- the world behind the script's first statement -/
def w0 (w : World) : World :=
  (((((((((w.alloc (.cells #[.slice none 0 0, .slice none 0 0, .slice none 0 0, .slice none 0 0, .slice none 0 0, .slice none 0 0, .int .i64 0, .int .u64 0, .slice none 0 0, .int .i64 0] 64)).alloc (.map #[] 0)).alloc (.map #[] 0)).alloc (.map #[] 0)).alloc (.map #[] 0)).alloc (.map #[] 0)).alloc (.map #[] 0)).alloc (.map #[] 0)).alloc (.map #[] 0)).alloc
    (.cells (tcell w.heap.size 0 0 (.slice none 0 0) (.slice none 0 0) 0) 52)

theorem w0_heap (w : World) : (w0 w).heap = (((((((((w.heap.push (.cells #[.slice none 0 0, .slice none 0 0, .slice none 0 0, .slice none 0 0, .slice none 0 0, .slice none 0 0, .int .i64 0, .int .u64 0, .slice none 0 0, .int .i64 0] 64)).push (.map #[] 0)).push (.map #[] 0)).push (.map #[] 0)).push (.map #[] 0)).push (.map #[] 0)).push (.map #[] 0)).push (.map #[] 0)).push (.map #[] 0)).push
    (.cells (tcell w.heap.size 0 0 (.slice none 0 0) (.slice none 0 0) 0) 52) := rfl

theorem w0_start (w : World) : Inv w 0 [] [] [] (.slice none 0 0) (.slice none 0 0) (.slice none 0 0) (.slice none 0 0) (w0 w) := by
  have hmap : ∀ (K : TypeId) (j : Nat), 1 ≤ j → j ≤ 8 → HasMap (w0 w) K (w.heap.size + j) 0 := by
    intro K j h1 h2
    refine ⟨.map [], #[], 0, ?_, ⟨by simp, MapKept.stamped_empty 0, by simp⟩, Nat.le_refl _, rfl⟩
    rcases (by omega : j = 1 ∨ j = 2 ∨ j = 3 ∨ j = 4 ∨ j = 5 ∨ j = 6 ∨ j = 7 ∨ j = 8) with rfl | rfl | rfl | rfl | rfl | rfl | rfl | rfl <;> (rw [w0_heap]; simp only [Array.getElem?_push, Array.size_push]; repeat (first | rw [if_pos trivial] | rw [if_neg (by omega)] | rw [if_pos (by omega)]))
  refine Inv.start w (w0 w) ?_ ⟨?_, hmap _ 1 (by omega) (by omega), hmap _ 2 (by omega) (by omega), hmap _ 3 (by omega) (by omega), hmap _ 4 (by omega) (by omega), hmap _ 5 (by omega) (by omega), hmap _ 6 (by omega) (by omega)⟩ ?_
  · unfold Tab
    rw [w0_heap]
    simp only [Array.getElem?_push, Array.size_push]
    rw [if_pos trivial]
  · have hb : (w0 w).heap[w.heap.size]? = some (.cells #[.slice none 0 0, .slice none 0 0, .slice none 0 0, .slice none 0 0, .slice none 0 0, .slice none 0 0, .int .i64 0, .int .u64 0, .slice none 0 0, .int .i64 0] 64) := by
      rw [w0_heap]
      simp only [Array.getElem?_push, Array.size_push]
      repeat (first | rw [if_pos trivial] | rw [if_neg (by omega)] | rw [if_pos (by omega)])
    simp [World.cell?, hb]
  · unfold w0
    exact ((((((((((Below.refl _ _).alloc (Nat.le_refl _) _).alloc (by simp <;> omega) _).alloc (by simp <;> omega) _).alloc (by simp <;> omega) _).alloc (by simp <;> omega) _).alloc (by simp <;> omega) _).alloc (by simp <;> omega) _).alloc (by simp <;> omega) _).alloc (by simp <;> omega) _).alloc (by simp <;> omega) _

theorem ownBlock_kept {N : Nat} {x : Option Nat} {w w' : World} {e : TypeId} {v : Value} {n : Nat} {xs : List Value} (h : w.ownsRow (N + 10) e 1 v n xs) (hk : Kept N x w w') (hx : Apart x v.ownBlock) : w'.ownsRow (N + 10) e 1 v n xs := by
  have hlt := World.ownsRow.lt h
  rcases h with ⟨h1, h2 | ⟨g, cap, cur, rfl, hg, hh, r⟩⟩
  · exact ⟨h1, .inl h2⟩
  · refine ⟨h1, .inr ⟨g, cap, cur, rfl, hg, ?_, r⟩⟩
    rw [hk.block g (hlt g rfl).2 (.inr hg) (fun e => hx g e.symm rfl)]; exact hh
theorem ownBlock_below {B K : Nat} {w w' : World} {e : TypeId} {v : Value} {n : Nat} {xs : List Value} (h : w.ownsRow B e 1 v n xs) (hk : Below K w w') (hK : w.heap.size ≤ K) : w'.ownsRow B e 1 v n xs := by
  have hlt := World.ownsRow.lt h
  rcases h with ⟨h1, h2 | ⟨g, cap, cur, rfl, hg, hh, r⟩⟩
  · exact ⟨h1, .inl h2⟩
  · refine ⟨h1, .inr ⟨g, cap, cur, rfl, hg, ?_, r⟩⟩
    rw [hk.block g (by have := (hlt g rfl).2; omega)]; exact hh
theorem Apart.symm {a b : Option Nat} (h : Apart a b) : Apart b a := fun x hb ha => h x ha hb

/-- more blocks: nothing else -/
theorem Inv.below {w : World} {t : Nat} {ss : List ByteArray} {L : List Nat} {zs : List Int} {iv lv liv wv : Value} {w1 w2 : World} (h : Inv w t ss L zs iv lv liv wv w1) (hb : Below w1.heap.size w1 w2) : Inv w t ss L zs iv lv liv wv w2 := by
  have hl := h.tab.lt
  have hb' : ∀ b, b < w.heap.size + 10 → w2.heap[b]? = w1.heap[b]? := fun b hlt => hb.block b (by omega)
  exact { h with
    tab := h.tab.keep (hb' _ (by omega))
    side := h.side.keep (fun b _ _ => hb' b (by omega))
    ids := ownBlock_below h.ids hb (Nat.le_refl _)
    lea := ownBlock_below h.lea hb (Nat.le_refl _)
    live := ownBlock_below h.live hb (Nat.le_refl _)
    want := ownBlock_below h.want hb (Nat.le_refl _)
    bel := h.bel.trans (hb.mono (by omega)) }

/-- Apart from a row that is the old one or lies in a new block. -/
theorem apart_new {a a' b : Option Nat} {H : Nat} (h : Apart a b) (hn : a' = a ∨ ∃ g, a' = some g ∧ H ≤ g) (hb : ∀ x, b = some x → x < H) : Apart a' b := by
  intro x h1 h2
  rcases hn with rfl | ⟨g, rfl, hg⟩
  · exact h x h1 h2
  · cases h1
    have := hb _ h2
    omega

theorem side_mono {N m m' : Nat} {w : World} (h : Side6 N m w) (hm : m ≤ m') : Side6 N m' w :=
  ⟨h.1, h.2.1.mono hm, h.2.2.1.mono hm, h.2.2.2.1.mono hm, h.2.2.2.2.1.mono hm, h.2.2.2.2.2.1.mono hm, h.2.2.2.2.2.2.mono hm⟩

/-- A process has been added: the table's part. -/
theorem Inv.added {w : World} {t : Nat} {ss : List ByteArray} {L : List Nat} {zs : List Int} {iv lv liv wv : Value} {w2 w3 w4 : World} {id : ByteArray} {iv' : Value} (h : Inv w t ss L zs iv lv liv wv w2) (hid : id.size ≤ 1000)
    (hT : Tab w.heap.size 0 0 iv' lv ((L.length : Int) + 1) w3) (hS : Side6 w.heap.size (2 * t + 2) w3) (hI : w3.ownsRow (w.heap.size + 10) 9 1 iv' (ss.length + 1) (strCells (ss ++ [id])))
    (hn : iv'.ownBlock = iv.ownBlock ∨ ∃ g, iv'.ownBlock = some g ∧ w2.heap.size ≤ g) (hK : Kept w.heap.size iv.ownBlock w2 w3)
    {g cap : Nat} (o : Obj) (hV : w4.ownsRow (w.heap.size + 10) 3 1 (.slice (some ⟨g, 0, none⟩) (L.length + 1) cap) (L.length + 1) (i64Cells (L ++ [ss.length]))) (hG : (w3.alloc o).grownBy w4 liv.ownBlock) (hat : liv.ownBlock = some g ∨ g = w3.heap.size + 1) :
    Inv w (t + 1) (ss ++ [id]) (L ++ [ss.length]) zs iv' lv (.slice (some ⟨g, 0, none⟩) (L.length + 1) cap) wv w4 := by
  have hb2 : ∀ {e v n xs}, w2.ownsRow (w.heap.size + 10) e 1 v n xs → ∀ x, v.ownBlock = some x → x < w2.heap.size := fun h x hx => (World.ownsRow.lt h x hx).2
  have il2 := apart_new h.il hn (hb2 h.lea)
  have iv2 := apart_new h.iv' hn (hb2 h.live)
  have iw2 := apart_new h.iw hn (hb2 h.want)
  have lea3 := ownBlock_kept h.lea hK h.il
  have live3 := ownBlock_kept h.live hK h.iv'
  have want3 := ownBlock_kept h.want hK h.iw
  have s23 := hK.size
  have l3 := hT.lt
  have hneL : ∀ b, b < w.heap.size + 10 → some b ≠ liv.ownBlock := fun b hb e => by have := (World.ownsRow.lt h.live b e.symm).1; omega
  have hblk : ∀ b, b < w.heap.size + 10 → w4.heap[b]? = w3.heap[b]? := fun b hb => (hG.block b (by simp; omega) (hneL b hb)).trans (Below.heap_alloc _ _ _ (by omega))
  have kp : ∀ {e v n xs}, w3.ownsRow (w.heap.size + 10) e 1 v n xs → Apart liv.ownBlock v.ownBlock → w4.ownsRow (w.heap.size + 10) e 1 v n xs := by
    intro e v n xs hr hap
    refine (hr.alloc o).kept hG ?_
    cases hv : v.ownBlock with
    | none => exact .inl rfl
    | some x => exact .inr (fun e => hap x e.symm hv)
  have hb3 : ∀ {e v n xs}, w3.ownsRow (w.heap.size + 10) e 1 v n xs → ∀ x, v.ownBlock = some x → x < w3.heap.size + 1 := fun h x hx => by have := (World.ownsRow.lt h x hx).2; omega
  have hnew : (Value.slice (some ⟨g, 0, none⟩) (L.length + 1) cap).ownBlock = liv.ownBlock ∨ ∃ g', (Value.slice (some ⟨g, 0, none⟩) (L.length + 1) cap).ownBlock = some g' ∧ w3.heap.size + 1 ≤ g' := by
    rcases hat with h | h
    · exact .inl h.symm
    · exact .inr ⟨g, rfl, by omega⟩
  exact {
    tab := by
      have e : ((L ++ [ss.length]).length : Int) = (L.length : Int) + 1 := by simp
      rw [e]; exact hT.keep (hblk _ (by omega))
    side := by
      have e : 2 * (t + 1) = 2 * t + 2 := by omega
      rw [e]; exact hS.keep (fun b _ _ => hblk b (by omega))
    ids := by simpa using kp hI iv2.symm
    lea := kp lea3 h.lv'.symm
    live := by simpa using hV
    want := kp want3 h.vw
    il := il2
    iv' := (apart_new iv2.symm hnew (hb3 hI)).symm
    iw := iw2
    lv' := (apart_new h.lv'.symm hnew (hb3 lea3)).symm
    lw := h.lw
    vw := apart_new h.vw hnew (hb3 want3)
    ns := by have := h.ns; simp; omega
    nl := by have := h.nl; simp; omega
    nz := by have := h.nz; omega
    sz := by
      intro s hs
      rcases List.mem_append.1 hs with h1 | h1
      · exact h.sz s h1
      · simp at h1; subst h1; exact hid
    small := by
      intro x hx
      rcases List.mem_append.1 hx with h1 | h1
      · have := h.small x h1; simp; omega
      · simp at h1; subst h1; simp
    nil := h.nil
    bel := by
      refine h.bel.trans ⟨?_, ?_, ?_, ?_, ?_⟩
      · exact hG.os.trans hK.os
      · exact hG.tape.trans hK.tape
      · exact hG.output.trans hK.output
      · have := hG.size; simp at this; omega
      · intro k hk
        rw [hblk k (by omega)]
        have hl2 := h.tab.lt
        exact hK.block k (by omega) (.inl hk) (fun e => by have := (World.ownsRow.lt h.ids k e.symm).1; omega) }
end Go.Proofs.Ybulkcijw
