import Derived.Test.YbulkcijwFmtPlain
import Derived.Laws.AppendOwn
import Derived.Laws.AppendOwnNone
import Derived.Lib.BufferRead
namespace Go.Proofs.YbulkcijwFmt
open Go.RowKit Go.Extern.Stop Go.Stop Go.Extern

def byteCellsOf (bs : List UInt8) : List Value := bs.map (fun b => .int .u8 (b.toNat : Int))
/-- the slice v is the call's own, in a block from B on, and holds bs -/
def Msg (B : Nat) (v : Value) (bs : List UInt8) (w : World) : Prop := w.ownsRow B 5 1 v bs.length (byteCellsOf bs)
/-- row C holds n strings, the first k as f says, the others empty -/
def Strs (w : World) (C n k : Nat) (f : Nat → List UInt8) : Prop := w.rowIs C 9 n (fun i => if i < k then .string ⟨(f i).toArray⟩ else .string ⟨#[]⟩)

theorem Ybaf.info5' : (Ybaf.prog.info? 5).map (fun i => (i.zero, i.size, i.bytes)) = some (some (.int .u8 0), 1, 1) := by kernel_rfl

theorem Msg.alloc {B : Nat} {v : Value} {bs : List UInt8} {w : World} (h : Msg B v bs w) (o : Obj) : Msg B v bs (w.alloc o) := World.ownsRow.alloc h o
theorem Msg.nil (B : Nat) (w : World) : Msg B (.slice none 0 0) [] w := World.ownsRow_nil w B 5 1

/-- 'append(v, ys...)', v the call's own bytes, ys whatever bytes. -/
theorem wpList_msg {w : World} {ops : Array Oper} {rest : List Oper} {o : Oper} {a : Act} {Q : Exit → Act → World → Prop} (hgd : o.guard = none) (s x : Operand)
    (ho : o.op = .call { callee := .builtin .append, args := #[s, x], argTypes := #[22, 22] }) (B : Nat) (v : Value) (bs : List UInt8) (hs : a.eval s = v) (hM : Msg B v bs w)
    (ad : Addr) (ys : List UInt8) (c : Nat) (hx : a.eval x = .slice (some ad) ys.length c) (hc : ∀ j (hj : j < ys.length), w.cell? (ad.add j) = some (.int .u8 (ys[j].toNat : Int)))
    (hlen : bs.length + ys.length ≤ 1099511627776) (hB : B ≤ w.heap.size)
    (h : ∀ v' w', Msg B v' (bs ++ ys) w' → Below B w w' → wpList Ybaf.prog ops Q rest (a.put o.dst v') w') : wpList Ybaf.prog ops Q (o :: rest) a w := by
  obtain ⟨i0, hi, hz0, hz1, hz2⟩ := info_parts Ybaf.info5'
  refine wpList_append_own w hgd s x 22 ho B 5 i0 (.int .u8 0) 1 1 Ybaf.underlying22 hi hz0 hz1 hz2 rfl (by decide) v bs.length (byteCellsOf bs) hs hM ad ys.length c (byteCellsOf ys) hx (by simp [byteCellsOf]) ?_ ?_ (by unfold maxLen; omega) (by omega) hB ?_
  · intro j u hj
    simp only [byteCellsOf, List.getElem?_map] at hj
    obtain ⟨y, hy, rfl⟩ := Option.map_eq_some_iff.1 hj
    obtain ⟨hlt, rfl⟩ := List.getElem?_eq_some_iff.1 hy
    exact hc j hlt
  · intro u hu
    obtain ⟨y, _, rfl⟩ := List.mem_map.1 hu
    rfl
  · intro v' w' h1 h2 _
    refine h v' w' ?_ ((Below.refl _ _).grown h2 hB (fun k hk => (World.ownsRow.lt hM k hk).1))
    unfold Msg
    simpa [byteCellsOf] using h1

/-- 'append(v, b)' -/
theorem wpList_msg1 {w : World} {ops : Array Oper} {rest : List Oper} {o : Oper} {a : Act} {Q : Exit → Act → World → Prop} (hgd : o.guard = none) (s x : Operand)
    (ho : o.op = .call { callee := .builtin .append, args := #[s, x], argTypes := #[22, 22] }) (B : Nat) (v : Value) (bs : List UInt8) (hs : a.eval s = v) (hM : Msg B v bs w)
    (g : Nat) (b : UInt8) (c : Nat) (hx : a.eval x = .slice (some ⟨g, 0, none⟩) 1 c) (hc : w.cell? ⟨g, 0, none⟩ = some (.int .u8 (b.toNat : Int)))
    (hlen : bs.length + 1 ≤ 1099511627776) (hB : B ≤ w.heap.size)
    (h : ∀ v' w', Msg B v' (bs ++ [b]) w' → Below B w w' → wpList Ybaf.prog ops Q rest (a.put o.dst v') w') : wpList Ybaf.prog ops Q (o :: rest) a w := by
  refine wpList_msg hgd s x ho B v bs hs hM ⟨g, 0, none⟩ [b] c hx ?_ hlen hB h
  intro j hj
  simp at hj
  subst hj
  exact hc

/-- 'append(v, nil...)' -/
theorem wpList_msg0 {w : World} {ops : Array Oper} {rest : List Oper} {o : Oper} {a : Act} {Q : Exit → Act → World → Prop} (hgd : o.guard = none) (s x : Operand)
    (ho : o.op = .call { callee := .builtin .append, args := #[s, x], argTypes := #[22, 22] }) (B : Nat) (v : Value) (bs : List UInt8) (hs : a.eval s = v) (hM : Msg B v bs w) (hx : a.eval x = .slice none 0 0)
    (h : wpList Ybaf.prog ops Q rest (a.put o.dst v) w) : wpList Ybaf.prog ops Q (o :: rest) a w := by
  obtain ⟨i0, hi, _⟩ := info_parts Ybaf.info5'
  exact wpList_append_own_none hgd s x 22 ho B 5 i0 1 Ybaf.underlying22 hi v bs.length (byteCellsOf bs) hs hM hx h

theorem Msg.shape {B : Nat} {v : Value} {bs : List UInt8} {w : World} (h : Msg B v bs w) : (v = .slice none 0 0 ∧ bs = []) ∨
    ∃ g cap, v = .slice (some ⟨g, 0, none⟩) bs.length cap ∧ B ≤ g ∧ g < w.heap.size ∧ bs.length ≤ cap ∧ ∀ j (hj : j < bs.length), w.cell? ⟨g, j, none⟩ = some (.int .u8 (bs[j].toNat : Int)) := by
  have hlt := World.ownsRow.lt h
  rcases h with ⟨h1, ⟨rfl, h2⟩ | ⟨g, cap, cur, rfl, hg, hh, hc, hm, hs, ht⟩⟩
  · exact .inl ⟨rfl, List.eq_nil_of_length_eq_zero h2⟩
  · refine .inr ⟨g, cap, rfl, hg, (hlt g rfl).2, hc, ?_⟩
    intro j hj
    have hjc : cur[j]? = some (.int .u8 (bs[j].toNat : Int)) := by
      have e : (cur.toList.take (bs.length * 1))[j]? = (byteCellsOf bs)[j]? := by rw [ht]
      rw [List.getElem?_take_of_lt (by omega)] at e
      simpa [byteCellsOf, hj] using e
    simp [World.cell?, hh, hjc]

theorem Msg.conv {B : Nat} {v : Value} {bs : List UInt8} {w : World} (h : Msg B v bs w) : (convert 22 9 v).run Ybaf.prog w = .ok (.string ⟨bs.toArray⟩) w := by
  rcases h.shape with ⟨rfl, rfl⟩ | ⟨g, cap, rfl, _, _, _, hc⟩
  · exact Lib.run_convert_nil_bytes w 22 9 5 0 Ybaf.underlying22 Ybaf.underlying5 Ybaf.underlying9
  · refine run_convert_bytes_back w 22 9 5 ⟨g, 0, none⟩ cap bs Ybaf.underlying22 Ybaf.underlying5 Ybaf.underlying9 ?_
    intro j hj
    have e : (⟨g, 0, none⟩ : Addr).add j = ⟨g, j, none⟩ := by unfold Addr.add; split <;> simp_all
    rw [e]; exact hc j hj

theorem Msg.below {B K : Nat} {v : Value} {bs : List UInt8} {w w' : World} (h : Msg B v bs w) (hb : Below K w w') (hK : w.heap.size ≤ K) : Msg B v bs w' := by
  have hlt := World.ownsRow.lt h
  rcases h with ⟨h1, h2 | ⟨g, cap, cur, hv, hg, hh, r⟩⟩
  · exact ⟨h1, .inl h2⟩
  · refine ⟨h1, .inr ⟨g, cap, cur, hv, hg, ?_, r⟩⟩
    rw [hb.block g (by have := (hlt g (by rw [hv]; rfl)).2; omega)]; exact hh

theorem Msg.setBelow {B : Nat} {v : Value} {bs : List UInt8} {w : World} (h : Msg B v bs w) (c o : Nat) (hc : c < B) (u : Value) : Msg B v bs (w.setCell ⟨c, o, none⟩ u) := ownsRow_setCell_below h hc u

/-- 'append(v, ys...)', both the call's own. -/
theorem wpList_msgM {w : World} {ops : Array Oper} {rest : List Oper} {o : Oper} {a : Act} {Q : Exit → Act → World → Prop} (hgd : o.guard = none) (s x : Operand)
    (ho : o.op = .call { callee := .builtin .append, args := #[s, x], argTypes := #[22, 22] }) (B : Nat) (v : Value) (bs : List UInt8) (hs : a.eval s = v) (hM : Msg B v bs w)
    (B2 : Nat) (xv : Value) (ys : List UInt8) (hx : a.eval x = xv) (hX : Msg B2 xv ys w)
    (hlen : bs.length + ys.length ≤ 1099511627776) (hB : B ≤ w.heap.size)
    (h : ∀ v' w', Msg B v' (bs ++ ys) w' → Below B w w' → wpList Ybaf.prog ops Q rest (a.put o.dst v') w') : wpList Ybaf.prog ops Q (o :: rest) a w := by
  rcases hX.shape with ⟨rfl, rfl⟩ | ⟨g, cap, rfl, _, _, _, hc⟩
  · exact wpList_msg0 hgd s x ho B v bs hs hM hx (h v w (by simpa using hM) (Below.refl _ _))
  · refine wpList_msg hgd s x ho B v bs hs hM ⟨g, 0, none⟩ ys cap hx ?_ hlen hB h
    intro j hj
    have e : (⟨g, 0, none⟩ : Addr).add j = ⟨g, j, none⟩ := by unfold Addr.add; split <;> simp_all
    rw [e]; exact hc j hj

theorem Strs.cell {w : World} {C n k : Nat} {f : Nat → List UInt8} (h : Strs w C n k f) (hk : k < n) : w.cell? ⟨C, k, none⟩ = some (.string ⟨#[]⟩) := by
  have := World.rowIs.cell h hk
  simpa using this
theorem Strs.set {w : World} {C n k : Nat} {f : Nat → List UInt8} (h : Strs w C n k f) : Strs (w.setCell ⟨C, k, none⟩ (.string ⟨(f k).toArray⟩)) C n (k + 1) f := by
  refine (World.rowIs.set h k _).congr ?_
  intro i _
  by_cases h1 : i = k
  · subst h1; simp
  · by_cases h2 : i < k
    · simp [h1, h2, (by omega : i < k + 1)]
    · have h3 : ¬ i < k + 1 := by omega
      show (if i = k then _ else if i < k then _ else _) = if i < k + 1 then _ else _
      rw [if_neg h1, if_neg h2, if_neg h3]

theorem take_all (s : ByteArray) : s.data.toList.take s.size = s.data.toList := List.take_of_length_le (by simp)
theorem take_snoc (s : ByteArray) (k : Nat) (h : k < s.size) : s.data.toList.take (k + 1) = s.data.toList.take k ++ [s[k]] := by
  rw [List.take_succ_eq_append_getElem (by simpa using h)]; rfl
/-- the i-th name's bytes -/
def nmAt (ss : Nat → ByteArray) (i : Nat) : List UInt8 := clean (ss i).data.toList

def hdr (n : Nat) : List UInt8 := [UInt8.ofNat (n / 256), UInt8.ofNat n]
def names (ss : Nat → ByteArray) (t : Nat) : List (List UInt8) := (List.range t).map (nmAt ss)
theorem names_succ (ss : Nat → ByteArray) (t : Nat) : names ss (t + 1) = names ss t ++ [nmAt ss t] := by simp [names, List.range_succ]
theorem names_len (ss : Nat → ByteArray) (t : Nat) : (names ss t).length = t := by simp [names]

/-- the message ahead of column t, behind its name, behind its nought -/
def pre0 (n : Nat) (fb : Nat → UInt8) (ss : Nat → ByteArray) (t : Nat) : List UInt8 := hdr n ++ encs fb 0 (names ss t)
def pre1 (n : Nat) (fb : Nat → UInt8) (ss : Nat → ByteArray) (t : Nat) : List UInt8 := pre0 n fb ss t ++ nmAt ss t
def pre2 (n : Nat) (fb : Nat → UInt8) (ss : Nat → ByteArray) (t : Nat) : List UInt8 := pre1 n fb ss t ++ [0]
theorem pre_next (n : Nat) (fb : Nat → UInt8) (ss : Nat → ByteArray) (t : Nat) : pre2 n fb ss t ++ fills fb (18 * t) 18 = pre0 n fb ss (t + 1) := by
  simp [pre2, pre1, pre0, names_succ, encs_snoc, names_len]
theorem pre_len (n : Nat) (fb : Nat → UInt8) (ss : Nat → ByteArray) (t : Nat) (ht : t < 300) (hs : ∀ j, j ≤ t → (ss j).size ≤ 1024) : (pre0 n fb ss t).length ≤ 400000 ∧ (pre1 n fb ss t).length ≤ 500000 ∧ (pre2 n fb ss t).length ≤ 600000 := by
  have h1 := encs_len fb (names ss t) 0 (by
    intro c hc
    obtain ⟨j, hj, rfl⟩ := List.mem_map.1 hc
    simp at hj
    have h1 := clean_len (ss j).data.toList
    have h2 := hs j (by omega)
    have h3 : (ss j).data.toList.length = (ss j).size := by simp
    unfold nmAt; omega)
  rw [names_len] at h1
  have h1' := clean_len (ss t).data.toList
  have h2 := hs t (by omega)
  have h3 : (ss t).data.toList.length = (ss t).size := by simp
  have h4 : (nmAt ss t).length ≤ 1024 := by unfold nmAt; omega
  have h0 : (pre0 n fb ss t).length ≤ 400000 := by simp [pre0, hdr]; omega
  refine ⟨h0, by simp [pre1]; omega, by simp [pre2, pre1]; omega⟩

/-- what a round of the law's second loop knows -/
def Lp (w : World) (n : Nat) (fb : Nat → UInt8) (ss : Nat → ByteArray) (t : Nat) (msg : Value) (w' : World) : Prop :=
  Msg (w.heap.size + 1) msg (pre0 n fb ss t) w' ∧ Strs w' w.heap.size n t (nmAt ss) ∧ Below w.heap.size w w' ∧ w.heap.size + 1 ≤ w'.heap.size

theorem Lp.start (w : World) (n : Nat) (hn : n ≤ 300) (fb : Nat → UInt8) (ss : Nat → ByteArray) :
    Lp w n fb ss 0 (.slice (some ⟨w.heap.size + 1, 0, none⟩) 2 2) ((w.alloc (.cells (madeCells #[.string ⟨#[]⟩] n) 9)).alloc (.cells #[.int .u8 ((n : Int) / 256), .int .u8 ((n : Int) % 256)] 5)) := by
  refine ⟨?_, ?_, ?_, by simp⟩
  · have h := World.ownsRow_lit (base := w.heap.size + 1) (size := 1) (e := 5) (w.alloc (.cells (madeCells #[.string ⟨#[]⟩] n) 9)) #[.int .u8 ((n : Int) / 256), .int .u8 ((n : Int) % 256)] 2 (by simp) (by decide) (by simp)
    have e1 : (((UInt8.ofNat (n / 256)).toNat : Nat) : Int) = (n : Int) / 256 := by simp [UInt8.toNat_ofNat']; omega
    have e2 : (((UInt8.ofNat n).toNat : Nat) : Int) = (n : Int) % 256 := by simp [UInt8.toNat_ofNat']
    have e3 : byteCellsOf (pre0 n fb ss 0) = [.int .u8 ((n : Int) / 256), .int .u8 ((n : Int) % 256)] := by
      show [Value.int .u8 _, Value.int .u8 _] = _
      rw [e1, e2]
    unfold Msg
    rw [e3]
    simpa [pre0, hdr, names, encs] using h
  · exact ((World.rowIs_made w _ n 9).congr (by simp)).alloc _
  · exact ((Below.refl _ _).alloc (Nat.le_refl _) _).alloc (by simp) _

theorem names_get (ss : Nat → ByteArray) (n i : Nat) (hi : i < n) : (names ss n).getD i [] = nmAt ss i := by
  simp [names, List.getD, hi]

/-- What readColumns comes to on the law's message. -/
theorem rt_cols (F : Interp) (w : World) (n : Nat) (hn : n ≤ 300) (fb : Nat → UInt8) (ss : Nat → ByteArray) (hsz : ∀ j, j < n → (ss j).size ≤ 1024) (g cap : Nat) (w1 : World) (hL : Lp w n fb ss n (.slice (some ⟨g, 0, none⟩) (pre0 n fb ss n).length cap) w1) (hF : F.answers w.tape) :
    Calls Ybaf.prog 5 #[.pointer (some ⟨w1.heap.size, 0, none⟩)] (w1.alloc (.cells #[.int .u8 84, .slice (some ⟨g, 0, none⟩) (pre0 n fb ss n).length cap, .nilIface] 27)) fun e w' => ∃ C, e = .returned (.slice (some ⟨C, 0, none⟩) n n) ∧
      (∀ i, i < n → w'.cell? ⟨C, i, none⟩ = some (.string ⟨(nmAt ss i).toArray⟩)) ∧ (∀ i, i < n → w'.cell? ⟨w.heap.size, i, none⟩ = some (.string ⟨(nmAt ss i).toArray⟩)) ∧
      w'.cell? ⟨w1.heap.size, 0, none⟩ = some (.int .u8 84) ∧ (∃ a c, w'.cell? ⟨w1.heap.size, 1, none⟩ = some (.slice a 0 c)) ∧ w'.cell? ⟨w1.heap.size, 2, none⟩ = some .nilIface ∧ Below w.heap.size w w' := by
  obtain ⟨hM, hS, hB, hz⟩ := hL
  have hlen : (pre0 n fb ss n).length ≤ 400000 := by
    have h1 := encs_len fb (names ss n) 0 (by
      intro c hc
      obtain ⟨j, hj, rfl⟩ := List.mem_map.1 hc
      simp at hj
      have h1 := clean_len (ss j).data.toList
      have h2 := hsz j hj
      have h3 : (ss j).data.toList.length = (ss j).size := by simp
      unfold nmAt; omega)
    rw [names_len] at h1
    simp [pre0, hdr]; omega
  rcases hM.shape with ⟨h, _⟩ | ⟨g', cap', hv, hg, hgl, hc, hcell⟩
  · cases h
  cases hv
  have hst : St w1.heap.size g 84 (some (pre0 n fb ss n)) (w1.alloc (.cells #[.int .u8 84, .slice (some ⟨g, 0, none⟩) (pre0 n fb ss n).length cap, .nilIface] 27)) := by
    refine ⟨0, cap, by simp, by simp; omega, by omega, hc, by simp [go_sem], by simp [go_sem], by simp [go_sem], by simp [go_sem], by simp [go_sem], ?_⟩
    intro i hi
    rw [World.cell?_of_block (w := w1) (Below.heap_alloc _ _ _ hgl)]
    simpa using hcell i hi
  have hc1 := cols_any F w1.heap.size g 84 (pre0 n fb ss n) (by omega) _ (by show F.answers w1.tape; rw [hB.tape]; exact hF) hst (by simp; omega)
  have hcc : colCount (pre0 n fb ss n) = n := by
    unfold colCount
    show (rdInt (some (UInt8.ofNat (n / 256) :: UInt8.ofNat n :: encs fb 0 (names ss n)))).toNat = n
    rw [(head_read n hn _).1]; simp
  have hr2 : rdNext 2 (some (pre0 n fb ss n)) = some (encs fb 0 (names ss n)) := (head_read n hn _).2
  rw [hcc, hr2] at hc1
  obtain ⟨bk1, bk2⟩ := back fb (names ss n) 0 (by
    intro c hcm
    obtain ⟨j, _, rfl⟩ := List.mem_map.1 hcm
    exact clean_ne _)
  rw [names_len] at bk1 bk2
  refine hc1.mono ?_
  rintro e w' ⟨C, rfl, hR⟩
  obtain ⟨a, b, c, d, e', f, k, l, j⟩ := hR
  rw [bk1] at b
  obtain ⟨off, cap2, b1, b2, b3, b4, b5, b6, b7, b8, b9, b10⟩ := b
  have hBe : Below w.heap.size w w' := (hB.alloc (by omega) _).trans ((c.mono (by simp; omega)).below (by omega))
  refine ⟨C, rfl, ?_, ?_, b5, ⟨_, _, b6⟩, b7, hBe⟩
  · intro i hi
    have := World.rowIs.cell a hi
    simp only [hi, if_true] at this
    rw [this, bk2 i hi, names_get ss n i hi]
  · intro i hi
    have h1 := World.rowIs.cell hS hi
    simp only [hi, if_true] at h1
    rw [c.cell (p := ⟨w.heap.size, i, none⟩) (by simp; omega) (by show w.heap.size ≠ w1.heap.size; omega), World.cell?_of_block (w := w1) (Below.heap_alloc _ _ _ (by show w.heap.size < w1.heap.size; omega))]
    exact h1

set_option maxHeartbeats 2000000 in
set_option maxRecDepth 100000 in
theorem rt_main (F : Interp) (a0 : Option Addr) (n cap0 : Nat) (ss : Nat → ByteArray) (a1 : Option Addr) (len1 cap1 : Nat) (fl : Nat → UInt8) (w : World) (hF : F.answers w.tape) (hn : n ≤ 300)
    (hnm : ∀ i, i < n → ∃ b o, a0 = some ⟨b, o, none⟩ ∧ w.cell? ⟨b, o + i, none⟩ = some (.string (ss i)))
    (hfl : ∀ i, i < len1 → ∃ b o, a1 = some ⟨b, o, none⟩ ∧ w.cell? ⟨b, o + i, none⟩ = some (.int .u8 (fl i).toNat)) :
    Calls Ybaf.prog 4 #[.slice a0 n cap0, .slice a1 len1 cap1] w fun e w' => e = .returned (.bool true) ∧ Below w.heap.size w w' := by
  have NM : Hid (∀ i, i < n → ∃ b o, a0 = some ⟨b, o, none⟩ ∧ w.cell? ⟨b, o + i, none⟩ = some (.string (ss i))) := hnm
  have FL : Hid (∀ i, i < len1 → ∃ b o, a1 = some ⟨b, o, none⟩ ∧ w.cell? ⟨b, o + i, none⟩ = some (.int .u8 (fl i).toNat)) := hfl
  clear hnm hfl
  have hn' : ¬ (300 : Int) < (n : Int) := by omega
  have hmk := run_make_row' (P := Ybaf.prog) 28 9 (.string ⟨#[]⟩) 16 Ybaf.underlying28 Ybaf.info9 rfl .i64 .i64 n (by omega) (by omega)
  go_enter Ybaf.func4, Ybaf.ntmps4
  go_wp2_with fail
  go_loop [5] (fun x => ∃ k : Nat, k ≤ n ∧ x = .int .i64 k ∧ Hid (∀ j, j < k → (ss j).size ≤ 1024)) (fun x => n - (intOf x).toNat)
  case atStart => exact ⟨0, by omega, rfl, fun j hj => by omega⟩
  case round =>
    obtain ⟨k, hk, rfl, hsz⟩ := hrel
    by_cases hkn : k < n
    · obtain ⟨bn, on, rfl, hc⟩ := NM.out k hkn
      have hlt : (k : Int) < (n : Int) := by omega
      have h00 : (0 : Int) ≤ (k : Int) := by omega
      by_cases hbig : 1024 < (ss k).size
      · have hbig' : (1024 : Int) < ((ss k).size : Int) := by omega
        go_wp2_with fail
        go_ret
        exact ⟨rfl, Below.refl _ _⟩
      · have hbig' : ¬ (1024 : Int) < ((ss k).size : Int) := by omega
        go_wp2_with fail
        go_round
        case rel => exact ⟨k + 1, by omega, by go_num, fun j hj => by by_cases e : j = k; (subst e; omega); exact hsz.out j (by omega)⟩
        case measure => simp [intOf]; omega
    · obtain rfl : n = k := by omega
      go_wp2_with fail
      have hst := Lp.start w n hn (fun k => if len1 = 0 then UInt8.ofNat k else fl (k % len1)) ss
      obtain ⟨fb, hfb⟩ : ∃ fb : Nat → UInt8, fb = (fun k => if len1 = 0 then UInt8.ofNat k else fl (k % len1)) := ⟨_, rfl⟩
      rw [← hfb] at hst
      have FB : Hid (fb = (fun k => if len1 = 0 then UInt8.ofNat k else fl (k % len1))) := hfb
      clear hfb
      go_loopw [7, 8, 9] (fun msg kk i w' => ∃ t : Nat, t ≤ n ∧ i = .int .i64 t ∧ kk = .int .i64 (18 * (t : Int)) ∧ Lp w n fb ss t msg w') (fun _ _ i _ => n - (intOf i).toNat)
      case atStart => exact ⟨0, by omega, rfl, rfl, hst⟩
      case round =>
        clear hst
        obtain ⟨w1, hw1⟩ : ∃ w1, w1 = wr := ⟨_, rfl⟩
        subst hw1
        obtain ⟨t, ht, rfl, rfl, hL⟩ := hrel
        by_cases htn : t < n
        · obtain ⟨bn, on, rfl, hc⟩ := NM.out t htn
          have hlt : (t : Int) < (n : Int) := by omega
          have h00 : (0 : Int) ≤ (t : Int) := by omega
          have hbd : (ss t).size ≤ 1024 := hsz.out t htn
          have hc' : w1.cell? ⟨bn, on + t, none⟩ = some (.string (ss t)) := cell_later hL.2.2.1 hc
          go_wp2_with fail
          go_loopw [10, 12] (fun nb j w' => ∃ q : Nat, q ≤ (ss t).size ∧ j = .int .i64 q ∧ Msg w1.heap.size nb (clean ((ss t).data.toList.take q)) w' ∧ Below w1.heap.size w1 w') (fun _ j _ => (ss t).size - (intOf j).toNat)
          case atStart => exact ⟨0, by omega, rfl, Msg.nil _ _, Below.refl _ _⟩
          case round =>
            obtain ⟨q, hq, rfl, hM, hB⟩ := hrel
            obtain ⟨w2, hw2⟩ : ∃ w2, w2 = wr := ⟨_, rfl⟩
            subst hw2
            by_cases hqs : q < (ss t).size
            · have hqs' : (q : Int) < ((ss t).size : Int) := by omega
              have q00 : (0 : Int) ≤ (q : Int) := by omega
              have hsn : Hid ((ss t).data.toList.take (q + 1) = (ss t).data.toList.take q ++ [(ss t)[q]]) := take_snoc (ss t) q hqs
              have hMl : (clean ((ss t).data.toList.take q)).length ≤ 1099511627775 := by
                have := clean_len ((ss t).data.toList.take q)
                have h2 : ((ss t).data.toList.take q).length ≤ q := List.length_take_le _ _
                have h3 := hsz.out t htn
                omega
              have hB2 := hB.size
              by_cases hzero : (ss t)[q] = 0
              · have hz : (((ss t)[q].toNat : Int) != 0) = false := by rw [hzero]; rfl
                have HM : Hid (clean ((ss t).data.toList.take (q + 1)) = clean ((ss t).data.toList.take q)) := by rw [Hid, hsn.out, clean_snoc, if_pos hzero]
                have HZ : Hid ((ss t)[q] = 0) := hzero
                clear hzero
                go_wp2_with fail
                go_roundw
                case rel => exact ⟨q + 1, by omega, by go_num, by rw [HM.out]; exact hM, hB⟩
                case measure => simp [intOf]; omega
              · have hz : (((ss t)[q].toNat : Int) != 0) = true := by
                  rw [bne_iff_ne]
                  intro e
                  apply hzero
                  apply UInt8.toNat_inj.1
                  simpa using e
                have HM : Hid (clean ((ss t).data.toList.take (q + 1)) = clean ((ss t).data.toList.take q) ++ [(ss t)[q]]) := by rw [Hid, hsn.out, clean_snoc, if_neg hzero]
                clear hzero
                go_wp2_with (at_builtin; refine wpList_msg1 rfl _ _ rfl w1.heap.size _ (clean (List.take q (ss t).data.toList)) rfl (hM.alloc _) w2.heap.size ((ss t)[q]) 1 rfl ?apC ?apL ?apB ?apH)
                case apC => simp [go_sem]
                case apL => omega
                case apB => simp; omega
                intro nb' w3 hM3 hB3
                go_wp2_with fail
                go_roundw
                case rel => exact ⟨q + 1, by omega, by go_num, by rw [HM.out]; exact hM3, (hB.alloc hB2 _).trans hB3⟩
                case measure => simp [intOf]; omega
            · obtain rfl : q = (ss t).size := by omega
              have hMf : Msg w1.heap.size u10 (nmAt ss t) w2 := by
                rw [take_all] at hM; exact hM
              have hcv := hMf.conv
              have hlw := hL.2.2.2
              have hsw : Strs w2 w.heap.size n t (nmAt ss) := World.rowIs.of_block hL.2.1 (hB.block _ (by omega))
              have kc := hsw.cell htn
              have kf := World.rowIs.frozen hsw t
              have hB2 := hB.size
              have HL : Hid (Lp w n fb ss t u7 w1) := hL
              have m1 : Msg (w.heap.size + 1) u7 (pre0 n fb ss t) (w2.setCell ⟨w.heap.size, t, none⟩ (.string ⟨(nmAt ss t).toArray⟩)) := (hL.1.below hB (Nat.le_refl _)).setBelow _ _ (by omega) _
              have m2 : Msg w1.heap.size u10 (nmAt ss t) (w2.setCell ⟨w.heap.size, t, none⟩ (.string ⟨(nmAt ss t).toArray⟩)) := hMf.setBelow _ _ (by omega) _
              clear hL hM
              go_wp2_with (at_builtin; refine wpList_msgM rfl _ _ rfl (w.heap.size + 1) _ (pre0 n fb ss t) rfl m1 w1.heap.size _ (nmAt ss t) rfl m2 ?apL2 ?apB2 ?apH2)
              case apL2 =>
                have := (pre_len n fb ss t (by omega) (fun j hj => hsz.out j (by omega))).2.1
                simp [pre1] at this
                omega
              case apB2 => simp [World.setCell]; omega
              intro v3 w3 m3' hB3
              have m3 : Msg (w.heap.size + 1) v3 (pre1 n fb ss t) w3 := m3'
              clear m3'
              have hs3 := hB3.size
              go_wp2_with (at_builtin; refine wpList_msg1 rfl _ _ rfl (w.heap.size + 1) _ (pre1 n fb ss t) rfl (m3.alloc _) w3.heap.size 0 1 rfl ?apC3 ?apL3 ?apB3 ?apH3)
              case apC3 => simp [go_sem]
              case apL3 =>
                have := (pre_len n fb ss t (by omega) (fun j hj => hsz.out j (by omega))).2.1
                omega
              case apB3 => simp [World.setCell] at hs3 ⊢; omega
              intro v4 w4 m4' hB4
              have m4 : Msg (w.heap.size + 1) v4 (pre2 n fb ss t) w4 := m4'
              clear m4'
              have hs4 := hB4.size
              have hpl := (pre_len n fb ss t (by omega) (fun j hj => hsz.out j (by omega))).2.2
              have hW4 : Below w.heap.size w w4 := by
                have b1 : Below w.heap.size w (w2.setCell ⟨w.heap.size, t, none⟩ (.string ⟨(nmAt ss t).toArray⟩)) := (HL.out.2.2.1.trans (hB.mono (by omega))).setCell (Nat.le_refl _) _
                have b2 := b1.trans (hB3.mono (by omega))
                have b3 := (b2.alloc (by simp [World.setCell] at hs3; omega) (.cells #[.int .u8 0] 5)).trans (hB4.mono (by omega))
                exact b3
              have hS4 : Strs w4 w.heap.size n (t + 1) (nmAt ss) := by
                have z1 : Strs w3 w.heap.size n (t + 1) (nmAt ss) := World.rowIs.of_block hsw.set (hB3.block _ (by omega))
                exact World.rowIs.of_block (World.rowIs.alloc z1 _) (hB4.block _ (by omega))
              have hz4 : w.heap.size + 1 ≤ w4.heap.size := by
                have := hB3.size
                have := hB4.size
                simp [World.setCell] at *
                omega
              clear hs3 hs4 hB3 hB4 m1 m2 m3 hcv kc kf hc' hMf hB
              go_wp2_with fail
              go_loopw [7, 8, 13] (fun msg kk j w' => ∃ r m : Nat, r ≤ 18 ∧ j = .int .i64 r ∧ m ≤ 10000 ∧ Hid (m = 18 * t + r) ∧ kk = .int .i64 m ∧ Msg (w.heap.size + 1) msg (pre2 n fb ss t ++ fills fb (18 * t) r) w' ∧ Below (w.heap.size + 1) w4 w') (fun _ _ j _ => 18 - (intOf j).toNat)
              case atStart => exact ⟨0, 18 * t, by omega, rfl, by omega, rfl, by go_num, by simpa [fills] using m4, Below.refl _ _⟩
              case round =>
                obtain ⟨w5, hw5⟩ : ∃ w5, w5 = wr := ⟨_, rfl⟩
                subst hw5
                obtain ⟨r, m, hr, rfl, hm, HM, rfl, m5, hB5⟩ := hrel
                have hs5 := hB5.size
                have hfl : (pre2 n fb ss t ++ fills fb (18 * t) r).length ≤ 700000 := by simp [fills_len]; omega
                have hSUC : Hid (pre2 n fb ss t ++ fills fb (18 * t) r ++ [fb (18 * t + r)] = pre2 n fb ss t ++ fills fb (18 * t) (r + 1)) := by rw [Hid, fills_succ, List.append_assoc]
                by_cases hr18 : r < 18
                · have hr18' : (r : Int) < 18 := by omega
                  by_cases hl0 : len1 = 0
                  · have hfb1 : (m : Int) % 256 = ((fb (18 * t + r)).toNat : Int) := by
                      rw [FB.out, ← HM.out]
                      simp [hl0, UInt8.toNat_ofNat']
                    have HFB : Hid ((m : Int) % 256 = ((fb (18 * t + r)).toNat : Int)) := hfb1
                    have hl0' : ¬ (0 : Int) < (len1 : Int) := by omega
                    clear hl0 hfb1
                    go_wp2_with (at_builtin; refine wpList_msg1 rfl _ _ rfl (w.heap.size + 1) _ (pre2 n fb ss t ++ fills fb (18 * t) r) rfl (m5.alloc _) w5.heap.size (fb (18 * t + r)) 1 rfl ?apC6 ?apL6 ?apB6 ?apH6)
                    case apC6 =>
                      rw [← HFB.out]
                      try simp [go_sem]
                    case apL6 =>
                      have := fills_len fb (18 * t) r
                      omega
                    case apB6 =>
                      try simp
                      omega
                    intro v6 w6 m6' hB6
                    have m6 : Msg (w.heap.size + 1) v6 (pre2 n fb ss t ++ fills fb (18 * t) (r + 1)) w6 := by rw [← hSUC.out]; simpa using m6'
                    clear m6'
                    go_wp2_with fail
                    go_roundw
                    case rel => exact ⟨r + 1, m + 1, by omega, by go_num, by have := HM.out; omega, by have := HM.out; show m + 1 = _; omega, by go_num, m6, (hB5.alloc (by omega) _).trans hB6⟩
                    case measure => simp [intOf]; omega
                  · have hl0' : (0 : Int) < (len1 : Int) := by omega
                    have hmod : m % len1 < len1 := Nat.mod_lt _ (by omega)
                    obtain ⟨bf, of, rfl, hcf⟩ := FL.out (m % len1) hmod
                    have hcf' : w5.cell? ⟨bf, of + m % len1, none⟩ = some (.int .u8 (fl (m % len1)).toNat) := cell_later (hW4.trans (hB5.mono (by omega))) hcf
                    have hfb1 : fl (m % len1) = fb (18 * t + r) := by
                      rw [FB.out, ← HM.out]
                      simp [hl0]
                    have HFB : Hid (fl (m % len1) = fb (18 * t + r)) := hfb1
                    clear hfb1
                    go_wp2_with (at_builtin; refine wpList_msg1 rfl _ _ rfl (w.heap.size + 1) _ (pre2 n fb ss t ++ fills fb (18 * t) r) rfl (m5.alloc _) w5.heap.size (fb (18 * t + r)) 1 rfl ?apC7 ?apL7 ?apB7 ?apH7)
                    case apC7 =>
                      rw [← HFB.out]
                      try simp [go_sem]
                    case apL7 =>
                      have := fills_len fb (18 * t) r
                      omega
                    case apB7 =>
                      try simp
                      omega
                    intro v6 w6 m6' hB6
                    have m6 : Msg (w.heap.size + 1) v6 (pre2 n fb ss t ++ fills fb (18 * t) (r + 1)) w6 := by rw [← hSUC.out]; simpa using m6'
                    clear m6'
                    go_wp2_with fail
                    go_roundw
                    case rel => exact ⟨r + 1, m + 1, by omega, by go_num, by have := HM.out; omega, by have := HM.out; show m + 1 = _; omega, by go_num, m6, (hB5.alloc (by omega) _).trans hB6⟩
                    case measure => simp [intOf]; omega
                · obtain rfl : r = 18 := by omega
                  have hLn : Lp w n fb ss (t + 1) u7 w5 := ⟨by rw [← pre_next]; exact m5, World.rowIs.of_block hS4 (hB5.block _ (by omega)), hW4.trans (hB5.mono (by omega)), by omega⟩
                  go_wp2_with fail
                  go_roundw
                  case rel => exact ⟨t + 1, by omega, by go_num, by have := HM.out; congr 1; omega, hLn⟩
                  case measure => simp [intOf]; omega
        · obtain rfl : n = t := by omega
          have hnt : ¬ (n : Int) < (n : Int) := by omega
          have hLc := hL
          rcases hL.1.shape with ⟨_, h0⟩ | ⟨g, cap, rfl, _, _, _, _⟩
          · simp [pre0, hdr] at h0
          have hcall := rt_cols F w n hn fb ss hsz.out g cap w1 hLc hF
          have HC : Hid (Calls Ybaf.prog 5 #[.pointer (some ⟨w1.heap.size, 0, none⟩)] (w1.alloc (.cells #[.int .u8 84, .slice (some ⟨g, 0, none⟩) (pre0 n fb ss n).length cap, .nilIface] 27)) fun e w' => ∃ C, e = .returned (.slice (some ⟨C, 0, none⟩) n n) ∧
            (∀ i, i < n → w'.cell? ⟨C, i, none⟩ = some (.string ⟨(nmAt ss i).toArray⟩)) ∧ (∀ i, i < n → w'.cell? ⟨w.heap.size, i, none⟩ = some (.string ⟨(nmAt ss i).toArray⟩)) ∧
            w'.cell? ⟨w1.heap.size, 0, none⟩ = some (.int .u8 84) ∧ (∃ a c, w'.cell? ⟨w1.heap.size, 1, none⟩ = some (.slice a 0 c)) ∧ w'.cell? ⟨w1.heap.size, 2, none⟩ = some .nilIface ∧ Below w.heap.size w w') := hcall
          clear hcall hLc hL
          go_wp2_with fail
          refine Calls.mono HC.out ?_
          rintro e w2 ⟨C, rfl, x1, x2, x3, ⟨xa, xc, x4⟩, x5, x6⟩
          clear HC
          have X1 : Hid (∀ i, i < n → w2.cell? ⟨C, i, none⟩ = some (.string ⟨(nmAt ss i).toArray⟩)) := x1
          have X2 : Hid (∀ i, i < n → w2.cell? ⟨w.heap.size, i, none⟩ = some (.string ⟨(nmAt ss i).toArray⟩)) := x2
          clear x1 x2
          go_wp2_with fail
          go_loopw [16] (fun i w' => ∃ k q : Nat, k ≤ n ∧ i = .int .i64 k ∧ w' = w2.drewN q) (fun i _ => n - (intOf i).toNat)
          case atStart => exact ⟨0, 0, by omega, rfl, rfl⟩
          case round =>
            obtain ⟨k, q, hk, rfl, rfl⟩ := hrel
            by_cases hkn : k < n
            · have hlt : (k : Int) < (n : Int) := by omega
              have h00 : (0 : Int) ≤ (k : Int) := by omega
              have y1 := X1.out k hkn
              have y2 := X2.out k hkn
              go_wp2_with fail
              go_quiet (fail)
              go_wp2_with fail
              go_roundw
              case rel => exact ⟨k + 1, _, by omega, by go_num, rfl⟩
              case measure => simp [intOf]; omega
            · have hlt : ¬ (k : Int) < (n : Int) := by omega
              go_wp2_with fail
              go_ret
              exact ⟨rfl, below_drewN x6 _⟩
end Go.Proofs.YbulkcijwFmt
