import Derived.Test.YbulkcijwFmtNext
import Derived.Lib.EndianBits
namespace Go.Proofs.YbulkcijwFmt
open Go.RowKit Go.Extern.Stop Go.Stop Go.Extern

/-- Below block B all is as it was, but block b. -/
structure Side (B b : Nat) (w w' : World) : Prop where
  os : w'.os = w.os
  tape : w'.tape = w.tape
  output : w'.output = w.output
  size : w.heap.size ≤ w'.heap.size
  block : ∀ k, k < B → k ≠ b → w'.heap[k]? = w.heap[k]?

theorem Side.refl (B b : Nat) (w : World) : Side B b w w := ⟨rfl, rfl, rfl, Nat.le_refl _, fun _ _ _ => rfl⟩
theorem Side.trans {B b : Nat} {w w1 w2 : World} (h : Side B b w w1) (k : Side B b w1 w2) : Side B b w w2 :=
  ⟨k.os.trans h.os, k.tape.trans h.tape, k.output.trans h.output, Nat.le_trans h.size k.size, fun i hi hb => (k.block i hi hb).trans (h.block i hi hb)⟩
theorem Side.mono {B B' b : Nat} {w w1 : World} (h : Side B b w w1) (hB : B' ≤ B) : Side B' b w w1 :=
  ⟨h.os, h.tape, h.output, h.size, fun k hk => h.block k (by omega)⟩
theorem Side.ofBelow {B b : Nat} {w w1 : World} (h : Below B w w1) : Side B b w w1 := ⟨h.os, h.tape, h.output, h.size, fun k hk _ => h.block k hk⟩
theorem Side.setCell {B b : Nat} {w w1 : World} (h : Side B b w w1) (o : Nat) (v : Value) : Side B b w (w1.setCell ⟨b, o, none⟩ v) :=
  h.trans ⟨rfl, rfl, rfl, by simp [World.setCell], fun k _ hb => Below.heap_setCell _ _ _ _ hb⟩
theorem Side.setNew {B b : Nat} {w w1 : World} (h : Side B b w w1) (c o : Nat) (hc : B ≤ c) (v : Value) : Side B b w (w1.setCell ⟨c, o, none⟩ v) :=
  h.trans ⟨rfl, rfl, rfl, by simp [World.setCell], fun k hk _ => Below.heap_setCell _ _ _ _ (by show k ≠ c; omega)⟩
theorem Side.alloc {B b : Nat} {w w1 : World} (h : Side B b w w1) (hB : B ≤ w1.heap.size) (o : Obj) : Side B b w (w1.alloc o) :=
  h.trans ⟨rfl, rfl, rfl, by simp, fun k hk _ => Below.heap_alloc _ _ _ (by omega)⟩
theorem Side.drew {B b : Nat} {w w1 : World} (h : Side B b w w1) : Side B b w w1.drew := ⟨h.os, h.tape, h.output, h.size, h.block⟩
/-- The block b itself is new: nothing old has turned. -/
theorem Side.below {B b : Nat} {w w1 : World} (h : Side B b w w1) (hb : B ≤ b) : Below B w w1 := ⟨h.os, h.tape, h.output, h.size, fun k hk => h.block k hk (by omega)⟩
theorem Side.cell {B b : Nat} {w w1 : World} (h : Side B b w w1) {p : Addr} (hp : p.block < B) (hb : p.block ≠ b) : w1.cell? p = w.cell? p := World.cell?_of_block (w := w) (h.block _ hp hb)

/-- The reply at block rb holds the bytes bs (in block G), and no error. -/
def At (rb G : Nat) (kind : Int) (off cap : Nat) (bs : List UInt8) (w : World) : Prop :=
  rb < w.heap.size ∧ G < w.heap.size ∧ G ≠ rb ∧ bs.length ≤ cap ∧ w.cell? ⟨rb, 0, none⟩ = some (.int .u8 kind) ∧ w.cell? ⟨rb, 1, none⟩ = some (.slice (some ⟨G, off, none⟩) bs.length cap) ∧ w.cell? ⟨rb, 2, none⟩ = some .nilIface ∧
  w.frozen? ⟨rb, 1, none⟩ = false ∧ w.frozen? ⟨rb, 2, none⟩ = false ∧ ∀ i (h : i < bs.length), w.cell? ⟨G, off + i, none⟩ = some (.int .u8 bs[i].toNat)

/-- The reply at block rb holds an error, and no bytes. -/
def Dead (rb : Nat) (kind : Int) (w : World) : Prop :=
  rb < w.heap.size ∧ w.cell? ⟨rb, 0, none⟩ = some (.int .u8 kind) ∧ w.cell? ⟨rb, 1, none⟩ = some (.slice none 0 0) ∧ (∃ t x, w.cell? ⟨rb, 2, none⟩ = some (.iface t x)) ∧
  w.frozen? ⟨rb, 1, none⟩ = false ∧ w.frozen? ⟨rb, 2, none⟩ = false

def St (rb G : Nat) (kind : Int) (st : Option (List UInt8)) (w : World) : Prop :=
  match st with
  | none => Dead rb kind w
  | some bs => ∃ off cap, At rb G kind off cap bs w

theorem addr_ne {b o c p : Nat} (h : b ≠ c ∨ o ≠ p) : (⟨b, o, none⟩ : Addr) ≠ ⟨c, p, none⟩ := by
  intro e
  cases e
  simp at h

theorem At.lt {rb G : Nat} {kind : Int} {off cap : Nat} {bs : List UInt8} {w : World} (h : At rb G kind off cap bs w) : rb < w.heap.size := h.1
theorem St.lt {rb G : Nat} {kind : Int} {st : Option (List UInt8)} {w : World} (h : St rb G kind st w) : rb < w.heap.size := by
  cases st with
  | none => exact h.1
  | some bs => obtain ⟨_, _, h⟩ := h; exact h.1

/-- The state lives on where its two blocks do. -/
theorem St.keep {rb G : Nat} {kind : Int} {st : Option (List UInt8)} {w w' : World} (h : St rb G kind st w) (hs : w.heap.size ≤ w'.heap.size) (h1 : w'.heap[rb]? = w.heap[rb]?) (h2 : w'.heap[G]? = w.heap[G]?) : St rb G kind st w' := by
  have c1 : ∀ o, w'.cell? ⟨rb, o, none⟩ = w.cell? ⟨rb, o, none⟩ := fun o => World.cell?_of_block (w := w) h1
  have c2 : ∀ o, w'.cell? ⟨G, o, none⟩ = w.cell? ⟨G, o, none⟩ := fun o => World.cell?_of_block (w := w) h2
  have f1 : ∀ o, w'.frozen? ⟨rb, o, none⟩ = w.frozen? ⟨rb, o, none⟩ := fun o => World.frozen?_of_block (w := w) h1
  cases st with
  | none =>
    obtain ⟨a, b, c, d, e, f⟩ := h
    exact ⟨by omega, by rw [c1]; exact b, by rw [c1]; exact c, by rw [c1]; exact d, by rw [f1]; exact e, by rw [f1]; exact f⟩
  | some bs =>
    obtain ⟨off, cap, a, a2, a3, b, c, d, e, f, g, k⟩ := h
    exact ⟨off, cap, by omega, by omega, a3, b, by rw [c1]; exact c, by rw [c1]; exact d, by rw [c1]; exact e, by rw [f1]; exact f, by rw [f1]; exact g, fun i hi => by rw [c2]; exact k i hi⟩

/-- The body cut at n. -/
theorem adv {rb G : Nat} {kind : Int} {off cap : Nat} {bs : List UInt8} {n : Nat} {w : World} (h : At rb G kind off cap bs w) (hn : n ≤ bs.length) (off' : Nat) (ho : n < bs.length → off' = off + n) :
    St rb G kind (some (bs.drop n)) (w.setCell ⟨rb, 1, none⟩ (.slice (some ⟨G, off', none⟩) (bs.length - n) (cap - n))) := by
  obtain ⟨a, a2, a3, b, c, d, e, f, g, k⟩ := h
  have cG : ∀ o v, (w.setCell ⟨rb, 1, none⟩ v).cell? ⟨G, o, none⟩ = w.cell? ⟨G, o, none⟩ := fun o v => World.cell?_setCell_other _ _ _ _ (addr_ne (.inl (Ne.symm a3)))
  refine ⟨off', cap - n, by simpa [World.setCell] using a, by simpa [World.setCell] using a2, a3, by simp; omega, ?_, ?_, ?_, by simpa using f, by simpa using g, ?_⟩
  · rw [World.cell?_setCell_other _ _ _ _ (addr_ne (.inr (by decide)))]; exact c
  · rw [World.cell?_setCell_same _ _ _ d]
    simp
  · rw [World.cell?_setCell_other _ _ _ _ (addr_ne (.inr (by decide)))]; exact e
  · intro i hi
    rw [cG]
    simp at hi
    rw [ho (by omega), Nat.add_assoc, k (n + i) (by omega)]
    simp

/-- 'r.next(n)' where there are n bytes. -/
theorem next_at (rb G : Nat) (kind : Int) (off cap : Nat) (bs : List UInt8) (n : Nat) (w : World) (h : At rb G kind off cap bs w) (hn : n ≤ bs.length) :
    Calls Ybaf.prog 9 #[.pointer (some ⟨rb, 0, none⟩), .int .i64 n] w fun e w' => e = .returned (.slice (some ⟨G, off, none⟩) n cap) ∧ St rb G kind (some (bs.drop n)) w' ∧ Side w.heap.size rb w w' ∧
      (∀ i (h : i < bs.length), w'.cell? ⟨G, off + i, none⟩ = some (.int .u8 bs[i].toNat)) := by
  have h' := h
  obtain ⟨a, a2, a3, b, c, d, e, f, g, k⟩ := h
  refine (next_ok rb G off n bs.length cap w hn b d f).mono ?_
  rintro e' w' ⟨rfl, rfl⟩
  refine ⟨rfl, ?_, (Side.refl _ _ _).setCell _ _, ?_⟩
  · split
    · exact adv h' hn off (fun hh => by omega)
    · exact adv h' hn (off + n) (fun hh => rfl)
  · intro i hi
    rw [World.cell?_setCell_other _ _ _ _ (addr_ne (.inl (Ne.symm a3)))]
    exact k i hi

theorem dead_after {rb : Nat} {kind : Int} {w w1 : World} {v1 v2 : Value} (hB : Below w.heap.size w w1) (hlt : rb < w.heap.size) (h0 : w.cell? ⟨rb, 0, none⟩ = some (.int .u8 kind)) (h1 : w.cell? ⟨rb, 1, none⟩ = some v1) (h2 : w.cell? ⟨rb, 2, none⟩ = some v2)
    (f1 : w.frozen? ⟨rb, 1, none⟩ = false) (f2 : w.frozen? ⟨rb, 2, none⟩ = false) (t : TypeId) (x : Value) :
    Dead rb kind ((w1.setCell ⟨rb, 2, none⟩ (.iface t x)).setCell ⟨rb, 1, none⟩ (.slice none 0 0)) ∧ Side w.heap.size rb w ((w1.setCell ⟨rb, 2, none⟩ (.iface t x)).setCell ⟨rb, 1, none⟩ (.slice none 0 0)) := by
  have k0 : w1.cell? ⟨rb, 0, none⟩ = some (.int .u8 kind) := by rw [hB.cell (p := ⟨rb, 0, none⟩) hlt]; exact h0
  have k1 : w1.cell? ⟨rb, 1, none⟩ = some v1 := by rw [hB.cell (p := ⟨rb, 1, none⟩) hlt]; exact h1
  have k2 : w1.cell? ⟨rb, 2, none⟩ = some v2 := by rw [hB.cell (p := ⟨rb, 2, none⟩) hlt]; exact h2
  have g1 : w1.frozen? ⟨rb, 1, none⟩ = false := by rw [hB.frozen (p := ⟨rb, 1, none⟩) hlt]; exact f1
  have g2 : w1.frozen? ⟨rb, 2, none⟩ = false := by rw [hB.frozen (p := ⟨rb, 2, none⟩) hlt]; exact f2
  have hs := hB.size
  refine ⟨⟨by simp [World.setCell]; omega, ?_, ?_, ⟨t, x, ?_⟩, by simpa using g1, by simpa using g2⟩, ((Side.ofBelow hB).setCell _ _).setCell _ _⟩
  · rw [World.cell?_setCell_other _ _ _ _ (addr_ne (.inr (by decide))), World.cell?_setCell_other _ _ _ _ (addr_ne (.inr (by decide)))]; exact k0
  · refine World.cell?_setCell_same _ _ _ (u := v1) ?_
    rw [World.cell?_setCell_other _ _ _ _ (addr_ne (.inr (by decide)))]; exact k1
  · rw [World.cell?_setCell_other _ _ _ _ (addr_ne (.inr (by decide)))]
    exact World.cell?_setCell_same _ _ _ k2

def rdNext (n : Nat) (st : Option (List UInt8)) : Option (List UInt8) :=
  match st with
  | none => none
  | some bs => if n ≤ bs.length then some (bs.drop n) else none

/-- 'r.next(n)', n > 0, in whatever state. -/
theorem next_st (F : Interp) (rb G : Nat) (kind : Int) (st : Option (List UInt8)) (n : Nat) (hn : 0 < n) (w : World) (hF : F.answers w.tape) (h : St rb G kind st w) :
    Calls Ybaf.prog 9 #[.pointer (some ⟨rb, 0, none⟩), .int .i64 n] w fun e w' => (∃ v, e = .returned v) ∧ St rb G kind (rdNext n st) w' ∧ Side w.heap.size rb w w' := by
  cases st with
  | none =>
    obtain ⟨a, b, c, ⟨t, x, d⟩, e, f⟩ := h
    refine (next_dead F rb kind n 0 0 none _ w hF hn b c d e f a).mono ?_
    rintro e' w' ⟨rfl, t', x', w1, hB, rfl⟩
    obtain ⟨p, q⟩ := dead_after hB a b c d e f t' x'
    exact ⟨⟨_, rfl⟩, p, q⟩
  | some bs =>
    obtain ⟨off, cap, h⟩ := h
    by_cases hl : n ≤ bs.length
    · refine (next_at rb G kind off cap bs n w h hl).mono ?_
      rintro e' w' ⟨rfl, p, q, _⟩
      exact ⟨⟨_, rfl⟩, by simpa [rdNext, hl] using p, q⟩
    · obtain ⟨a, a2, a3, b, c, d, e, f, g, k⟩ := h
      refine (next_dead F rb kind n bs.length cap _ _ w hF (by omega) c d e f g a).mono ?_
      rintro e' w' ⟨rfl, t', x', w1, hB, rfl⟩
      obtain ⟨p, q⟩ := dead_after hB a c d e f g t' x'
      exact ⟨⟨_, rfl⟩, by rw [show rdNext n (some bs) = none by simp [rdNext, hl]]; exact p, q⟩
end Go.Proofs.YbulkcijwFmt
