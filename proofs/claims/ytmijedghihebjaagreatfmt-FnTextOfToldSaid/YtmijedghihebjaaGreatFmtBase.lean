/- Plain lemmas on worlds: which blocks a piece of code has changed ('Chg'), what a block holds behind a store. -/
import Derived.WalkKit
import Derived.Deep.Draws
namespace Go.Proofs.YtmijedghihebjaaGreatFmt
open Go.RowKit

/-- Between w and w' only the blocks in M (and new ones) have changed. -/
structure Chg (M : Nat → Prop) (w w' : World) : Prop where
  os : w'.os = w.os
  tape : w'.tape = w.tape
  output : w'.output = w.output
  size : w.heap.size ≤ w'.heap.size
  block : ∀ k, k < w.heap.size → ¬ M k → w'.heap[k]? = w.heap[k]?

section
variable {M M' : Nat → Prop} {w w' w'' : World}

theorem Chg.refl (M : Nat → Prop) (w : World) : Chg M w w := ⟨rfl, rfl, rfl, Nat.le_refl _, fun _ _ _ => rfl⟩
theorem Chg.trans (h : Chg M w w') (k : Chg M w' w'') : Chg M w w'' :=
  ⟨k.os.trans h.os, k.tape.trans h.tape, k.output.trans h.output, Nat.le_trans h.size k.size, fun i hi hm => (k.block i (Nat.lt_of_lt_of_le hi h.size) hm).trans (h.block i hi hm)⟩
/-- Two steps, the second of which may also change what the first one made. -/
theorem Chg.step (h : Chg M w w') (k : Chg M' w' w'') (hM : ∀ i, i < w.heap.size → M' i → M i) : Chg M w w'' :=
  ⟨k.os.trans h.os, k.tape.trans h.tape, k.output.trans h.output, Nat.le_trans h.size k.size, fun i hi hm => (k.block i (Nat.lt_of_lt_of_le hi h.size) (fun x => hm (hM i hi x))).trans (h.block i hi hm)⟩
theorem Chg.mono (h : Chg M w w') (hM : ∀ i, i < w.heap.size → M i → M' i) : Chg M' w w' :=
  ⟨h.os, h.tape, h.output, h.size, fun i hi hm => h.block i hi fun x => hm (hM i hi x)⟩
theorem Chg.drewN (h : Chg M w w') (n : Nat) : Chg M w (w'.drewN n) := ⟨h.os, h.tape, h.output, h.size, h.block⟩
theorem Chg.drew (h : Chg M w w') : Chg M w w'.drew := ⟨h.os, h.tape, h.output, h.size, h.block⟩
theorem Chg.alloc (h : Chg M w w') (o : Obj) : Chg M w (w'.alloc o) :=
  ⟨h.os, h.tape, h.output, Nat.le_trans h.size (by simp), fun i hi hm => (Below.heap_alloc w' o i (Nat.lt_of_lt_of_le hi h.size)).trans (h.block i hi hm)⟩
theorem Chg.set (h : Chg M w w') {a : Addr} (ha : M a.block ∨ w.heap.size ≤ a.block) (v : Value) : Chg M w (w'.setCell a v) :=
  ⟨h.os, h.tape, h.output, by simpa using h.size, fun i hi hm => (Below.heap_setCell w' a v i (by
    rintro rfl
    rcases ha with ha | ha
    · exact hm ha
    · omega)).trans (h.block i hi hm)⟩
theorem Chg.of_below (h : Below w.heap.size w w') : Chg M w w' := ⟨h.os, h.tape, h.output, h.size, fun i hi _ => h.block i hi⟩
theorem Chg.below (h : Chg M w w') {B : Nat} (hB : B ≤ w.heap.size) (hM : ∀ i, M i → B ≤ i) : Below B w w' :=
  ⟨h.os, h.tape, h.output, h.size, fun i hi => h.block i (Nat.lt_of_lt_of_le hi hB) (fun x => by have := hM i x; omega)⟩
theorem Chg.below_of {w0 : World} (h : Chg M w w') {B : Nat} (hb : Below B w0 w) (hB : B ≤ w.heap.size) (hM : ∀ i, M i → B ≤ i) : Below B w0 w' := hb.trans (h.below hB hM)
theorem Chg.of_grown {row : Option Nat} (h : w.grownBy w' row) (hr : ∀ k, row = some k → M k) : Chg M w w' :=
  ⟨h.os, h.tape, h.output, h.size, fun i hi hm => h.block i hi fun e => hm (hr i e.symm)⟩
/-- A block that is known, and was not changed, is known still. -/
theorem Chg.at (h : Chg M w w') {b : Nat} {o : Obj} (hb : w.heap[b]? = some o) (hm : ¬ M b) : w'.heap[b]? = some o := by
  have hlt : b < w.heap.size := by
    rcases Nat.lt_or_ge b w.heap.size with h' | h'
    · exact h'
    · simp [Array.getElem?_eq_none h'] at hb
  rw [h.block b hlt hm]; exact hb
end

theorem lt_of_heap {w : World} {b : Nat} {o : Obj} (hb : w.heap[b]? = some o) : b < w.heap.size := by
  rcases Nat.lt_or_ge b w.heap.size with h' | h'
  · exact h'
  · simp [Array.getElem?_eq_none h'] at hb

theorem heap_set {w : World} {b : Nat} {c : Array Value} {t : TypeId} {fr : Nat × Nat} (h : w.heap[b]? = some (.cells c t fr)) (i : Nat) (v : Value) :
    (w.setCell ⟨b, i, none⟩ v).heap[b]? = some (.cells (c.setIfInBounds i v) t fr) := by
  simp only [World.setCell, Array.getElem?_modify, ↓reduceIte, h, Option.map_some]
  simp
theorem heap_set_ne {w : World} {b k : Nat} (i : Nat) (v : Value) (h : ¬ k = b) : (w.setCell ⟨b, i, none⟩ v).heap[k]? = w.heap[k]? :=
  Below.heap_setCell w ⟨b, i, none⟩ v k h
theorem heap_new (w : World) (o : Obj) : (w.alloc o).heap[w.heap.size]? = some o := heap_alloc_new w o
theorem heap_new_ne {w : World} (o : Obj) {k : Nat} (h : ¬ k = w.heap.size) : (w.alloc o).heap[k]? = w.heap[k]? := by
  show (w.heap.push o)[k]? = _
  rw [Array.getElem?_push, if_neg h]

theorem cell_of {w : World} {b : Nat} {c : Array Value} {t : TypeId} {fr : Nat × Nat} (h : w.heap[b]? = some (.cells c t fr)) (i : Nat) : w.cell? ⟨b, i, none⟩ = c[i]? := by
  simp [World.cell?, h]
theorem free_of {w : World} {b : Nat} {c : Array Value} {t : TypeId} (h : w.heap[b]? = some (.cells c t (0, 0))) (i : Nat) : w.frozen? ⟨b, i, none⟩ = false := by
  simp [World.frozen?, h]
theorem ne_of_type {w : World} {a b : Nat} {c d : Array Value} {t u : TypeId} {fr gr : Nat × Nat} (h : w.heap[a]? = some (.cells c t fr)) (k : w.heap[b]? = some (.cells d u gr)) (hne : t ≠ u) : ¬ a = b := by
  rintro rfl
  rw [h] at k
  simp at k
  exact hne k.2.1

/-- A pointer to the head of a block, or nil. -/
def ptr (p : Option Nat) : Value := .pointer (p.map fun a => ⟨a, 0, none⟩)
theorem ptr_none : ptr none = .pointer none := rfl
theorem ptr_some (b : Nat) : ptr (some b) = .pointer (some ⟨b, 0, none⟩) := rfl
theorem ptr_inj {p q : Option Nat} (h : ptr p = ptr q) : p = q := by
  cases p <;> cases q <;> simp_all [ptr]

end Go.Proofs.YtmijedghihebjaaGreatFmt
