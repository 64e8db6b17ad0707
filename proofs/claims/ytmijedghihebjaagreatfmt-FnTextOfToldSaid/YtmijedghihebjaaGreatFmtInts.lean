/- Slices that read as lists; laws.ints; impl.Added, spec.Added. -/
import Derived.Test.YtmijedghihebjaaGreatFmtLines
namespace Go.Proofs.YtmijedghihebjaaGreatFmt
open Go.RowKit Go.MuLone Go.RwLone

/-- A slice of one-cell elements that reads as a list of values. -/
def Reads (w : World) (v : Value) (xs : List Value) : Prop :=
  ∃ a cap, v = .slice a xs.length cap ∧ (xs = [] ∨ ∃ g o, a = some ⟨g, o, none⟩ ∧ ∀ k u, xs[k]? = some u → w.cell? ⟨g, o + k, none⟩ = some u)
def Ints (w : World) (v : Value) (ls : List Int) : Prop := Reads w v (ls.map (Value.int .i64))

theorem Reads.below {w w' : World} {v : Value} {xs : List Value} (h : Reads w v xs) (hb : Below w.heap.size w w') : Reads w' v xs := by
  obtain ⟨a, cap, hv, h⟩ := h
  refine ⟨a, cap, hv, ?_⟩
  rcases h with h | ⟨g, o, ha, h⟩
  · exact .inl h
  · refine .inr ⟨g, o, ha, fun k u hk => ?_⟩
    have := h k u hk
    rw [← this]
    exact hb.cell (p := ⟨g, o + k, none⟩) (World.block_lt_of_cell? w _ this)
theorem Reads.chg {M : Nat → Prop} {w w' : World} {v : Value} {xs : List Value} (h : Reads w v xs) (hb : Chg M w w') (hm : ∀ g, v.ownBlock = some g → ¬ M g) : Reads w' v xs := by
  obtain ⟨a, cap, hv, h⟩ := h
  refine ⟨a, cap, hv, ?_⟩
  rcases h with h | ⟨g, o, ha, h⟩
  · exact .inl h
  · refine .inr ⟨g, o, ha, fun k u hk => ?_⟩
    have := h k u hk
    rw [← this]
    exact World.cell?_of_block (hb.block g (World.block_lt_of_cell? w _ this) (hm g (by rw [hv, ha]; rfl)))

theorem owns_reads {w : World} {B : Nat} {e : TypeId} {v : Value} {n : Nat} {xs : List Value} (h : w.ownsRow B e 1 v n xs) : Reads w v xs := by
  have hn : xs.length = n := by have := h.1; omega
  rcases h.2 with ⟨rfl, h0⟩ | ⟨g, cap, cur, rfl, _⟩
  · exact ⟨none, 0, by rw [hn, h0], .inl (List.eq_nil_of_length_eq_zero (by omega))⟩
  · refine ⟨_, cap, by rw [hn], .inr ⟨g, 0, rfl, fun k u hk => ?_⟩⟩
    have := h.cells (g := g) rfl k u hk
    unfold Addr.add at this
    split at this
    · rename_i h0; subst h0; exact this
    · exact this

theorem Ints.cell {w : World} {v : Value} {ls : List Int} (h : Ints w v ls) : ∃ a cap, v = .slice a ls.length cap ∧ (ls = [] ∨ ∃ g o, a = some ⟨g, o, none⟩ ∧ ∀ k, k < ls.length → w.cell? ⟨g, o + k, none⟩ = some (.int .i64 (ls.getD k 0))) := by
  obtain ⟨a, cap, hv, h⟩ := h
  refine ⟨a, cap, by simpa using hv, ?_⟩
  rcases h with h | ⟨g, o, ha, h⟩
  · exact .inl (by simpa using h)
  · exact .inr ⟨g, o, ha, fun k hk => h k _ (by rw [List.getElem?_map, List.getElem?_eq_getElem hk]; simp [List.getD_eq_getElem?_getD, hk])⟩

end Go.Proofs.YtmijedghihebjaaGreatFmt
