/- Slices that read as lists; laws.ints; impl.Added, spec.Added. -/
import Derived.Test.YtboccjnlfehgoaaFmtLines
namespace Go.Proofs.YtboccjnlfehgoaaFmt
open Go.RowKit Go.MuLone Go.RwLone

/-- A slice of one-cell elements that reads as a list of values. -/
def Reads (w : World) (v : Value) (xs : List Value) : Prop :=
  ∃ a cap, v = .slice a xs.length cap ∧ (xs = [] ∨ ∃ g o, a = some ⟨g, o, none⟩ ∧ ∀ k u, xs[k]? = some u → w.cell? ⟨g, o + k, none⟩ = some u)
def Ints (w : World) (v : Value) (ls : List Int) : Prop := Reads w v (ls.map (Value.int .i64))

theorem Reads.below {w w' : World} {v : Value} {xs : List Value} (h : Reads w v xs) (hb : Below w.heap.size w w') : Reads w' v xs := by
  obtain ⟨a, cap, hv, h⟩ := h
  refine ⟨a, cap, hv, ?_⟩
  rcases h with h | ⟨g, o, ha, h⟩
  · exact .inl h
  · refine .inr ⟨g, o, ha, fun k u hk => ?_⟩
    have := h k u hk
    rw [← this]
    exact hb.cell (p := ⟨g, o + k, none⟩) (World.block_lt_of_cell? w _ this)
theorem Reads.chg {M : Nat → Prop} {w w' : World} {v : Value} {xs : List Value} (h : Reads w v xs) (hb : Chg M w w') (hm : ∀ g, v.ownBlock = some g → ¬ M g) : Reads w' v xs := by
  obtain ⟨a, cap, hv, h⟩ := h
  refine ⟨a, cap, hv, ?_⟩
  rcases h with h | ⟨g, o, ha, h⟩
  · exact .inl h
  · refine .inr ⟨g, o, ha, fun k u hk => ?_⟩
    have := h k u hk
    rw [← this]
    exact World.cell?_of_block (hb.block g (World.block_lt_of_cell? w _ this) (hm g (by rw [hv, ha]; rfl)))

theorem owns_reads {w : World} {B : Nat} {e : TypeId} {v : Value} {n : Nat} {xs : List Value} (h : w.ownsRow B e 1 v n xs) : Reads w v xs := by
  have hn : xs.length = n := by have := h.1; omega
  rcases h.2 with ⟨rfl, h0⟩ | ⟨g, cap, cur, rfl, _⟩
  · exact ⟨none, 0, by rw [hn, h0], .inl (List.eq_nil_of_length_eq_zero (by omega))⟩
  · refine ⟨_, cap, by rw [hn], .inr ⟨g, 0, rfl, fun k u hk => ?_⟩⟩
    have := h.cells (g := g) rfl k u hk
    unfold Addr.add at this
    split at this
    · rename_i h0; subst h0; exact this
    · exact this

theorem Ints.cell {w : World} {v : Value} {ls : List Int} (h : Ints w v ls) : ∃ a cap, v = .slice a ls.length cap ∧ (ls = [] ∨ ∃ g o, a = some ⟨g, o, none⟩ ∧ ∀ k, k < ls.length → w.cell? ⟨g, o + k, none⟩ = some (.int .i64 (ls.getD k 0))) := by
  obtain ⟨a, cap, hv, h⟩ := h
  refine ⟨a, cap, by simpa using hv, ?_⟩
  rcases h with h | ⟨g, o, ha, h⟩
  · exact .inl (by simpa using h)
  · exact .inr ⟨g, o, ha, fun k hk => h k _ (by rw [List.getElem?_map, List.getElem?_eq_getElem hk]; simp [List.getD_eq_getElem?_getD, hk])⟩

set_option maxRecDepth 100000 in
set_option maxHeartbeats 1000000 in
theorem ints_same (va vb : Value) (ls : List Int) (w : World) (ha : Ints w va ls) (hb : Ints w vb ls) (hlen : ls.length ≤ 140737488355328) :
    Calls Tryf.prog 14 #[va, vb] w fun e w' => e = .returned (.bool true) ∧ ∃ n, w' = w.drewN n := by
  obtain ⟨a, ca, rfl, ka⟩ := ha.cell
  obtain ⟨b, cb, rfl, kb⟩ := hb.cell
  have HA := Lib.hid ka
  have HB := Lib.hid kb
  clear ka kb ha hb
  have hbne : ((ls.length : Int) != (ls.length : Int)) = false := by simp
  go_enter Tryf.func14, Tryf.ntmps14
  go_wp2
  go_loopg [13] ls.length (fun k v wr => ∃ i nd : Nat, v = .int .i64 i ∧ i ≤ ls.length ∧ k = ls.length - i ∧ wr = w.drewN nd)
  case atStart => exact ⟨0, 0, rfl, by omega, by omega, rfl⟩
  case round =>
    obtain ⟨i, nd, rfl, hi, rfl, rfl⟩ := hrel
    by_cases hlt : i < ls.length
    · have hne : ¬ ls = [] := fun e => by rw [e] at hlt; simp at hlt
      obtain ⟨g, o, rfl, h⟩ := HA.out.resolve_left hne
      obtain ⟨g', o', rfl, h'⟩ := HB.out.resolve_left hne
      clear hne
      have k1 := h i hlt
      have k2 := h' i hlt
      clear h h'
      generalize ls.getD i 0 = y at *
      have q0 : ((y : Int) != y) = false := by simp
      have q1 : (i : Int) < (ls.length : Int) := by omega
      go_wp2
      go_quiet (fail)
      go_wp2
      go_roundg (ls.length - (i + 1))
      case measure => omega
      case rel => exact ⟨i + 1, _, by go_num, by omega, rfl, rfl⟩
    · go_wp2
      go_ret
      exact ⟨rfl, _, rfl⟩
end Go.Proofs.YtboccjnlfehgoaaFmt
