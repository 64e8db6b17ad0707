/- Plain laws on valid scripts. -/
import Derived.Test.YtmijedghihebjaaGreatFmtModel
namespace Go.Proofs.YtmijedghihebjaaGreatFmt
open Go.RowKit

theorem madeFrom_bounds (n : Int) (gs : List GFile) (h : validFrom n gs) : n ≤ nextOf (madeFrom n gs) n ∧ ∀ m ∈ madeFrom n gs, n ≤ m.base ∧ 0 ≤ m.size ∧ m.size ≤ 1099511627776 ∧ m.base ≤ 1099511627776 ∧ m.base + m.size < nextOf (madeFrom n gs) n := by
  induction gs generalizing n with
  | nil => simp [madeFrom, nextOf]
  | cons g gs ih =>
    obtain ⟨⟨h1, h2, h3, h4, _⟩, h5⟩ := h
    obtain ⟨ih1, ih2⟩ := ih _ h5
    simp only [madeFrom, nextOf]
    have hn : (make n g).next = (make n g).base + g.size + 1 := rfl
    have hs : (make n g).size = g.size := rfl
    refine ⟨by omega, fun m hm => ?_⟩
    rcases List.mem_cons.1 hm with rfl | hm
    · exact ⟨h3, by omega, by omega, h4, by omega⟩
    · obtain ⟨a, b, c, d, e⟩ := ih2 m hm
      exact ⟨by omega, b, c, d, e⟩
theorem validFrom_prefix {n : Int} {a b : List GFile} (h : validFrom n (a ++ b)) : validFrom n a := by
  induction a generalizing n with
  | nil => trivial
  | cons g a ih => exact ⟨h.1, ih h.2⟩
theorem valid_take {fs : List GFile} (h : validL fs) (k : Nat) : validL (fs.take k) := by
  have : validL (fs.take k ++ fs.drop k) := by rw [List.take_append_drop]; exact h
  exact validFrom_prefix this
theorem take_snoc {α : Type} {l : List α} {k : Nat} {x : α} (h : l[k]? = some x) : l.take (k + 1) = l.take k ++ [x] := by
  obtain ⟨hk, rfl⟩ := List.getElem?_eq_some_iff.1 h
  exact List.take_succ_eq_append_getElem hk
theorem valid_at {fs : List GFile} (h : validL fs) {k : Nat} {g : GFile} (hk : fs[k]? = some g) : okFile (baseOf (fs.take k)) g := by
  have := valid_take h (k + 1)
  rw [take_snoc hk] at this
  exact ((validL_snoc _ _).1 this).2
theorem valid_bounds {gs : List GFile} (h : validL gs) : 1 ≤ baseOf gs ∧ ∀ m ∈ madeL gs, 1 ≤ m.base ∧ 0 ≤ m.size ∧ m.size ≤ 1099511627776 ∧ m.base ≤ 1099511627776 ∧ m.base + m.size < baseOf gs := madeFrom_bounds 1 gs h
theorem baseOf_le {gs : List GFile} (h : validL gs) : baseOf gs ≤ 2199023255553 := by
  unfold baseOf
  have hb := valid_bounds h
  revert hb
  unfold baseOf
  generalize madeL gs = l
  intro hb
  rcases List.eq_nil_or_concat l with rfl | ⟨l', f, rfl⟩
  · simp [nextOf]
  · rw [List.concat_eq_append] at hb ⊢
    rw [nextOf_append]
    have := hb.2 f (by simp)
    simp only [MFile.next]
    omega
theorem make_base (next : Int) (g : GFile) : (g.base < 0 ∧ (make next g).base = next) ∨ (0 ≤ g.base ∧ (make next g).base = g.base) := by
  simp only [make]
  split <;> omega

/-- The files made of a script, one by one. -/
theorem madeL_at {fs : List GFile} {k : Nat} {g : GFile} (hk : fs[k]? = some g) : (madeL fs)[k]? = some (make (baseOf (fs.take k)) g) := by
  have h1 : (madeL (fs.take (k + 1)))[k]? = some (make (baseOf (fs.take k)) g) := by
    rw [take_snoc hk, madeL_snoc, List.getElem?_append_right (by rw [madeL_length, List.length_take]; omega), madeL_length, List.length_take]
    have : k < fs.length := (List.getElem?_eq_some_iff.1 hk).1
    simp [Nat.min_eq_left (Nat.le_of_lt this)]
  have h2 : ∀ (n : Int) (a b : List GFile), madeFrom n (a ++ b) = madeFrom n a ++ madeFrom (nextOf (madeFrom n a) n) b := by
    intro n a b
    induction a generalizing n with
    | nil => rfl
    | cons x a ih => simp only [List.cons_append, madeFrom, nextOf, ih]
  have h3 : madeL fs = madeL (fs.take (k + 1)) ++ madeFrom (nextOf (madeFrom 1 (fs.take (k + 1))) 1) (fs.drop (k + 1)) := by
    conv => lhs; rw [← List.take_append_drop (k + 1) fs]
    exact h2 1 _ _
  rw [h3, List.getElem?_append_left (by obtain ⟨h, _⟩ := List.getElem?_eq_some_iff.1 h1; exact h)]
  exact h1
end Go.Proofs.YtmijedghihebjaaGreatFmt
