/- impl.SetPosition at a position of a file that has lines. -/
import Derived.Test.YtgehgiafhfgacaaFmtPlace
import Derived.Test.YtgehgiafhfgacaaFmtSetPos
namespace Go.Proofs.YtgehgiafhfgacaaFmt
open Go.RowKit

/-- A position lies in one file alone. -/
theorem one_file {fs : List GFile} (hv : validL fs) {i j : Nat} {a b : MFile} {p : Int} (hi : (madeL fs)[i]? = some a) (hj : (madeL fs)[j]? = some b) (h1 : a.base ≤ p) (h2 : p ≤ a.base + a.size) (h3 : b.base ≤ p) (h4 : p ≤ b.base + b.size) : i = j ∧ a = b := by
  have hp : (madeL fs).Pairwise (fun a b => a.base + a.size < b.base) := made_pair 1 fs hv
  obtain ⟨li, ei⟩ := List.getElem?_eq_some_iff.1 hi
  obtain ⟨lj, ej⟩ := List.getElem?_eq_some_iff.1 hj
  have hij : i = j := by
    rcases Nat.lt_trichotomy i j with h | h | h
    · have := List.pairwise_iff_getElem.1 hp i j li lj h
      rw [ei, ej] at this
      omega
    · exact h
    · have := List.pairwise_iff_getElem.1 hp j i lj li h
      rw [ei, ej] at this
      omega
  subst hij
  rw [hi] at hj
  exact ⟨rfl, Option.some.inj hj⟩

theorem setpos_good (fv : Value) (fs : List GFile) (kn : Nat) (m : MFile) (p : Int) (w : World) (hf : Files w fv fs) (hv : validL fs) (hk : (madeL fs)[kn]? = some m) (hs : 0 < m.size) (h1 : m.base ≤ p) (h2 : p ≤ m.base + m.size) :
    Calls Tryf.prog 20 #[fv, .int .i64 p] w fun e w' => e = .returned (.agg #[.string m.name, .int .i64 (offP m p), .int .i64 (lnP m p), .int .i64 (clP m p)]) ∧ Below w.heap.size w w' := by
  have hb := (valid_bounds hv).2 m (List.mem_of_getElem? hk)
  refine (implSetPosition_any fv fs p w hf hv).mono ?_
  rintro e w' ⟨v, rfl, res, hb'⟩
  refine ⟨?_, hb'⟩
  rcases res with ⟨_, h | h⟩ | ⟨k', m', h3, h4, h5, rfl⟩
  · omega
  · have := h m (List.mem_of_getElem? hk)
    omega
  · obtain ⟨_, rfl⟩ := one_file hv hk h3 h1 h2 h4 h5
    rw [placeOf_good (good_of hv hk hs) (by omega) (by omega)]
    rfl
end Go.Proofs.YtgehgiafhfgacaaFmt
