/- AddLine. -/
import Derived.Test.YtmijedghihebjaaGreatFmtPosn
namespace Go.Proofs.YtmijedghihebjaaGreatFmt
open Go.RowKit Go.MuLone Go.RwLone

theorem Tryz.infoInt : (Tryz.prog.info? 3).map (fun i => (i.zero, i.size, i.bytes)) = some (some (.int .i64 0), 1, 8) := by kernel_rfl

theorem Below.toChg {B : Nat} {w w' : World} (h : Below B w w') : Chg (fun k => B ≤ k) w w' := ⟨h.os, h.tape, h.output, h.size, fun i _ hm => h.block i (by omega)⟩

theorem Inc.append {ls : List Int} {x : Int} (h : Inc ls) (hx : ∀ y ∈ ls, y < x) : Inc (ls ++ [x]) := by
  unfold Inc
  rw [List.pairwise_append]
  exact ⟨h, by simp, fun a ha b hb => by simp at hb; subst hb; exact hx a ha⟩

/-- In a rising list the last is the greatest. -/
theorem Inc.last {ls : List Int} (h : Inc ls) : ∀ y ∈ ls, y ≤ ls.getD (ls.length - 1) 0 := by
  intro y hy
  obtain ⟨k, hk, rfl⟩ := List.getElem_of_mem hy
  have hlen : 0 < ls.length := by omega
  rw [List.getD_eq_getElem?_getD, List.getElem?_eq_getElem (by omega)]
  simp only [Option.getD_some]
  rcases Nat.lt_or_ge k (ls.length - 1) with hlt | hge
  · have := List.pairwise_iff_getElem.1 h k (ls.length - 1) hk (by omega) hlt
    omega
  · have : k = ls.length - 1 := by omega
    subst this
    exact Int.le_refl _

/-- An owned slice's block is none of another type. -/
theorem owns_ne {w : World} {B : Nat} {e t : TypeId} {sz : Nat} {v : Value} {n : Nat} {xs : List Value} {fb : Nat} {c : Array Value} {fr : Nat × Nat} (h : w.ownsRow B e sz v n xs) (hf : w.heap[fb]? = some (.cells c t fr)) (hne : e ≠ t) : ∀ g, v.ownBlock = some g → ¬ g = fb := by
  intro g hg
  rcases h.2 with ⟨rfl, _⟩ | ⟨g', cap, cur, rfl, _, hh, _⟩
  · simp [Value.ownBlock] at hg
  · simp [Value.ownBlock] at hg
    subst hg
    exact ne_of_type hh hf hne

/-- The lines behind AddLine. -/
def addL (size : Int) (ls : List Int) (off : Int) : List Int := if ls.getD (ls.length - 1) 0 < off ∧ off < size then ls ++ [off] else ls

/-- What AddLine leaves: the file with its lines; only the file and its old lines' row have changed. -/
def LeavesLines (B fb : Nat) (name : ByteArray) (base size : Int) (lv : Value) (ls : List Int) (w : World) (e : Ending) (w' : World) : Prop :=
  e = .returned (.tuple #[]) ∧ (∃ lv', FileSt w' B fb name base size lv' ls) ∧ Chg (fun k => k = fb ∨ lv.ownBlock = some k) w w'

end Go.Proofs.YtmijedghihebjaaGreatFmt
