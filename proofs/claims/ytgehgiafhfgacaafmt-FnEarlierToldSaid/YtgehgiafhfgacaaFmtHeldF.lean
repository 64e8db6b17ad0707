/- The step of HeldE at an operation that bears a guard. -/
import Derived.Test.YtgehgiafhfgacaaFmtHeldE
namespace Go.Proofs.YtgehgiafhfgacaaFmt
open Go.RowKit
theorem wpAnyE_oneW {P : Program} {ops : Array Oper} {Q : Exit → Act → World → Prop} {md : Region.Mode} {S : World → Prop} {z i : Nat} {o : Oper} {fuel : Nat} {listed : Array Bool} {a : Act} {w : World} (hr : Region.ready md ops listed = [i]) (ho : ops[i]? = some o) (hw : Region.wanted o (yielded ops a.tmps) = true)
    (h : ∀ K : Act → World → Prop, Shut (∀ a w, (i = z ∨ S w) → wpAnyE P md ops Q S z fuel (listed.setIfInBounds i true) a w → K a w) → Oper.wp P o a w K Q) : wpAnyE P md ops Q S z (fuel + 1) listed a w := by
  refine ⟨(fun h0 => by rw [hr] at h0; cases h0), fun j hj => ?_⟩
  rw [hr] at hj
  simp at hj
  subst hj
  refine wpOp_step ho (fun K hK => ?_)
  rw [if_pos hw]
  exact h K (fun a w h1 h2 => hK a w ⟨h1, h2⟩)
end Go.Proofs.YtgehgiafhfgacaaFmt
