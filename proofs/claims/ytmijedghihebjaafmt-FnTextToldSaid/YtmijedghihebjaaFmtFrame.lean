/- The frame of every law: it returns true, and nothing that was there has changed. -/
import Derived.Test.YtmijedghihebjaaFmtRows
import Derived.WalkKit
import Derived.ProofKit
import Derived.OpenShut
import Derived.Below
import Derived.Stop.JoinedAt
import Derived.Stop.Texts
import Derived.Stop.JoinedTold
import Derived.SizedLaws
import Derived.SevenToldRow
namespace Go.Proofs.YtmijedghihebjaaFmt
open Go.ChangeShapes Go.WideShapes Go.ChangeAt Go.RowKit
open Go.Extern.Stop Go.Stop Go.Extern

theorem own : ownKnob Tryf.prog.godebug = none := by kernel_rfl
theorem laidOut : laidOutB Tryf.pinned.checked.prog = true := by kernel_rfl
theorem stopNames : Tryf.pinned.checked.prog.stops = ["fmt.Sprintf"] := by kernel_rfl
theorem stopKnobs : Tryf.pinned.checked.prog.stopKnobs = [] := by kernel_rfl
theorem quiet (os : Os) : Stop.quiet Tryf.pinned.checked.prog os := by
  intro k hk
  rw [stopKnobs] at hk
  cases hk

section
variable {H : Type} {enc : TypeId × Value → H} {P : Program}

theorem trodAll_stays (hl : laidOutB P = true) {W W' : World} (hb : Below W.heap.size W W') : ∀ {ts : List TypeId} {vs : List Value} {ds : List (DataW H)} {ps : List MemPlace}, (∀ t ∈ ts, P.readableRec t = true ∧ t < P.types.size) →
    DataW.TrodAll enc P W 0 (fun _ => true) true ts vs ds ps → (∀ x ∈ ps, x.block < W.heap.size) → DataW.TrodAll enc P W' 0 (fun b => decide (b < W.heap.size)) true ts vs ds ps := by
  intro ts
  induction ts with
  | nil =>
    intro vs ds ps _ h _
    obtain ⟨rfl, rfl, rfl⟩ := trodAll_nil h
    exact trodAll_mk0
  | cons t ts ih =>
    intro vs ds ps hr h hlt
    obtain ⟨v, vs, d, ds, p, q, rfl, rfl, rfl, h1, h2⟩ := trodAll_cons h
    exact trodAll_cons_mk (Below.trod hl (hr t (by simp)).1 (hr t (by simp)).2 h1 hb (fun x hx => hlt x (by simp [hx]))) (ih (fun u hu => hr u (by simp [hu])) h2 (fun x hx => hlt x (by simp [hx])))

/-- What a law owes: it returned true; below the heap as it was nothing has changed. -/
theorem law_post {f : Func} {s : ChangeSpec} {tb : TypeId} {apart fresh handsOn : Bool} {W W' : World} {args : Array Value} {ds : List (DataW H)} {before : List MemPlace} (hl : laidOutB P = true)
    (hr : ∀ t ∈ f.params.toList, P.readableRec t = true ∧ t < P.types.size) (hv : s.vars = []) (ht : f.resultTypes = #[tb]) (hbool : P.underlying tb = some .bool)
    (hfn : s.fn H (ds ++ []) = { results := [.lit (.bool true)], args := ds }) (hW : DataW.Whole enc P f.params.toList s.vars apart W args.toList ds [] before) (hB : Below W.heap.size W W') :
    s.post enc P f apart fresh handsOn false W args (.bool true) W' := by
  have hW' := hW
  obtain ⟨p, q, hA, hV, rfl, hfz, hnd⟩ := hW
  rw [hv] at hV
  obtain ⟨_, rfl⟩ := trodVars_none hV
  have hlt : ∀ x ∈ p, x.block < W.heap.size := fun x hx => hW'.lt x (by simp [hx])
  refine ⟨ds, [], p ++ [], [], p, [], hW', ?_, ?_, ?_, hB.frame _, fun h => by cases h⟩
  · rw [hfn, ht]
    exact trodAll_mk1 (shut_bool hbool true)
  · rw [hfn]
    exact trodAll_stays hl hB hr hA hlt
  · rw [hfn, hv]
    rfl
end

theorem rd_int : Tryf.prog.readableRec 3 = true ∧ 3 < Tryf.prog.types.size := ⟨by kernel_rfl, of_decide_eq_true (by kernel_rfl)⟩
theorem rd_bytes : Tryf.prog.readableRec 34 = true ∧ 34 < Tryf.prog.types.size := ⟨by kernel_rfl, of_decide_eq_true (by kernel_rfl)⟩
theorem rd_iPlace : Tryf.prog.readableRec 23 = true ∧ 23 < Tryf.prog.types.size := ⟨by kernel_rfl, of_decide_eq_true (by kernel_rfl)⟩
end Go.Proofs.YtmijedghihebjaaFmt
