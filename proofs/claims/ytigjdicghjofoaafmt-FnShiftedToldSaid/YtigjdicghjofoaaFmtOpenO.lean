/- Arguments opened: one file by value. -/
import Derived.Test.YtigjdicghjofoaaFmtOpenF
import Derived.Lib.SmallJoins
namespace Go.Proofs.YtigjdicghjofoaaFmt
open Go.ChangeShapes Go.WideShapes Go.ChangeAt Go.RowKit Go.Deep
open Go.Joins

set_option maxRecDepth 100000 in
theorem open_arg_file {H : Type} {enc : TypeId × Value → H} {W : World} {base : Nat} {v : Value} {d : DataW H} {ps : List MemPlace} (hv : Value.okWide Tryf.prog W .any base 55 v) (h : DataW.Trod enc Tryf.prog W 0 (fun _ => true) true 55 v d ps)
    (hw : ∀ n ∈ d.weights Tryf.prog 55, n ≤ 140737488351232) : ∃ (g : GFile) (ev : Value), v = .agg #[.string g.name, .int .i64 g.base, .int .i64 g.size, ev] ∧ Edits W ev g.edits := by
  obtain ⟨f0, f1, f2, f3, hu, u0, u1, u2, u3, hone⟩ := oneFile
  obtain ⟨c0, c1, c2, c3, y0, y1, y2, y3, n, rfl, rfl, rfl, t0, t1, t2, t3⟩ := open_agg4 hu hone cellsFile hv h
  rw [u0] at t0; rw [u1] at t1; rw [u2] at t2; rw [u3] at t3
  have hw3 := weights_part hu hw (j := 3) (f := f3) (d := y3.1) rfl rfl
  rw [u3] at hw3
  obtain ⟨nm, e0, _, _⟩ := DataW.trod_string Tryf.underlying9 t0
  obtain ⟨b, e1, _, _⟩ := DataW.trod_int Tryf.underlying3 t1
  obtain ⟨s, e2, _, _⟩ := DataW.trod_int Tryf.underlying3 t2
  obtain ⟨ev, es, e3, hE, _⟩ := open_edits (fun _ => rfl) t3 hw3
  simp at e0 e1 e2 e3
  subst e0 e1 e2 e3
  exact ⟨⟨nm, b, s, es⟩, _, rfl, hE⟩
end Go.Proofs.YtigjdicghjofoaaFmt
