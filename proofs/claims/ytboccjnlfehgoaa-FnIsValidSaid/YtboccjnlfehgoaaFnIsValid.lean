/- FnIsValid: for every place the law returns true; no condition. -/
import Derived.Test.YtboccjnlfehgoaaValid
import Derived.Test.YtboccjnlfehgoaaFrame
import Derived.Lib.SmallJoins
namespace Go.Proofs.Ytboccjnlfehgoaa
open Go.RowKit

set_option maxRecDepth 100000 in
set_option maxHeartbeats 1000000 in
theorem fnIsValid_walk (nm : ByteArray) (o l c : Int) (w : World) :
    Calls Try.prog 3 #[.agg #[.string nm, .int .i64 o, .int .i64 l, .int .i64 c]] w fun e w' => e = .returned (.bool true) ∧ Below w.heap.size w w' := by
  have HB : Below w.heap.size w (w.alloc (.cells #[.string nm, .int .i64 o, .int .i64 l, .int .i64 c] 23)) := (Below.refl _ _).alloc (Nat.le_refl _) _
  have c0 : (w.alloc (.cells #[.string nm, .int .i64 o, .int .i64 l, .int .i64 c] 23)).cell? ⟨w.heap.size, 0, none⟩ = some (.string nm) := by simp
  have c1 : (w.alloc (.cells #[.string nm, .int .i64 o, .int .i64 l, .int .i64 c] 23)).cell? ⟨w.heap.size, 1, none⟩ = some (.int .i64 o) := by simp
  have c2 : (w.alloc (.cells #[.string nm, .int .i64 o, .int .i64 l, .int .i64 c] 23)).cell? ⟨w.heap.size, 2, none⟩ = some (.int .i64 l) := by simp
  have c3 : (w.alloc (.cells #[.string nm, .int .i64 o, .int .i64 l, .int .i64 c] 23)).cell? ⟨w.heap.size, 3, none⟩ = some (.int .i64 c) := by simp
  have hlt : w.heap.size < (w.alloc (.cells #[.string nm, .int .i64 o, .int .i64 l, .int .i64 c] 23)).heap.size := by simp
  have hc := fun W => implIsValid_any nm o l c W
  have HC := Lib.hid hc
  clear hc
  by_cases hp : 0 < l
  · have q1 : decide (0 < l) = true := by simpa using hp
    go_enter Try.func3, Try.ntmps3
    go_wp2
    generalize w.alloc (.cells #[.string nm, .int .i64 o, .int .i64 l, .int .i64 c] 23) = w1 at *
    go_region_held3 (fun w' => w'.cell? ⟨w.heap.size, 0, none⟩ = some (.string nm) ∧ w'.cell? ⟨w.heap.size, 1, none⟩ = some (.int .i64 o) ∧ w'.cell? ⟨w.heap.size, 2, none⟩ = some (.int .i64 l) ∧ w'.cell? ⟨w.heap.size, 3, none⟩ = some (.int .i64 c)) (first | exact ⟨c0, c1, c2, c3⟩ | exact ⟨d0, d1, d2, d3⟩)
      (first | (go_at_call 4; refine (HC.out _).mono ?_; rintro e w2 ⟨rfl, hb2⟩; have d0 := (hb2.cell (p := ⟨w.heap.size, 0, none⟩) hlt).trans c0; have d1 := (hb2.cell (p := ⟨w.heap.size, 1, none⟩) hlt).trans c1; have d2 := (hb2.cell (p := ⟨w.heap.size, 2, none⟩) hlt).trans c2; have d3 := (hb2.cell (p := ⟨w.heap.size, 3, none⟩) hlt).trans c3))
    have hb3 : Below w.heap.size w w2 := HB.drew.trans (hb2.mono (by simp; omega))
    clear c0 c1 c2 c3 d0 d1 d2 d3 hb2
    go_wp2
    go_ret
    exact ⟨rfl, hb3⟩
  · have q1 : decide (0 < l) = false := by simpa using hp
    go_enter Try.func3, Try.ntmps3
    go_wp2
    generalize w.alloc (.cells #[.string nm, .int .i64 o, .int .i64 l, .int .i64 c] 23) = w1 at *
    go_region_held3 (fun w' => w'.cell? ⟨w.heap.size, 0, none⟩ = some (.string nm) ∧ w'.cell? ⟨w.heap.size, 1, none⟩ = some (.int .i64 o) ∧ w'.cell? ⟨w.heap.size, 2, none⟩ = some (.int .i64 l) ∧ w'.cell? ⟨w.heap.size, 3, none⟩ = some (.int .i64 c)) (first | exact ⟨c0, c1, c2, c3⟩ | exact ⟨d0, d1, d2, d3⟩)
      (first | (go_at_call 4; refine (HC.out _).mono ?_; rintro e w2 ⟨rfl, hb2⟩; have d0 := (hb2.cell (p := ⟨w.heap.size, 0, none⟩) hlt).trans c0; have d1 := (hb2.cell (p := ⟨w.heap.size, 1, none⟩) hlt).trans c1; have d2 := (hb2.cell (p := ⟨w.heap.size, 2, none⟩) hlt).trans c2; have d3 := (hb2.cell (p := ⟨w.heap.size, 3, none⟩) hlt).trans c3))
    have hb3 : Below w.heap.size w w2 := HB.drew.trans (hb2.mono (by simp; omega))
    clear c0 c1 c2 c3 d0 d1 d2 d3 hb2
    go_wp2
    go_ret
    exact ⟨rfl, hb3⟩

end Go.Proofs.Ytboccjnlfehgoaa

namespace Go.Proofs.Ytboccjnlfehgoaa.fnIsValid
open Go.ChangeShapes Go.WideShapes Go.ChangeAt Go.RowKit
open Go.Joins

theorem cellsPlace : Try.prog.cellsOf 23 = 4 := by kernel_rfl

set_option maxRecDepth 100000 in
theorem lifted (os : Os) (started : os.Started) (H : Type) (enc : TypeId × Value → H) :
    ReturnsInHanded {} Try.checked os 3 .any (Rows.fnIsValidSpec.pre6 enc Try.prog Try.f3 Rows.fnIsValidRow.domain false) (Rows.fnIsValidSpec.post enc Try.prog Try.f3 false true false false) := by
  refine returnsInHanded_of_change (C := Try.checked) own started (by kernel_rfl) Try.func3
    (ChangeSpec.witness6 (enc := enc) (C := Try.checked) false ⟨#[], #[.agg #[.string ⟨#[]⟩, .int .i64 0, .int .i64 0, .int .i64 0]], []⟩ 8 (by kernel_rfl) (by kernel_rfl) (by kernel_rfl) (by kernel_rfl)) ?_
  intro W base args ds gs before hval0 hW hcnd _
  have hval : ∀ (j : Nat) t v, Try.f3.params[j]? = some t → args[j]? = some v → Value.okWide Try.prog W .any base t v := hval0
  have hW' := hW
  obtain ⟨p, q, hA0, hV, rfl, hfz, hnd⟩ := hW
  have hA : DataW.TrodAll enc Try.prog W 0 (fun _ => true) true Try.f3.params.toList args.toList ds p := hA0
  rw [Try.params3] at hA hval
  obtain ⟨v0, vs0, d0, ds0, p0, q0, hargs, rfl, rfl, h0, r0⟩ := trodAll_cons hA
  obtain ⟨rfl, rfl, rfl⟩ := trodAll_nil r0
  obtain rfl : args = #[v0] := by cases args; simp_all
  obtain ⟨rfl, rfl⟩ := trodVars_none hV
  clear hA0
  obtain ⟨c0, c1, c2, c3, y0, y1, y2, y3, n, rfl, rfl, rfl, t0, t1, t2, t3⟩ := open_agg4 Try.underlying23 (by kernel_rfl) cellsPlace (hval 0 23 v0 rfl rfl) h0
  obtain ⟨nm, e0, rfl, _⟩ := DataW.trod_string Try.underlying9 t0
  obtain ⟨o, e1, rfl, _⟩ := DataW.trod_int Try.underlying3 t1
  obtain ⟨l, e2, rfl, _⟩ := DataW.trod_int Try.underlying3 t2
  obtain ⟨c, e3, rfl, _⟩ := DataW.trod_int Try.underlying3 t3
  simp at e0 e1 e2 e3
  subst e0 e1 e2 e3
  refine (fnIsValid_walk nm o l c W).mono fun e W' ⟨he, hb⟩ => ?_
  subst he
  exact ⟨_, rfl, law_post (tb := 4) laidOut (by rw [Try.params3]; intro t ht; simp at ht; subst ht; exact rd_iPlace) rfl rfl Try.underlying4 rfl hW' hb⟩

theorem proved : Rows.FnIsValidSaid :=
  OpenClaim.holds_of_wide 3 Try.f3 rfl rfl rfl rfl rfl rfl rfl ⟨rfl, rfl, rfl, rfl, rfl⟩ rfl rfl rfl rfl rfl (by kernel_rfl) Try.func3 (by kernel_rfl)
    (of_decide_eq_true (by kernel_rfl)) (by unfold Func.isWrapper; first | (rw [if_pos (by decide +kernel)]; kernel_rfl) | (rw [if_neg (by decide +kernel)]; exact ⟨rfl, rfl⟩))
    (fun os started H enc _ => lifted os started H enc)

end Go.Proofs.Ytboccjnlfehgoaa.fnIsValid
