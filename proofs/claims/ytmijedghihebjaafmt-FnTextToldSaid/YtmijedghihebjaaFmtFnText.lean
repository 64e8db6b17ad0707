/- FnText: for every place the law returns true (the tables that it lists as the program's text lays them; fmt's text told by the kit's own function); no condition. -/
import Derived.Test.YtmijedghihebjaaFmtTextS
import Derived.Test.YtmijedghihebjaaFmtFrame
import Derived.Test.YtmijedghihebjaaFmtTie
import Derived.Test.YtmijedghihebjaaFmtCards
import Derived.Lib.SmallJoins
import Derived.SevenTiedAt
import Derived.Deep.DeepWitnessRef
import Derived.LaidMore
import Derived.Stop.LaidErr
import Derived.Deep.RegionHeld3
namespace Go.Proofs.YtmijedghihebjaaFmt
open Go.RowKit Go.Extern.Stop Go.Stop Go.Extern Go.Kit

set_option maxRecDepth 100000 in
set_option maxHeartbeats 1000000 in
theorem fnText_walk (F : Interp) (nm : ByteArray) (o l c : Int) (w : World) (hF : F.told.answers w.tape) (ht : Tab w) (l1 : l ≤ 9223372036854775807) (c0 : -9223372036854775808 ≤ c) (c1 : c ≤ 9223372036854775807) (hn : nm.size ≤ 1152921504606846976) :
    Calls Tryf.prog 3 #[.agg #[.string nm, .int .i64 o, .int .i64 l, .int .i64 c]] w fun e w' => e = .returned (.bool true) ∧ Below w.heap.size w w' := by
  have HB : Below w.heap.size w (w.alloc (.cells #[.string nm, .int .i64 o, .int .i64 l, .int .i64 c] 23)) := (Below.refl _ _).alloc (Nat.le_refl _) _
  have p0 : (w.alloc (.cells #[.string nm, .int .i64 o, .int .i64 l, .int .i64 c] 23)).cell? ⟨w.heap.size, 0, none⟩ = some (.string nm) := by simp
  have p1 : (w.alloc (.cells #[.string nm, .int .i64 o, .int .i64 l, .int .i64 c] 23)).cell? ⟨w.heap.size, 1, none⟩ = some (.int .i64 o) := by simp
  have p2 : (w.alloc (.cells #[.string nm, .int .i64 o, .int .i64 l, .int .i64 c] 23)).cell? ⟨w.heap.size, 2, none⟩ = some (.int .i64 l) := by simp
  have p3 : (w.alloc (.cells #[.string nm, .int .i64 o, .int .i64 l, .int .i64 c] 23)).cell? ⟨w.heap.size, 3, none⟩ = some (.int .i64 c) := by simp
  have hlt : w.heap.size < (w.alloc (.cells #[.string nm, .int .i64 o, .int .i64 l, .int .i64 c] 23)).heap.size := by simp
  have HA : Hid (∀ W, Below w.heap.size w W → Calls Tryf.prog 4 #[.agg #[.string nm, .int .i64 o, .int .i64 l, .int .i64 c]] W fun e w' => e = .returned (.string (textS nm l c)) ∧ Below W.heap.size W w') :=
    fun W hb => implText_any F nm o l c W (by rw [hb.tape]; exact hF) (tab_below ht hb) l1 c0 c1 hn
  have HS := Lib.hid (fun W => specText_any nm o l c W l1 c0 c1 hn)
  clear hF ht
  generalize textS nm l c = T at *
  go_enter Tryf.func3, Tryf.ntmps3
  go_wp2
  generalize w.alloc (.cells #[.string nm, .int .i64 o, .int .i64 l, .int .i64 c] 23) = w1 at *
  go_region_held3 (fun w' => w'.cell? ⟨w.heap.size, 0, none⟩ = some (.string nm) ∧ w'.cell? ⟨w.heap.size, 1, none⟩ = some (.int .i64 o) ∧ w'.cell? ⟨w.heap.size, 2, none⟩ = some (.int .i64 l) ∧ w'.cell? ⟨w.heap.size, 3, none⟩ = some (.int .i64 c)) (first | exact ⟨p0, p1, p2, p3⟩ | exact ⟨d0, d1, d2, d3⟩ | exact ⟨g0, g1, g2, g3⟩)
    (first
      | (go_at_call 4
         refine (HA.out _ HB.drew).mono ?_
         rintro e w2 ⟨rfl, hb2⟩
         have d0 := (hb2.cell (p := ⟨w.heap.size, 0, none⟩) hlt).trans p0
         have d1 := (hb2.cell (p := ⟨w.heap.size, 1, none⟩) hlt).trans p1
         have d2 := (hb2.cell (p := ⟨w.heap.size, 2, none⟩) hlt).trans p2
         have d3 := (hb2.cell (p := ⟨w.heap.size, 3, none⟩) hlt).trans p3
         have hlt2 := Nat.lt_of_lt_of_le hlt hb2.size
         have hb3 : Below w.heap.size w w2 := HB.drew.trans (hb2.mono HB.size))
      | (go_at_call 5
         refine (HS.out _).mono ?_
         rintro e w4 ⟨rfl, hb4⟩
         have g0 := (hb4.cell (p := ⟨w.heap.size, 0, none⟩) hlt2).trans d0
         have g1 := (hb4.cell (p := ⟨w.heap.size, 1, none⟩) hlt2).trans d1
         have g2 := (hb4.cell (p := ⟨w.heap.size, 2, none⟩) hlt2).trans d2
         have g3 := (hb4.cell (p := ⟨w.heap.size, 3, none⟩) hlt2).trans d3))
  have hb5 : Below w.heap.size w w4 := hb3.trans (hb4.mono hb3.size)
  clear p0 p1 p2 p3 d0 d1 d2 d3 g0 g1 g2 g3 hb2 hb3 hb4 HA HS HB
  go_wp2
  go_ret
  exact ⟨rfl, hb5⟩

-- THE LISTED TABLES
/-- The door's own heap meets the condition. -/
theorem door_met (os : Os) (args : Array Value) : laidMetH Tryf.prog Rows.fnTextRow.laid ((World.doorLaid Tryf.prog 400 os).forCall (fun _ _ => 0) ⟨#[], args, []⟩).memory :=
  laidMetH_of_parts3 (fuel := 8) (laidMet_of_run' 8 (by kernel_rfl) (by kernel_rfl)) (by kernel_rfl) (by kernel_rfl)
theorem tab_of_laid {W : World} (h : laidMetH Tryf.prog Rows.fnTextRow.laid W) : Tab W := by
  intro name hg
  rw [MakeChecks.laidMetH_plain _ _ _ (by kernel_rfl)] at h
  have h' : laidMet Tryf.prog [(_, Rows.laid_math_bits_deBruijn32tab), (_, Rows.laid_math_bits_deBruijn64tab), (_, Lib.tabData .u64 Lib.pow10Tab)] W := h
  exact tabIs_name (hg.trans (by kernel_rfl)) (Lib.tabIs_of_head (g := 0) (t := 45) (by kernel_rfl) (by kernel_rfl) Tryf.underlying45 (by kernel_rfl) (by kernel_rfl) (by kernel_rfl) h'.tail.tail)
end Go.Proofs.YtmijedghihebjaaFmt

namespace Go.Proofs.YtmijedghihebjaaFmt.fnText
open Go.ChangeShapes Go.WideShapes Go.ChangeAt Go.RowKit
open Go.Joins
open Go.Extern.Stop Go.Stop Go.Extern

theorem cellsPlace : Tryf.prog.cellsOf 23 = 4 := by kernel_rfl
theorem int_range {x : Int} (h : (Lit.int .i64 x).wf = true) : -9223372036854775808 ≤ x ∧ x ≤ 9223372036854775807 := by
  have e1 : IntKind.i64.min = -9223372036854775808 := rfl
  have e2 : IntKind.i64.max = 9223372036854775807 := rfl
  simp [Lit.wf, e1, e2] at h
  omega

set_option maxRecDepth 100000 in
theorem lifted (os : Os) (started : os.Started) (H : Type) (enc : TypeId × Value → H) :
    ReturnsInTold none {} Tryf.checked os 3 .any Input.okWide ((OpenSpec.ofChange Rows.fnTextSpec).preRow enc Tryf.prog Tryf.f3 [] false Rows.fnTextRow.laid) (fun F => ((OpenSpec.ofChange Rows.fnTextSpec).at F).post enc Tryf.prog Tryf.f3 false true false false) (aloneAtReturn Tryf.prog) nothingAlways := by
  refine returnsInTold_of_row (C := Tryf.checked) (s := OpenSpec.ofChange Rows.fnTextSpec) (by kernel_rfl) own started (by kernel_rfl) Tryf.func3
    (OpenSpec.witness_stopped_atRef (enc := enc) (C := Tryf.checked) false (World.doorLaid Tryf.prog 400 os) #[.agg #[.string ⟨#[]⟩, .int .i64 0, .int .i64 0, .int .i64 0]] rfl (by kernel_rfl) (by kernel_rfl) (by kernel_rfl)
      (OpenSpec.preRow_of_B rfl 8 (by kernel_rfl) (by kernel_rfl) (door_met os _))) ?_
  intro F W base args ds gs before _ hF hval0 hW _ _ hsz hL _
  have hval : ∀ (j : Nat) t v, Tryf.f3.params[j]? = some t → args[j]? = some v → Value.okWide Tryf.prog W .any base t v := hval0
  have hW' := hW
  obtain ⟨p, q, hA0, hV, rfl, hfz, hnd⟩ := hW
  have hA : DataW.TrodAll enc Tryf.prog W 0 (fun _ => true) true Tryf.f3.params.toList args.toList ds p := hA0
  rw [Tryf.params3] at hA hval
  obtain ⟨v0, vs0, d0, ds0, p0, q0, hargs, rfl, rfl, h0, r0⟩ := trodAll_cons hA
  obtain ⟨rfl, rfl, rfl⟩ := trodAll_nil r0
  obtain rfl : args = #[v0] := by cases args; simp_all
  obtain ⟨rfl, rfl⟩ := trodVars_none hV
  clear hA0
  obtain ⟨c0, c1, c2, c3, y0, y1, y2, y3, n, rfl, rfl, rfl, t0, t1, t2, t3⟩ := open_agg4 Tryf.underlying23 (by kernel_rfl) cellsPlace (hval 0 23 v0 rfl rfl) h0
  obtain ⟨nm, e0, rfl, _⟩ := DataW.trod_string Tryf.underlying9 t0
  obtain ⟨o, e1, rfl, _⟩ := DataW.trod_int Tryf.underlying3 t1
  obtain ⟨l, e2, rfl, wl⟩ := DataW.trod_int Tryf.underlying3 t2
  obtain ⟨c, e3, rfl, wc⟩ := DataW.trod_int Tryf.underlying3 t3
  simp at e0 e1 e2 e3
  subst e0 e1 e2 e3
  have hlen : nm.size ≤ 1152921504606846976 := by
    have hm := List.all_eq_true.1 hsz nm.data.toList.length (DataW.weights_mem_each (j := 0) (t := 23) rfl rfl _ (by
      have hu : Tryf.checked.prog.underlying 23 = _ := Tryf.underlying23
      simp [DataW.weights, DataW.weightsEach, hu]))
    have hr := reachBytes_lt
    have hs : nm.data.toList.length = nm.size := (Lib.size_eq nm).symm
    simp only [decide_eq_true_eq] at hm
    omega
  refine (fnText_walk F nm o l c W hF (tab_of_laid hL) (int_range wl).2 (int_range wc).1 (int_range wc).2 hlen).mono fun e W' ⟨he, hb⟩ => ?_
  subst he
  exact ⟨_, rfl, law_post (tb := 4) laidOut (by rw [Tryf.params3]; intro t ht; simp at ht; subst ht; exact rd_iPlace) rfl rfl Tryf.underlying4 rfl hW' hb⟩

theorem proved : Rows.FnTextToldSaid :=
  Claim7.holds_of_told_tied_any_at .later 3 Tryf.f3 "fmt.Sprintf" [] [] _ _ _ _ _ (by kernel_rfl) rfl rfl rfl laidOut (by kernel_rfl) rfl ⟨rfl, rfl, rfl, rfl, rfl, rfl, rfl⟩ rfl rfl (by kernel_rfl) (by kernel_rfl) Tryf.func3 (by kernel_rfl)
    (of_decide_eq_true (by kernel_rfl)) (by unfold Func.isWrapper; first | (rw [if_pos (by decide +kernel)]; kernel_rfl) | (rw [if_neg (by decide +kernel)]; exact ⟨rfl, rfl⟩)) stopNames.symm rfl stopKnobs.symm (by kernel_rfl)
    (by kernel_rfl) (by kernel_rfl) (by kernel_rfl) (by kernel_rfl) (by kernel_rfl) (by kernel_rfl) (by kernel_rfl) (by kernel_rfl) (by kernel_rfl) rfl (by kernel_rfl) rfl rfl
    rfl rfl
    rfl (by kernel_rfl) (by kernel_rfl) (by kernel_rfl) (by decide) (by kernel_rfl) fnText_row_tie
    (OpenClaim.moreEntering_of (by kernel_rfl) (by kernel_rfl) (by kernel_rfl) (by kernel_rfl) (by kernel_rfl) (by kernel_rfl) (by kernel_rfl) (by kernel_rfl) (by kernel_rfl) (by kernel_rfl))
    ⟨_, WideRow.started_initial, quiet _⟩
    (fun os started _ H enc _ => lifted os started H enc)

end Go.Proofs.YtmijedghihebjaaFmt.fnText
