/- FnOutside: for every script of files, every index and every distance the law returns true (fmt's texts told by the kit's own function); no condition. -/
import Derived.Test.YtigjdicghjofoaaFmtOpenF
import Derived.Test.YtigjdicghjofoaaFmtPlace
import Derived.Deep.RegionHeld3
import Derived.Test.YtigjdicghjofoaaFmtCards
namespace Go.Proofs.YtigjdicghjofoaaFmt
open Go.RowKit

set_option maxRecDepth 100000 in
set_option maxHeartbeats 2000000 in
theorem fnOutside_walk (fv : Value) (fs : List GFile) (k far : Int) (w : World) (hf : Files w fv fs) : Calls Tryf.prog 10 #[fv, .int .i64 k, .int .i64 far] w fun e w' => e = .returned (.bool true) ∧ Below w.heap.size w w' := by
  rcases lines_or fs k with ⟨m, hk, hs⟩ | hk
  · obtain ⟨v1, v2, v3, v4⟩ := hasK_bd hk
    have hg := Lib.hid (good_of hk.1 hk.2.2 hs)
    have HC := Lib.hid (lined_yes fv fs k m w hf hk hs)
    have HP : Hid (∀ W q, Below w.heap.size w W → q ≠ 0 → -4398046511104 ≤ q → q ≤ 4398046511104 → Calls Tryf.prog 29 #[fv, .int .i64 k, .int .i64 q] W fun e w' => e = .returned (.agg #[.string m.name, .int .i64 (offP m q), .int .i64 (lnP m q), .int .i64 (clP m q)]) ∧ Below W.heap.size W w') := fun W q hb h1 h2 h3 => pos_good fv fs k m q W (hf.below hb) hk hs h1 h2 h3
    obtain ⟨fa, fc, rfl, _⟩ := hf.cell
    clear hf hk
    go_enter Tryf.func10, Tryf.ntmps10
    go_wp2_with fail
    refine HC.out.mono ?_
    rintro e w1 ⟨la, lc, ya, yc, rfl, oL, _, hl, hb1⟩
    clear HC
    have hNN := heap_new w1 (.cells #[.string m.name, .int .i64 m.base, .int .i64 m.size, .slice la m.lines.length lc, .slice ya m.yes.length yc] 26)
    have hb2 : Below w.heap.size w (w1.alloc (.cells #[.string m.name, .int .i64 m.base, .int .i64 m.size, .slice la m.lines.length lc, .slice ya m.yes.length yc] 26)) := hb1.alloc hb1.size _
    have hcases : far < 0 ∨ (0 ≤ far ∧ 1099511627776 < far) ∨ (0 ≤ far ∧ far ≤ 1099511627776 ∧ m.base - far = 0) ∨ (0 ≤ far ∧ far ≤ 1099511627776 ∧ m.base - far ≠ 0) := by omega
    rcases hcases with h | ⟨h1, h⟩ | ⟨h1, h2, h⟩ | ⟨h1, h2, h3⟩
    · clear HP hg hNN; go_wp2; go_ret; exact ⟨rfl, hb2⟩
    · clear HP hg hNN; go_wp2; go_ret; exact ⟨rfl, hb2⟩
    · have s0 : ((m.base - far : Int) == 0) = true := by simpa using h
      clear HP hg hNN h
      go_wp2
      go_ret
      exact ⟨rfl, hb2⟩
    · have s0 : ((m.base - far : Int) == 0) = false := by simpa using h3
      have oa : offP m (m.base - far) = 0 := offP_low (by omega)
      have ob : offP m m.base = 0 := offP_low (by omega)
      have oc : offP m (m.base + m.size + far) = m.size := offP_high (by omega) v2
      have od : offP m (m.base + m.size) = m.size := offP_high (by omega) v2
      obtain ⟨la1, la2⟩ := zero_law hg.out oa
      obtain ⟨lb1, lb2⟩ := zero_law hg.out ob
      have lc1 : lnP m (m.base + m.size + far) = lnP m (m.base + m.size) := by unfold lnP; rw [oc, od]
      have lc2 : clP m (m.base + m.size + far) = clP m (m.base + m.size) := by unfold clP; rw [oc, od]
      have HA := Lib.hid (fun W hb => HP.out W (m.base - far) hb h3 (by omega) (by omega))
      have HB := Lib.hid (fun W hb => HP.out W m.base hb (by omega) (by omega) (by omega))
      have HCC := Lib.hid (fun W hb => HP.out W (m.base + m.size + far) hb (by omega) (by omega) (by omega))
      have HD := Lib.hid (fun W hb => HP.out W (m.base + m.size) hb (by omega) (by omega) (by omega))
      rw [oa, la1, la2] at HA
      rw [ob, lb1, lb2] at HB
      rw [oc, lc1, lc2] at HCC
      rw [od] at HD
      generalize lnP m (m.base + m.size) = l at *
      generalize clP m (m.base + m.size) = c at *
      clear HP hg oa ob oc od la1 la2 lb1 lb2 lc1 lc2 h3
      go_wp2_with fail
      refine (HA.out _ hb2).mono ?_
      rintro e w3 ⟨rfl, hb3⟩
      have hb4 : Below w.heap.size w (w3.alloc (.cells #[.string m.name, .int .i64 0, .int .i64 1, .int .i64 1] 43)) := (hb2.trans (hb3.mono hb2.size)).alloc (by have := hb2.size; have := hb3.size; omega) _
      have hA := heap_new w3 (.cells #[.string m.name, .int .i64 0, .int .i64 1, .int .i64 1] 43)
      have hF3 := (hb3.block w1.heap.size (by simp)).trans hNN
      have hF4 := (Below.heap_alloc w3 (.cells #[.string m.name, .int .i64 0, .int .i64 1, .int .i64 1] 43) w1.heap.size (lt_of_heap hF3)).trans hF3
      have k1 := cell_of hF4 1
      have k2 := cell_of hF4 2
      simp only [List.getElem?_toArray, List.getElem?_cons_zero, List.getElem?_cons_succ] at k1 k2
      clear HA hb3 hNN hF3
      go_wp2_with fail
      refine (HCC.out _ hb4).mono ?_
      rintro e w5 ⟨rfl, hb5⟩
      have hA5 := (hb5.block w3.heap.size (by simp)).trans hA
      have hF5 := (hb5.block w1.heap.size (lt_of_heap hF4)).trans hF4
      have hb6 : Below w.heap.size w (w5.alloc (.cells #[.string m.name, .int .i64 m.size, .int .i64 l, .int .i64 c] 43)) := (hb4.trans (hb5.mono hb4.size)).alloc (by have := hb4.size; have := hb5.size; omega) _
      have hB6 := heap_new w5 (.cells #[.string m.name, .int .i64 m.size, .int .i64 l, .int .i64 c] 43)
      have hA6 := (Below.heap_alloc w5 (.cells #[.string m.name, .int .i64 m.size, .int .i64 l, .int .i64 c] 43) w3.heap.size (lt_of_heap hA5)).trans hA5
      have hF6 := (Below.heap_alloc w5 (.cells #[.string m.name, .int .i64 m.size, .int .i64 l, .int .i64 c] 43) w1.heap.size (lt_of_heap hF5)).trans hF5
      clear HCC hA hA5 hF4 hF5 hb4 hb5 k1 k2
      go_wp2_with fail
      generalize (w5.alloc (.cells #[.string m.name, .int .i64 m.size, .int .i64 l, .int .i64 c] 43)) = w6 at *
      generalize w1.heap.size = x at *
      generalize w3.heap.size = xa at *
      generalize w5.heap.size = xb at *
      have f1 := cell_of hF6 1
      have f2 := cell_of hF6 2
      have a0 := cell_of hA6 0
      have a1 := cell_of hA6 1
      have a2 := cell_of hA6 2
      have a3 := cell_of hA6 3
      have b0 := cell_of hB6 0
      have b1 := cell_of hB6 1
      have b2 := cell_of hB6 2
      have b3 := cell_of hB6 3
      simp only [List.getElem?_toArray, List.getElem?_cons_zero, List.getElem?_cons_succ] at f1 f2 a0 a1 a2 a3 b0 b1 b2 b3
      have tx := lt_of_heap hF6
      have ta := lt_of_heap hA6
      have tb := lt_of_heap hB6
      have e1 : IntKind.i64.wrap (m.base + m.size) = m.base + m.size := IntWalk.i64_in _ (by omega)
      clear hF6 hA6 hB6 hb2 hb1
      go_region_held3 (fun w' => w'.cell? ⟨x, 1, none⟩ = some (.int .i64 m.base) ∧ w'.cell? ⟨x, 2, none⟩ = some (.int .i64 m.size) ∧ w'.cell? ⟨xa, 0, none⟩ = some (.string m.name) ∧ w'.cell? ⟨xa, 1, none⟩ = some (.int .i64 0) ∧ w'.cell? ⟨xa, 2, none⟩ = some (.int .i64 1) ∧ w'.cell? ⟨xa, 3, none⟩ = some (.int .i64 1) ∧ w'.cell? ⟨xb, 0, none⟩ = some (.string m.name) ∧ w'.cell? ⟨xb, 1, none⟩ = some (.int .i64 m.size) ∧ w'.cell? ⟨xb, 2, none⟩ = some (.int .i64 l) ∧ w'.cell? ⟨xb, 3, none⟩ = some (.int .i64 c))
        (first | exact ⟨f1, f2, a0, a1, a2, a3, b0, b1, b2, b3⟩ | exact C7.out | exact C8.out)
        (first
          | (go_at_call 29
             ((with_reducible refine (HB.out _ hb6.drew).mono ?_)
              rintro e w7 ⟨rfl, hb7⟩
              have C7 : Hid (w7.cell? ⟨x, 1, none⟩ = some (.int .i64 m.base) ∧ w7.cell? ⟨x, 2, none⟩ = some (.int .i64 m.size) ∧ w7.cell? ⟨xa, 0, none⟩ = some (.string m.name) ∧ w7.cell? ⟨xa, 1, none⟩ = some (.int .i64 0) ∧ w7.cell? ⟨xa, 2, none⟩ = some (.int .i64 1) ∧ w7.cell? ⟨xa, 3, none⟩ = some (.int .i64 1) ∧ w7.cell? ⟨xb, 0, none⟩ = some (.string m.name) ∧ w7.cell? ⟨xb, 1, none⟩ = some (.int .i64 m.size) ∧ w7.cell? ⟨xb, 2, none⟩ = some (.int .i64 l) ∧ w7.cell? ⟨xb, 3, none⟩ = some (.int .i64 c)) := ⟨(hb7.cell (p := ⟨x, 1, none⟩) tx).trans f1, (hb7.cell (p := ⟨x, 2, none⟩) tx).trans f2, (hb7.cell (p := ⟨xa, 0, none⟩) ta).trans a0, (hb7.cell (p := ⟨xa, 1, none⟩) ta).trans a1, (hb7.cell (p := ⟨xa, 2, none⟩) ta).trans a2, (hb7.cell (p := ⟨xa, 3, none⟩) ta).trans a3, (hb7.cell (p := ⟨xb, 0, none⟩) tb).trans b0, (hb7.cell (p := ⟨xb, 1, none⟩) tb).trans b1, (hb7.cell (p := ⟨xb, 2, none⟩) tb).trans b2, (hb7.cell (p := ⟨xb, 3, none⟩) tb).trans b3⟩
              have hb8 : Below w.heap.size w w7 := hb6.drew.trans (hb7.mono hb6.size)
              have hz7 := hb7.size))
          | (go_at_call 29
             refine (HD.out _ hb8).mono ?_
             rintro e w8 ⟨rfl, hb9⟩
             have C8 : Hid (w8.cell? ⟨x, 1, none⟩ = some (.int .i64 m.base) ∧ w8.cell? ⟨x, 2, none⟩ = some (.int .i64 m.size) ∧ w8.cell? ⟨xa, 0, none⟩ = some (.string m.name) ∧ w8.cell? ⟨xa, 1, none⟩ = some (.int .i64 0) ∧ w8.cell? ⟨xa, 2, none⟩ = some (.int .i64 1) ∧ w8.cell? ⟨xa, 3, none⟩ = some (.int .i64 1) ∧ w8.cell? ⟨xb, 0, none⟩ = some (.string m.name) ∧ w8.cell? ⟨xb, 1, none⟩ = some (.int .i64 m.size) ∧ w8.cell? ⟨xb, 2, none⟩ = some (.int .i64 l) ∧ w8.cell? ⟨xb, 3, none⟩ = some (.int .i64 c)) := by
               obtain ⟨p1, p2, p3, p4, p5, p6, p7, p8, p9, p10⟩ := C7.out
               have ux := Nat.lt_of_lt_of_le tx hz7
               have ua := Nat.lt_of_lt_of_le ta hz7
               have ub := Nat.lt_of_lt_of_le tb hz7
               exact ⟨(hb9.cell (p := ⟨x, 1, none⟩) ux).trans p1, (hb9.cell (p := ⟨x, 2, none⟩) ux).trans p2, (hb9.cell (p := ⟨xa, 0, none⟩) ua).trans p3, (hb9.cell (p := ⟨xa, 1, none⟩) ua).trans p4, (hb9.cell (p := ⟨xa, 2, none⟩) ua).trans p5, (hb9.cell (p := ⟨xa, 3, none⟩) ua).trans p6, (hb9.cell (p := ⟨xb, 0, none⟩) ub).trans p7, (hb9.cell (p := ⟨xb, 1, none⟩) ub).trans p8, (hb9.cell (p := ⟨xb, 2, none⟩) ub).trans p9, (hb9.cell (p := ⟨xb, 3, none⟩) ub).trans p10⟩
             have hb10 : Below w.heap.size w w8 := hb8.trans (hb9.mono hb8.size)))
      clear f1 f2 a0 a1 a2 a3 b0 b1 b2 b3 C7 C8 hb9 hb7
      go_wp2
      go_ret
      exact ⟨rfl, hb10⟩
  · have HC := Lib.hid (lined_no fv fs k w hf hk)
    obtain ⟨fa, fc, rfl, _⟩ := hf.cell
    clear hf hk
    go_enter Tryf.func10, Tryf.ntmps10
    go_wp2_with fail
    refine HC.out.mono ?_
    rintro e w1 ⟨nm, b, s, la, ln, lc, ya, yn, yc, rfl, hb1⟩
    clear HC
    have hb2 : Below w.heap.size w (w1.alloc (.cells #[.string nm, .int .i64 b, .int .i64 s, .slice la ln lc, .slice ya yn yc] 26)) := hb1.alloc hb1.size _
    go_wp2
    go_ret
    exact ⟨rfl, hb2⟩
end Go.Proofs.YtigjdicghjofoaaFmt

-- FRAME (gen_fn.py)
namespace Go.Proofs.YtigjdicghjofoaaFmt.fnOutside
open Go.ChangeShapes Go.WideShapes Go.ChangeAt Go.RowKit
open Go.Extern.Stop Go.Stop Go.Extern

set_option maxRecDepth 100000 in
theorem lifted (os : Os) (started : os.Started) (H : Type) (enc : TypeId × Value → H) :
    ReturnsInTold none {} Tryf.checked os 10 .any Input.okWide ((OpenSpec.ofChange Rows.fnOutsideSpec).preRow enc Tryf.prog Tryf.f10 [] false []) (fun F => ((OpenSpec.ofChange Rows.fnOutsideSpec).at F).post enc Tryf.prog Tryf.f10 false true false false) (aloneAtReturn Tryf.prog) nothingAlways := by
  refine returnsInTold_of_row (C := Tryf.checked) (s := OpenSpec.ofChange Rows.fnOutsideSpec) (by kernel_rfl) own started (by kernel_rfl) Tryf.func10
    (OpenSpec.witness_stopped (enc := enc) (C := Tryf.checked) false ⟨#[], #[.slice none 0 0, .int .i64 0, .int .i64 0], []⟩ 8 (by kernel_rfl) (by kernel_rfl) (by kernel_rfl) (by kernel_rfl)) ?_
  intro F W base args ds gs before _ hF hval0 hW _ _ hsz _ _
  have hval : ∀ (j : Nat) t v, Tryf.f10.params[j]? = some t → args[j]? = some v → Value.okWide Tryf.prog W .any base t v := hval0
  have hW' := hW
  obtain ⟨p, q, hA0, hV, rfl, hfz, hnd⟩ := hW
  have hA : DataW.TrodAll enc Tryf.prog W 0 (fun _ => true) true Tryf.f10.params.toList args.toList ds p := hA0
  rw [Tryf.params10] at hA hval
  obtain ⟨v0, vs0, d0, ds0, p0, q0, hargs, rfl, rfl, h0, r0⟩ := trodAll_cons hA
  obtain ⟨v1, vs1, d1, ds1, p1, q1, rfl, rfl, rfl, h1, r1⟩ := trodAll_cons r0
  obtain ⟨v2, vs2, d2, ds2, p2, q2, rfl, rfl, rfl, h2, r2⟩ := trodAll_cons r1
  obtain ⟨rfl, rfl, rfl⟩ := trodAll_nil r2
  obtain rfl : args = #[v0, v1, v2] := by cases args; simp_all
  obtain ⟨rfl, rfl⟩ := trodVars_none hV
  clear hA0
  obtain ⟨fs0, hf0, hn0, hr0⟩ := open_arg_files (hval 0 22 v0 rfl rfl) h0 (weights_arg hsz (j := 0) rfl rfl)
  obtain ⟨x1, rfl, rfl, rfl, wx1⟩ := open_int Tryf.underlying3 (hval 1 3 v1 rfl rfl) h1
  obtain ⟨x2, rfl, rfl, rfl, wx2⟩ := open_int Tryf.underlying3 (hval 2 3 v2 rfl rfl) h2
  refine (fnOutside_walk v0 fs0 x1 x2 W hf0).mono fun e W' ⟨he, hb⟩ => ?_
  subst he
  exact ⟨_, rfl, law_post (tb := 4) laidOut (by rw [Tryf.params10]; intro t ht; simp at ht; first | (subst ht; exact rd_iFiles) | (rcases ht with rfl | rfl | rfl <;> first | exact rd_iFiles | exact rd_int)) rfl rfl Tryf.underlying4 rfl hW' hb⟩

theorem proved : Rows.FnOutsideToldSaid :=
  Claim7.holds_of_told_any 10 Tryf.f10 "fmt.Sprintf" [] [] _ _ _ (by kernel_rfl) rfl rfl rfl laidOut (by kernel_rfl) rfl ⟨rfl, rfl, rfl, rfl, rfl, rfl, rfl⟩ rfl rfl (by kernel_rfl) (by kernel_rfl) Tryf.func10 (by kernel_rfl)
    (of_decide_eq_true (by kernel_rfl)) (by unfold Func.isWrapper; first | (rw [if_pos (by decide +kernel)]; kernel_rfl) | (rw [if_neg (by decide +kernel)]; exact ⟨rfl, rfl⟩)) stopNames.symm rfl stopKnobs.symm (by kernel_rfl)
    (by kernel_rfl) (by kernel_rfl) (by kernel_rfl) (by kernel_rfl) (by kernel_rfl) (by kernel_rfl) (by kernel_rfl) (by kernel_rfl) (by kernel_rfl) rfl (by kernel_rfl) rfl rfl
    rfl rfl
    rfl (by kernel_rfl) (by kernel_rfl) (by kernel_rfl) (by decide) (by kernel_rfl)
    (OpenClaim.moreEntering_of (by kernel_rfl) (by kernel_rfl) (by kernel_rfl) (by kernel_rfl) (by kernel_rfl) (by kernel_rfl) (by kernel_rfl) (by kernel_rfl) (by kernel_rfl) (by kernel_rfl))
    ⟨_, WideRow.started_initial, quiet _⟩
    (fun os started _ H enc _ => lifted os started H enc)

end Go.Proofs.YtigjdicghjofoaaFmt.fnOutside
