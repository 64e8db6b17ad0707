/- FnRises: for every script of files, every index and any two positions the law returns true (fmt's texts told by the kit's own function); no condition. -/
import Derived.Test.YtigjdicghjofoaaFmtOpenF
import Derived.Test.YtigjdicghjofoaaFmtPlace
import Derived.Test.YtigjdicghjofoaaFmtCards
namespace Go.Proofs.YtigjdicghjofoaaFmt
open Go.RowKit

set_option maxRecDepth 100000 in
set_option maxHeartbeats 1000000 in
theorem fnRises_walk (fv : Value) (fs : List GFile) (k p more : Int) (w : World) (hf : Files w fv fs) : Calls Tryf.prog 12 #[fv, .int .i64 k, .int .i64 p, .int .i64 more] w fun e w' => e = .returned (.bool true) ∧ Below w.heap.size w w' := by
  rcases lines_or fs k with ⟨m, hk, hs⟩ | hk
  · obtain ⟨v1, v2, v3, v4⟩ := hasK_bd hk
    have hg := Lib.hid (good_of hk.1 hk.2.2 hs)
    have HC := Lib.hid (lined_yes fv fs k m w hf hk hs)
    have HP : Hid (∀ W q, Below w.heap.size w W → q ≠ 0 → -4398046511104 ≤ q → q ≤ 4398046511104 → Calls Tryf.prog 29 #[fv, .int .i64 k, .int .i64 q] W fun e w' => e = .returned (.agg #[.string m.name, .int .i64 (offP m q), .int .i64 (lnP m q), .int .i64 (clP m q)]) ∧ Below W.heap.size W w') := fun W q hb h1 h2 h3 => pos_good fv fs k m q W (hf.below hb) hk hs h1 h2 h3
    obtain ⟨fa, fc, rfl, _⟩ := hf.cell
    clear hf hk
    have hcases : more < 0 ∨ (0 ≤ more ∧ m.size < more) ∨ (0 ≤ more ∧ more ≤ m.size ∧ p < m.base) ∨ (0 ≤ more ∧ more ≤ m.size ∧ m.base ≤ p ∧ m.base + m.size - more < p) ∨ (0 ≤ more ∧ more ≤ m.size ∧ m.base ≤ p ∧ p ≤ m.base + m.size - more) := by omega
    have HCS := Lib.hid hcases
    clear hcases
    go_enter Tryf.func12, Tryf.ntmps12
    go_wp2_with fail
    refine HC.out.mono ?_
    rintro e w1 ⟨la, lc, ya, yc, rfl, _, _, hl, hb1⟩
    clear HC
    have hb2 : Below w.heap.size w (w1.alloc (.cells #[.string m.name, .int .i64 m.base, .int .i64 m.size, .slice la m.lines.length lc, .slice ya m.yes.length yc] 26)) := hb1.alloc hb1.size _
    rcases HCS.out with h | ⟨h1, h⟩ | ⟨h1, h2, h⟩ | ⟨h1, h2, h3, h⟩ | ⟨h1, h2, h3, h4⟩
    · clear HCS; go_wp2; go_ret; exact ⟨rfl, hb2⟩
    · clear HCS; go_wp2; go_ret; exact ⟨rfl, hb2⟩
    · clear HCS; go_wp2; go_ret; exact ⟨rfl, hb2⟩
    · clear HCS; go_wp2; go_ret; exact ⟨rfl, hb2⟩
    · clear HCS
      obtain ⟨r1, r2, r3⟩ := rises_law h1 h3 h4
      have lb := (lnP_bd hg.out v2 p).1
      have hlb := (lnP_bd hg.out v2 p).2
      have hlb2 := (lnP_bd hg.out v2 (p + more)).2
      have ob := offP_bd v2 p
      have sb := stP_bd hg.out v2 p
      have hc1 : clP m p ≤ 4398046511104 := by rw [clP_eq]; omega
      have hc0 : 0 ≤ clP m p := by rw [clP_eq]; omega
      have HB := HP.out (q := p + more)
      have HPP := Lib.hid (fun W hb => HP.out W p hb (by omega) (by omega) (by omega))
      have HPQ := Lib.hid (fun W hb => HP.out W (p + more) hb (by omega) (by omega) (by omega))
      rw [r1] at HPQ
      generalize offP m p = o1 at *
      generalize lnP m p = l1 at *
      generalize clP m p = c1 at *
      generalize lnP m (p + more) = l2 at *
      generalize clP m (p + more) = c2 at *
      clear HP HB hg r1
      have R3 := Lib.hid r3
      clear r3 sb
      go_wp2_with fail
      refine (HPP.out _ hb2).mono ?_
      rintro e w3 ⟨rfl, hb3⟩
      have hb4 : Below w.heap.size w (w3.alloc (.cells #[.string m.name, .int .i64 o1, .int .i64 l1, .int .i64 c1] 43)) := (hb2.trans (hb3.mono hb2.size)).alloc (by have := hb2.size; have := hb3.size; omega) _
      have hA := heap_new w3 (.cells #[.string m.name, .int .i64 o1, .int .i64 l1, .int .i64 c1] 43)
      go_wp2_with fail
      refine (HPQ.out _ hb4).mono ?_
      rintro e w5 ⟨rfl, hb5⟩
      have hA5 := (hb5.block w3.heap.size (by simp)).trans hA
      have a1 := cell_of hA5 1
      have a2 := cell_of hA5 2
      have a3 := cell_of hA5 3
      simp only [List.getElem?_toArray, List.getElem?_cons_zero, List.getElem?_cons_succ] at a1 a2 a3
      have hlt5 : w3.heap.size < w5.heap.size := lt_of_heap hA5
      have hb6 : Below w.heap.size w (w5.alloc (.cells #[.string m.name, .int .i64 (o1 + more), .int .i64 l2, .int .i64 c2] 43)) := (hb4.trans (hb5.mono hb4.size)).alloc (by have := hb4.size; have := hb5.size; omega) _
      clear HPP HPQ hA hA5 hb3 hb4 hb5 hb2 hb1
      have s1 : ((o1 + more) != (o1 + more)) = false := by simp
      by_cases hl12 : l1 = l2
      · subst hl12
        have e3 := R3.out rfl
        subst e3
        have s2 : (l1 != l1) = false := by simp
        have s3 : ((c1 + more) == (c1 + more)) = true := by simp
        clear R3
        go_wp2
        go_ret
        exact ⟨rfl, hb6⟩
      · have s2 : (l1 != l2) = true := by simpa using hl12
        clear R3 hl12
        go_wp2
        go_ret
        exact ⟨rfl, hb6⟩
  · have HC := Lib.hid (lined_no fv fs k w hf hk)
    obtain ⟨fa, fc, rfl, _⟩ := hf.cell
    clear hf hk
    go_enter Tryf.func12, Tryf.ntmps12
    go_wp2_with fail
    refine HC.out.mono ?_
    rintro e w1 ⟨nm, b, s, la, ln, lc, ya, yn, yc, rfl, hb1⟩
    clear HC
    have hb2 : Below w.heap.size w (w1.alloc (.cells #[.string nm, .int .i64 b, .int .i64 s, .slice la ln lc, .slice ya yn yc] 26)) := hb1.alloc hb1.size _
    go_wp2
    go_ret
    exact ⟨rfl, hb2⟩
end Go.Proofs.YtigjdicghjofoaaFmt

-- FRAME (gen_fn.py)
namespace Go.Proofs.YtigjdicghjofoaaFmt.fnRises
open Go.ChangeShapes Go.WideShapes Go.ChangeAt Go.RowKit
open Go.Extern.Stop Go.Stop Go.Extern

set_option maxRecDepth 100000 in
theorem lifted (os : Os) (started : os.Started) (H : Type) (enc : TypeId × Value → H) :
    ReturnsInTold none {} Tryf.checked os 12 .any Input.okWide ((OpenSpec.ofChange Rows.fnRisesSpec).preRow enc Tryf.prog Tryf.f12 [] false []) (fun F => ((OpenSpec.ofChange Rows.fnRisesSpec).at F).post enc Tryf.prog Tryf.f12 false true false false) (aloneAtReturn Tryf.prog) nothingAlways := by
  refine returnsInTold_of_row (C := Tryf.checked) (s := OpenSpec.ofChange Rows.fnRisesSpec) (by kernel_rfl) own started (by kernel_rfl) Tryf.func12
    (OpenSpec.witness_stopped (enc := enc) (C := Tryf.checked) false ⟨#[], #[.slice none 0 0, .int .i64 0, .int .i64 0, .int .i64 0], []⟩ 8 (by kernel_rfl) (by kernel_rfl) (by kernel_rfl) (by kernel_rfl)) ?_
  intro F W base args ds gs before _ hF hval0 hW _ _ hsz _ _
  have hval : ∀ (j : Nat) t v, Tryf.f12.params[j]? = some t → args[j]? = some v → Value.okWide Tryf.prog W .any base t v := hval0
  have hW' := hW
  obtain ⟨p, q, hA0, hV, rfl, hfz, hnd⟩ := hW
  have hA : DataW.TrodAll enc Tryf.prog W 0 (fun _ => true) true Tryf.f12.params.toList args.toList ds p := hA0
  rw [Tryf.params12] at hA hval
  obtain ⟨v0, vs0, d0, ds0, p0, q0, hargs, rfl, rfl, h0, r0⟩ := trodAll_cons hA
  obtain ⟨v1, vs1, d1, ds1, p1, q1, rfl, rfl, rfl, h1, r1⟩ := trodAll_cons r0
  obtain ⟨v2, vs2, d2, ds2, p2, q2, rfl, rfl, rfl, h2, r2⟩ := trodAll_cons r1
  obtain ⟨v3, vs3, d3, ds3, p3, q3, rfl, rfl, rfl, h3, r3⟩ := trodAll_cons r2
  obtain ⟨rfl, rfl, rfl⟩ := trodAll_nil r3
  obtain rfl : args = #[v0, v1, v2, v3] := by cases args; simp_all
  obtain ⟨rfl, rfl⟩ := trodVars_none hV
  clear hA0
  obtain ⟨fs0, hf0, hn0, hr0⟩ := open_arg_files (hval 0 22 v0 rfl rfl) h0 (weights_arg hsz (j := 0) rfl rfl)
  obtain ⟨x1, rfl, rfl, rfl, wx1⟩ := open_int Tryf.underlying3 (hval 1 3 v1 rfl rfl) h1
  obtain ⟨x2, rfl, rfl, rfl, wx2⟩ := open_int Tryf.underlying3 (hval 2 3 v2 rfl rfl) h2
  obtain ⟨x3, rfl, rfl, rfl, wx3⟩ := open_int Tryf.underlying3 (hval 3 3 v3 rfl rfl) h3
  refine (fnRises_walk v0 fs0 x1 x2 x3 W hf0).mono fun e W' ⟨he, hb⟩ => ?_
  subst he
  exact ⟨_, rfl, law_post (tb := 4) laidOut (by rw [Tryf.params12]; intro t ht; simp at ht; first | (subst ht; exact rd_iFiles) | (rcases ht with rfl | rfl | rfl | rfl <;> first | exact rd_iFiles | exact rd_int)) rfl rfl Tryf.underlying4 rfl hW' hb⟩

theorem proved : Rows.FnRisesToldSaid :=
  Claim7.holds_of_told_any 12 Tryf.f12 "fmt.Sprintf" [] [] _ _ _ (by kernel_rfl) rfl rfl rfl laidOut (by kernel_rfl) rfl ⟨rfl, rfl, rfl, rfl, rfl, rfl, rfl⟩ rfl rfl (by kernel_rfl) (by kernel_rfl) Tryf.func12 (by kernel_rfl)
    (of_decide_eq_true (by kernel_rfl)) (by unfold Func.isWrapper; first | (rw [if_pos (by decide +kernel)]; kernel_rfl) | (rw [if_neg (by decide +kernel)]; exact ⟨rfl, rfl⟩)) stopNames.symm rfl stopKnobs.symm (by kernel_rfl)
    (by kernel_rfl) (by kernel_rfl) (by kernel_rfl) (by kernel_rfl) (by kernel_rfl) (by kernel_rfl) (by kernel_rfl) (by kernel_rfl) (by kernel_rfl) rfl (by kernel_rfl) rfl rfl
    rfl rfl
    rfl (by kernel_rfl) (by kernel_rfl) (by kernel_rfl) (by decide) (by kernel_rfl)
    (OpenClaim.moreEntering_of (by kernel_rfl) (by kernel_rfl) (by kernel_rfl) (by kernel_rfl) (by kernel_rfl) (by kernel_rfl) (by kernel_rfl) (by kernel_rfl) (by kernel_rfl) (by kernel_rfl))
    ⟨_, WideRow.started_initial, quiet _⟩
    (fun os started _ H enc _ => lifted os started H enc)

end Go.Proofs.YtigjdicghjofoaaFmt.fnRises
