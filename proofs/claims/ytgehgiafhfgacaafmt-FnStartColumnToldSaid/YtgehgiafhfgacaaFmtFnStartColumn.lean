/- FnStartColumn: for every script of files, every index and every position the law returns true (fmt's texts told by the kit's own function); no condition. -/
import Derived.Test.YtgehgiafhfgacaaFmtOpenF
import Derived.Test.YtgehgiafhfgacaaFmtPlace
import Derived.Test.YtgehgiafhfgacaaFmtStartG
import Derived.Test.YtgehgiafhfgacaaFmtCards
namespace Go.Proofs.YtgehgiafhfgacaaFmt
open Go.RowKit

set_option maxRecDepth 100000 in
set_option maxHeartbeats 1000000 in
theorem fnStartColumn_walk (fv : Value) (fs : List GFile) (k p : Int) (w : World) (hf : Files w fv fs) : Calls Tryf.prog 6 #[fv, .int .i64 k, .int .i64 p] w fun e w' => e = .returned (.bool true) ∧ Below w.heap.size w w' := by
  rcases lines_or fs k with ⟨m, hk, hs⟩ | hk
  · obtain ⟨v1, v2, v3, v4⟩ := hasK_bd hk
    have hg := Lib.hid (good_of hk.1 hk.2.2 hs)
    have HC := Lib.hid (lined_yes fv fs k m w hf hk hs)
    have HP : Hid (∀ W q, Below w.heap.size w W → q ≠ 0 → -4398046511104 ≤ q → q ≤ 4398046511104 → Calls Tryf.prog 10 #[fv, .int .i64 k, .int .i64 q] W fun e w' => e = .returned (.agg #[.string m.name, .int .i64 (offP m q), .int .i64 (lnP m q), .int .i64 (clP m q)]) ∧ Below W.heap.size W w') := fun W q hb h1 h2 h3 => pos_good fv fs k m q W (hf.below hb) hk hs h1 h2 h3
    have HS : Hid (∀ W (j : Nat), Below w.heap.size w W → j < m.lines.length → Calls Tryf.prog 14 #[fv, .int .i64 k, .int .i64 ((j : Int) + 1)] W fun e w' => e = .returned (.tuple #[.int .i64 (m.base + m.lines.getD j 0), .bool true]) ∧ Below W.heap.size W w') := fun W j hb hj => start_good fv fs k m j W (hf.below hb) hk hs hj
    obtain ⟨fa, fc, rfl, _⟩ := hf.cell
    clear hf hk
    go_enter Tryf.func6, Tryf.ntmps6
    go_wp2_with fail
    refine HC.out.mono ?_
    rintro e w1 ⟨la, lc, ya, yc, rfl, oL, _, hl, hb1⟩
    clear HC
    have hNN := heap_new w1 (.cells #[.string m.name, .int .i64 m.base, .int .i64 m.size, .slice la m.lines.length lc, .slice ya m.yes.length yc] 26)
    have hb2 : Below w.heap.size w (w1.alloc (.cells #[.string m.name, .int .i64 m.base, .int .i64 m.size, .slice la m.lines.length lc, .slice ya m.yes.length yc] 26)) := hb1.alloc hb1.size _
    by_cases h1 : m.base ≤ p
    · by_cases h2 : p ≤ m.base + m.size
      · have lb := lnP_bd hg.out v2 p
        have sb := stP_bd hg.out v2 p
        have e0 : offP m p = p - m.base := offP_in h1 h2
        obtain ⟨j, hj⟩ : ∃ j : Nat, lnP m p = (j : Int) + 1 := ⟨(lnP m p - 1).toNat, by omega⟩
        have hjl : j < m.lines.length := by omega
        have hst : m.lines.getD j 0 = stP m p := by
          unfold stP
          unfold lnP at hj
          rw [show cnt m.lines (offP m p) - 1 = j by omega]
        have hcl : clP m p = p - m.base - stP m p + 1 := by rw [clP_eq, e0]
        have HSS := Lib.hid (fun W hb => HS.out W j hb hjl)
        have HPP := Lib.hid (fun W hb => HP.out W p hb (by omega) (by omega) (by omega))
        rw [hst] at HSS
        rw [hj] at HPP
        have hsum : m.base + stP m p + clP m p - 1 = p := by omega
        have hq1 : 0 ≤ m.base + stP m p := by omega
        have hq2 : m.base + stP m p ≤ 4398046511104 := by omega
        have hc1 : 1 ≤ clP m p := by omega
        have hc2 : clP m p ≤ 4398046511104 := by omega
        generalize clP m p = c at *
        generalize offP m p = of at *
        generalize m.base + stP m p = q at *
        have s1 : ((q + c - 1 : Int) == p) = true := by simpa using hsum
        clear HP HS hg hsum hcl hst e0 sb lb hj
        go_wp2_with fail
        refine (HPP.out _ hb2).mono ?_
        rintro e w3 ⟨rfl, hb3⟩
        have hb4 : Below w.heap.size w (w3.alloc (.cells #[.string m.name, .int .i64 of, .int .i64 ((j : Int) + 1), .int .i64 c] 30)) := (hb2.trans (hb3.mono hb2.size)).alloc (by have := hb2.size; have := hb3.size; omega) _
        have hA := heap_new w3 (.cells #[.string m.name, .int .i64 of, .int .i64 ((j : Int) + 1), .int .i64 c] 30)
        clear HPP hNN hb3
        go_wp2_with fail
        refine (HSS.out _ hb4).mono ?_
        rintro e w5 ⟨rfl, hb5⟩
        have hA5 := (hb5.block w3.heap.size (by simp)).trans hA
        have a3 := cell_of hA5 3
        simp only [List.getElem?_toArray, List.getElem?_cons_zero, List.getElem?_cons_succ] at a3
        have hb6 : Below w.heap.size w w5 := hb4.trans (hb5.mono hb4.size)
        clear HSS hA hA5 hb5 hb4 hb2 hb1
        go_wp2
        go_ret
        exact ⟨rfl, hb6⟩
      · have h2' : m.base + m.size < p := by omega
        clear HP HS hg hNN h2
        go_wp2
        go_ret
        exact ⟨rfl, hb2⟩
    · have h1' : p < m.base := by omega
      clear HP HS hg hNN h1
      go_wp2
      go_ret
      exact ⟨rfl, hb2⟩
  · have HC := Lib.hid (lined_no fv fs k w hf hk)
    obtain ⟨fa, fc, rfl, _⟩ := hf.cell
    clear hf hk
    go_enter Tryf.func6, Tryf.ntmps6
    go_wp2_with fail
    refine HC.out.mono ?_
    rintro e w1 ⟨nm, b, s, la, ln, lc, ya, yn, yc, rfl, hb1⟩
    clear HC
    have hb2 : Below w.heap.size w (w1.alloc (.cells #[.string nm, .int .i64 b, .int .i64 s, .slice la ln lc, .slice ya yn yc] 26)) := hb1.alloc hb1.size _
    go_wp2
    go_ret
    exact ⟨rfl, hb2⟩
end Go.Proofs.YtgehgiafhfgacaaFmt

-- FRAME (gen_fn.py)
namespace Go.Proofs.YtgehgiafhfgacaaFmt.fnStartColumn
open Go.ChangeShapes Go.WideShapes Go.ChangeAt Go.RowKit
open Go.Extern.Stop Go.Stop Go.Extern

set_option maxRecDepth 100000 in
theorem lifted (os : Os) (started : os.Started) (H : Type) (enc : TypeId × Value → H) :
    ReturnsInTold none {} Tryf.checked os 6 .any Input.okWide ((OpenSpec.ofChange Rows.fnStartColumnSpec).preRow enc Tryf.prog Tryf.f6 [] false []) (fun F => ((OpenSpec.ofChange Rows.fnStartColumnSpec).at F).post enc Tryf.prog Tryf.f6 false true false false) (aloneAtReturn Tryf.prog) nothingAlways := by
  refine returnsInTold_of_row (C := Tryf.checked) (s := OpenSpec.ofChange Rows.fnStartColumnSpec) (by kernel_rfl) own started (by kernel_rfl) Tryf.func6
    (OpenSpec.witness_stopped (enc := enc) (C := Tryf.checked) false ⟨#[], #[.slice none 0 0, .int .i64 0, .int .i64 0], []⟩ 8 (by kernel_rfl) (by kernel_rfl) (by kernel_rfl) (by kernel_rfl)) ?_
  intro F W base args ds gs before _ hF hval0 hW _ _ hsz _ _
  have hval : ∀ (j : Nat) t v, Tryf.f6.params[j]? = some t → args[j]? = some v → Value.okWide Tryf.prog W .any base t v := hval0
  have hW' := hW
  obtain ⟨p, q, hA0, hV, rfl, hfz, hnd⟩ := hW
  have hA : DataW.TrodAll enc Tryf.prog W 0 (fun _ => true) true Tryf.f6.params.toList args.toList ds p := hA0
  rw [Tryf.params6] at hA hval
  obtain ⟨v0, vs0, d0, ds0, p0, q0, hargs, rfl, rfl, h0, r0⟩ := trodAll_cons hA
  obtain ⟨v1, vs1, d1, ds1, p1, q1, rfl, rfl, rfl, h1, r1⟩ := trodAll_cons r0
  obtain ⟨v2, vs2, d2, ds2, p2, q2, rfl, rfl, rfl, h2, r2⟩ := trodAll_cons r1
  obtain ⟨rfl, rfl, rfl⟩ := trodAll_nil r2
  obtain rfl : args = #[v0, v1, v2] := by cases args; simp_all
  obtain ⟨rfl, rfl⟩ := trodVars_none hV
  clear hA0
  obtain ⟨fs0, hf0, hn0, hr0⟩ := open_arg_files (hval 0 22 v0 rfl rfl) h0 (weights_arg hsz (j := 0) rfl rfl)
  obtain ⟨x1, rfl, rfl, rfl, wx1⟩ := open_int Tryf.underlying3 (hval 1 3 v1 rfl rfl) h1
  obtain ⟨x2, rfl, rfl, rfl, wx2⟩ := open_int Tryf.underlying3 (hval 2 3 v2 rfl rfl) h2
  refine (fnStartColumn_walk v0 fs0 x1 x2 W hf0).mono fun e W' ⟨he, hb⟩ => ?_
  subst he
  exact ⟨_, rfl, law_post (tb := 4) laidOut (by rw [Tryf.params6]; intro t ht; simp at ht; first | (subst ht; exact rd_iFiles) | (rcases ht with rfl | rfl | rfl <;> first | exact rd_iFiles | exact rd_int)) rfl rfl Tryf.underlying4 rfl hW' hb⟩

theorem proved : Rows.FnStartColumnToldSaid :=
  Claim7.holds_of_told_any 6 Tryf.f6 "fmt.Sprintf" [] [] _ _ _ (by kernel_rfl) rfl rfl rfl laidOut (by kernel_rfl) rfl ⟨rfl, rfl, rfl, rfl, rfl, rfl, rfl⟩ rfl rfl (by kernel_rfl) (by kernel_rfl) Tryf.func6 (by kernel_rfl)
    (of_decide_eq_true (by kernel_rfl)) (by unfold Func.isWrapper; first | (rw [if_pos (by decide +kernel)]; kernel_rfl) | (rw [if_neg (by decide +kernel)]; exact ⟨rfl, rfl⟩)) stopNames.symm rfl stopKnobs.symm (by kernel_rfl)
    (by kernel_rfl) (by kernel_rfl) (by kernel_rfl) (by kernel_rfl) (by kernel_rfl) (by kernel_rfl) (by kernel_rfl) (by kernel_rfl) (by kernel_rfl) rfl (by kernel_rfl) rfl rfl
    rfl rfl
    rfl (by kernel_rfl) (by kernel_rfl) (by kernel_rfl) (by decide) (by kernel_rfl)
    (OpenClaim.moreEntering_of (by kernel_rfl) (by kernel_rfl) (by kernel_rfl) (by kernel_rfl) (by kernel_rfl) (by kernel_rfl) (by kernel_rfl) (by kernel_rfl) (by kernel_rfl) (by kernel_rfl))
    ⟨_, WideRow.started_initial, quiet _⟩
    (fun os started _ H enc _ => lifted os started H enc)

end Go.Proofs.YtgehgiafhfgacaaFmt.fnStartColumn
