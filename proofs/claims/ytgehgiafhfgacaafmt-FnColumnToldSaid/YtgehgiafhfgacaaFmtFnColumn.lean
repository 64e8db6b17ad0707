/- FnColumn: for every script of files, every index and every position the law returns true (fmt's texts told by the kit's own function); no condition. -/
import Derived.Test.YtgehgiafhfgacaaFmtOpenF
import Derived.Test.YtgehgiafhfgacaaFmtPlace
import Derived.Deep.RegionHeld3
import Derived.Test.YtgehgiafhfgacaaFmtCards
namespace Go.Proofs.YtgehgiafhfgacaaFmt
open Go.RowKit

set_option maxRecDepth 100000 in
set_option maxHeartbeats 1000000 in
theorem fnColumn_walk (fv : Value) (fs : List GFile) (k p : Int) (w : World) (hf : Files w fv fs) : Calls Tryf.prog 3 #[fv, .int .i64 k, .int .i64 p] w fun e w' => e = .returned (.bool true) ∧ Below w.heap.size w w' := by
  rcases lines_or fs k with ⟨m, hk, hs⟩ | hk
  · obtain ⟨v1, v2, v3, v4⟩ := hasK_bd hk
    have hg := Lib.hid (good_of hk.1 hk.2.2 hs)
    have HC := Lib.hid (lined_yes fv fs k m w hf hk hs)
    have HP : Hid (∀ W q, Below w.heap.size w W → q ≠ 0 → -4398046511104 ≤ q → q ≤ 4398046511104 → Calls Tryf.prog 10 #[fv, .int .i64 k, .int .i64 q] W fun e w' => e = .returned (.agg #[.string m.name, .int .i64 (offP m q), .int .i64 (lnP m q), .int .i64 (clP m q)]) ∧ Below W.heap.size W w') := fun W q hb h1 h2 h3 => pos_good fv fs k m q W (hf.below hb) hk hs h1 h2 h3
    have HLn : Hid (∀ W q, Below w.heap.size w W → q ≠ 0 → -4398046511104 ≤ q → q ≤ 4398046511104 → Calls Tryf.prog 11 #[fv, .int .i64 k, .int .i64 q] W fun e w' => e = .returned (.int .i64 (lnP m q)) ∧ Below W.heap.size W w') := fun W q hb h1 h2 h3 => line_good fv fs k m q W (hf.below hb) hk hs h1 h2 h3
    obtain ⟨fa, fc, rfl, _⟩ := hf.cell
    clear hf hk
    go_enter Tryf.func3, Tryf.ntmps3
    go_wp2_with fail
    refine HC.out.mono ?_
    rintro e w1 ⟨la, lc, ya, yc, rfl, oL, _, hl, hb1⟩
    clear HC
    have hNN := heap_new w1 (.cells #[.string m.name, .int .i64 m.base, .int .i64 m.size, .slice la m.lines.length lc, .slice ya m.yes.length yc] 26)
    have hb2 : Below w.heap.size w (w1.alloc (.cells #[.string m.name, .int .i64 m.base, .int .i64 m.size, .slice la m.lines.length lc, .slice ya m.yes.length yc] 26)) := hb1.alloc hb1.size _
    by_cases h1 : m.base ≤ p
    · by_cases h2 : p ≤ m.base + m.size
      · have lb := lnP_bd hg.out v2 p
        have sb := stP_bd hg.out v2 p
        have e0 : offP m p = p - m.base := offP_in h1 h2
        obtain ⟨t1, t2, t3, t4⟩ := start_law hg.out v2 h1 h2
        have hcl : clP m p = offP m p - stP m p + 1 := rfl
        have hc1 : 1 ≤ clP m p := by omega
        have hc2 : clP m p ≤ offP m p + 1 := by omega
        have ob := offP_bd v2 p
        have HPP := Lib.hid (fun W hb => HP.out W p hb (by omega) (by omega) (by omega))
        have HPQ := Lib.hid (fun W hb => HP.out W (p - clP m p + 1) hb (by omega) (by omega) (by omega))
        rw [t1, t2, t3] at HPQ
        have FST := Lib.hid (first_law hg.out v2 (p := p))
        have BEF := Lib.hid (before_law hg.out v2 h1 h2)
        have HLQ := Lib.hid (fun W hb (h0 : stP m p ≠ 0) => HLn.out W (p - clP m p) hb (by omega) (by omega) (by omega))
        generalize lnP m (p - clP m p) = l0 at *
        generalize clP m p = c at *
        generalize stP m p = st at *
        generalize lnP m p = l at *
        generalize offP m p = of at *
        have s1 : (l != l) = false := by simp
        have c2 : c ≤ 4398046511104 := by omega
        have l2 : l ≤ 140737488355328 := by omega
        have hpc : 1 ≤ p - c + 1 := by omega
        clear HP HLn hg t1 t2 t3 t4 hcl e0
        go_wp2_with fail
        refine (HPP.out _ hb2).mono ?_
        rintro e w3 ⟨rfl, hb3⟩
        have hb4 : Below w.heap.size w (w3.alloc (.cells #[.string m.name, .int .i64 of, .int .i64 l, .int .i64 c] 30)) := (hb2.trans (hb3.mono hb2.size)).alloc (by have := hb2.size; have := hb3.size; omega) _
        have hA := heap_new w3 (.cells #[.string m.name, .int .i64 of, .int .i64 l, .int .i64 c] 30)
        clear HPP hNN hb3
        go_wp2_with fail
        refine (HPQ.out _ hb4).mono ?_
        rintro e w5 ⟨rfl, hb5⟩
        have hA5 := (hb5.block w3.heap.size (by simp)).trans hA
        have hlt5 : w3.heap.size < w5.heap.size := lt_of_heap hA5
        have hb6 : Below w.heap.size w (w5.alloc (.cells #[.string m.name, .int .i64 st, .int .i64 l, .int .i64 1] 30)) := (hb4.trans (hb5.mono hb4.size)).alloc (by have := hb4.size; have := hb5.size; omega) _
        have a2 := cell_of hA5 2
        have a3 := cell_of hA5 3
        simp only [List.getElem?_toArray, List.getElem?_cons_zero, List.getElem?_cons_succ] at a2 a3
        have A2 := (Below.heap_alloc w5 (.cells #[.string m.name, .int .i64 st, .int .i64 l, .int .i64 1] 30) w3.heap.size hlt5).trans hA5
        clear HPQ hA hA5 hb5 hb4 hb2 hb1
        by_cases h0 : st = 0
        · subst h0
          have hl1 := FST.out rfl
          subst hl1
          clear FST BEF HLQ A2
          go_wp2
          go_ret
          exact ⟨rfl, hb6⟩
        · have s0 : (st == 0) = false := by simpa using h0
          have hl0 := BEF.out h0
          subst hl0
          have HLL := Lib.hid (fun W hb => HLQ.out W hb h0)
          have s3 : ((l - 1 : Int) == l - 1) = true := by simp
          have e1 : IntKind.i64.wrap (l - 1) = l - 1 := IntWalk.i64_in _ (by omega)
          have e2 : IntKind.i64.wrap (p - c) = p - c := IntWalk.i64_in _ (by omega)
          clear FST BEF HLQ h0
          go_wp2_with fail
          have b2 := cell_of A2 2
          have b3 := cell_of A2 3
          simp only [List.getElem?_toArray, List.getElem?_cons_zero, List.getElem?_cons_succ] at b2 b3
          have hltA := lt_of_heap A2
          generalize (w5.alloc (.cells #[.string m.name, .int .i64 st, .int .i64 l, .int .i64 1] 30)) = w6 at *
          generalize w3.heap.size = x at *
          clear A2 a2 a3
          go_region_held3 (fun w' => w'.cell? ⟨x, 2, none⟩ = some (.int .i64 l) ∧ w'.cell? ⟨x, 3, none⟩ = some (.int .i64 c))
            (first | exact ⟨b2, b3⟩ | exact ⟨d2, d3⟩)
            (first
              | (go_at_call 11
                 refine (HLL.out _ hb6.drew).mono ?_
                 rintro e w7 ⟨rfl, hb7⟩
                 have d2 := (hb7.cell (p := ⟨x, 2, none⟩) hltA).trans b2
                 have d3 := (hb7.cell (p := ⟨x, 3, none⟩) hltA).trans b3))
          have hb8 : Below w.heap.size w w7 := hb6.drew.trans (hb7.mono hb6.size)
          clear b2 b3 d2 d3 HLL hb7
          go_wp2
          go_ret
          exact ⟨rfl, hb8⟩
      · have h2' : m.base + m.size < p := by omega
        clear HP HLn hg hNN h2
        go_wp2
        go_ret
        exact ⟨rfl, hb2⟩
    · have h1' : p < m.base := by omega
      clear HP HLn hg hNN h1
      go_wp2
      go_ret
      exact ⟨rfl, hb2⟩
  · have HC := Lib.hid (lined_no fv fs k w hf hk)
    obtain ⟨fa, fc, rfl, _⟩ := hf.cell
    clear hf hk
    go_enter Tryf.func3, Tryf.ntmps3
    go_wp2_with fail
    refine HC.out.mono ?_
    rintro e w1 ⟨nm, b, s, la, ln, lc, ya, yn, yc, rfl, hb1⟩
    clear HC
    have hb2 : Below w.heap.size w (w1.alloc (.cells #[.string nm, .int .i64 b, .int .i64 s, .slice la ln lc, .slice ya yn yc] 26)) := hb1.alloc hb1.size _
    go_wp2
    go_ret
    exact ⟨rfl, hb2⟩
end Go.Proofs.YtgehgiafhfgacaaFmt

-- FRAME (gen_fn.py)
namespace Go.Proofs.YtgehgiafhfgacaaFmt.fnColumn
open Go.ChangeShapes Go.WideShapes Go.ChangeAt Go.RowKit
open Go.Extern.Stop Go.Stop Go.Extern

set_option maxRecDepth 100000 in
theorem lifted (os : Os) (started : os.Started) (H : Type) (enc : TypeId × Value → H) :
    ReturnsInTold none {} Tryf.checked os 3 .any Input.okWide ((OpenSpec.ofChange Rows.fnColumnSpec).preRow enc Tryf.prog Tryf.f3 [] false []) (fun F => ((OpenSpec.ofChange Rows.fnColumnSpec).at F).post enc Tryf.prog Tryf.f3 false true false false) (aloneAtReturn Tryf.prog) nothingAlways := by
  refine returnsInTold_of_row (C := Tryf.checked) (s := OpenSpec.ofChange Rows.fnColumnSpec) (by kernel_rfl) own started (by kernel_rfl) Tryf.func3
    (OpenSpec.witness_stopped (enc := enc) (C := Tryf.checked) false ⟨#[], #[.slice none 0 0, .int .i64 0, .int .i64 0], []⟩ 8 (by kernel_rfl) (by kernel_rfl) (by kernel_rfl) (by kernel_rfl)) ?_
  intro F W base args ds gs before _ hF hval0 hW _ _ hsz _ _
  have hval : ∀ (j : Nat) t v, Tryf.f3.params[j]? = some t → args[j]? = some v → Value.okWide Tryf.prog W .any base t v := hval0
  have hW' := hW
  obtain ⟨p, q, hA0, hV, rfl, hfz, hnd⟩ := hW
  have hA : DataW.TrodAll enc Tryf.prog W 0 (fun _ => true) true Tryf.f3.params.toList args.toList ds p := hA0
  rw [Tryf.params3] at hA hval
  obtain ⟨v0, vs0, d0, ds0, p0, q0, hargs, rfl, rfl, h0, r0⟩ := trodAll_cons hA
  obtain ⟨v1, vs1, d1, ds1, p1, q1, rfl, rfl, rfl, h1, r1⟩ := trodAll_cons r0
  obtain ⟨v2, vs2, d2, ds2, p2, q2, rfl, rfl, rfl, h2, r2⟩ := trodAll_cons r1
  obtain ⟨rfl, rfl, rfl⟩ := trodAll_nil r2
  obtain rfl : args = #[v0, v1, v2] := by cases args; simp_all
  obtain ⟨rfl, rfl⟩ := trodVars_none hV
  clear hA0
  obtain ⟨fs0, hf0, hn0, hr0⟩ := open_arg_files (hval 0 22 v0 rfl rfl) h0 (weights_arg hsz (j := 0) rfl rfl)
  obtain ⟨x1, rfl, rfl, rfl, wx1⟩ := open_int Tryf.underlying3 (hval 1 3 v1 rfl rfl) h1
  obtain ⟨x2, rfl, rfl, rfl, wx2⟩ := open_int Tryf.underlying3 (hval 2 3 v2 rfl rfl) h2
  refine (fnColumn_walk v0 fs0 x1 x2 W hf0).mono fun e W' ⟨he, hb⟩ => ?_
  subst he
  exact ⟨_, rfl, law_post (tb := 4) laidOut (by rw [Tryf.params3]; intro t ht; simp at ht; first | (subst ht; exact rd_iFiles) | (rcases ht with rfl | rfl | rfl <;> first | exact rd_iFiles | exact rd_int)) rfl rfl Tryf.underlying4 rfl hW' hb⟩

theorem proved : Rows.FnColumnToldSaid :=
  Claim7.holds_of_told_any 3 Tryf.f3 "fmt.Sprintf" [] [] _ _ _ (by kernel_rfl) rfl rfl rfl laidOut (by kernel_rfl) rfl ⟨rfl, rfl, rfl, rfl, rfl, rfl, rfl⟩ rfl rfl (by kernel_rfl) (by kernel_rfl) Tryf.func3 (by kernel_rfl)
    (of_decide_eq_true (by kernel_rfl)) (by unfold Func.isWrapper; first | (rw [if_pos (by decide +kernel)]; kernel_rfl) | (rw [if_neg (by decide +kernel)]; exact ⟨rfl, rfl⟩)) stopNames.symm rfl stopKnobs.symm (by kernel_rfl)
    (by kernel_rfl) (by kernel_rfl) (by kernel_rfl) (by kernel_rfl) (by kernel_rfl) (by kernel_rfl) (by kernel_rfl) (by kernel_rfl) (by kernel_rfl) rfl (by kernel_rfl) rfl rfl
    rfl rfl
    rfl (by kernel_rfl) (by kernel_rfl) (by kernel_rfl) (by decide) (by kernel_rfl)
    (OpenClaim.moreEntering_of (by kernel_rfl) (by kernel_rfl) (by kernel_rfl) (by kernel_rfl) (by kernel_rfl) (by kernel_rfl) (by kernel_rfl) (by kernel_rfl) (by kernel_rfl) (by kernel_rfl))
    ⟨_, WideRow.started_initial, quiet _⟩
    (fun os started _ H enc _ => lifted os started H enc)

end Go.Proofs.YtgehgiafhfgacaaFmt.fnColumn
