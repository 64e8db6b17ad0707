/- FnPos: for every script of files, every index and every offset the law returns true (fmt's texts told by the kit's own function); no condition. -/
import Derived.Test.YtboccjnlfehgoaaFmtOpenF
import Derived.Test.YtboccjnlfehgoaaFmtHeads
import Derived.Test.YtboccjnlfehgoaaFmtCards
import Derived.Deep.QuietTactic
import Derived.BigQuiet
namespace Go.Proofs.YtboccjnlfehgoaaFmt
open Go.RowKit

set_option maxRecDepth 100000 in
set_option maxHeartbeats 1000000 in
theorem fnPos_walk (fv : Value) (fs : List GFile) (k p : Int) (w : World) (hf : Files w fv fs) : Calls Tryf.prog 10 #[fv, .int .i64 k, .int .i64 p] w fun e w' => e = .returned (.bool true) ∧ Below w.heap.size w w' := by
  rcases hasK_or fs k with ⟨m, hk⟩ | hk
  · obtain ⟨v1, v2, v3, v4, v5⟩ := (valid_bounds hk.1).2 m (List.mem_of_getElem? hk.2.2)
    have HC := Lib.hid (at_yes fv fs k m w hf hk)
    obtain ⟨o, ho⟩ : ∃ o, o = m.base + fixOff m.size p := ⟨_, rfl⟩
    have HI : Hid (∀ W, Below w.heap.size w W → Calls Tryf.prog 33 #[fv, .int .i64 k, .int .i64 p] W fun e w' => e = .returned (.int .i64 o) ∧ Below W.heap.size W w') := fun W hb => by
      have := implPos_any fv fs k.toNat m p W (hf.below hb) hk.1 hk.2.2
      rw [Int.toNat_of_nonneg hk.2.1, ← ho] at this
      exact this
    have HS : Hid (∀ la lc ya yc W, Calls Tryf.prog 34 #[.agg #[.string m.name, .int .i64 m.base, .int .i64 m.size, .slice la m.lines.length lc, .slice ya m.yes.length yc], .int .i64 p] W fun e w' => e = .returned (.int .i64 o) ∧ Below W.heap.size W w') := fun la lc ya yc W => by
      have := specPos_any m.name m.base m.size la ya m.lines.length lc m.yes.length yc p W (by omega) v4 v2 v3
      rw [← ho] at this
      exact this
    obtain ⟨fa, fc, rfl, _⟩ := hf.cell
    clear hf hk ho
    go_enter Tryf.func10, Tryf.ntmps10
    go_wp2_with fail
    refine HC.out.mono ?_
    rintro e w1 ⟨la, lc, ya, yc, rfl, _, _, hl, hb1⟩
    clear HC
    go_wp2_with fail
    have hNN := heap_new w1 (.cells #[.string m.name, .int .i64 m.base, .int .i64 m.size, .slice la m.lines.length lc, .slice ya m.yes.length yc] 35)
    have hb2 : Below w.heap.size w (w1.alloc (.cells #[.string m.name, .int .i64 m.base, .int .i64 m.size, .slice la m.lines.length lc, .slice ya m.yes.length yc] 35)) := hb1.alloc hb1.size _
    have hlt : w1.heap.size < (w1.alloc (.cells #[.string m.name, .int .i64 m.base, .int .i64 m.size, .slice la m.lines.length lc, .slice ya m.yes.length yc] 35)).heap.size := by simp
    generalize (w1.alloc (.cells #[.string m.name, .int .i64 m.base, .int .i64 m.size, .slice la m.lines.length lc, .slice ya m.yes.length yc] 35)) = w2 at *
    generalize hx : w1.heap.size = x at *
    clear hx hb1
    by_cases hn : -2199023255552 ≤ p ∧ p ≤ 2199023255552
    · obtain ⟨n1, n2⟩ := hn
      have f0 := cell_of hNN 0
      have f1 := cell_of hNN 1
      have f2 := cell_of hNN 2
      have f3 := cell_of hNN 3
      have f4 := cell_of hNN 4
      simp only [List.getElem?_toArray, List.getElem?_cons_zero, List.getElem?_cons_succ] at f0 f1 f2 f3 f4
      clear hNN
      go_region_held3 (fun w' => w'.cell? ⟨x, 0, none⟩ = some (.string m.name) ∧ w'.cell? ⟨x, 1, none⟩ = some (.int .i64 m.base) ∧ w'.cell? ⟨x, 2, none⟩ = some (.int .i64 m.size) ∧ w'.cell? ⟨x, 3, none⟩ = some (.slice la m.lines.length lc) ∧ w'.cell? ⟨x, 4, none⟩ = some (.slice ya m.yes.length yc))
        (first | exact ⟨f0, f1, f2, f3, f4⟩ | exact ⟨q0, q1, q2, q3, q4⟩ | exact ⟨r0, r1, r2, r3, r4⟩)
        (first
          | (go_at_call 30; refine (near_yes p _ n1 n2).mono ?_; rintro e w' ⟨rfl, rfl⟩)
          | (go_at_call 33
             refine (HI.out _ hb2.drew).mono ?_
             rintro e w3 ⟨rfl, hb3⟩
             have q0 := (hb3.cell (p := ⟨x, 0, none⟩) hlt).trans f0
             have q1 := (hb3.cell (p := ⟨x, 1, none⟩) hlt).trans f1
             have q2 := (hb3.cell (p := ⟨x, 2, none⟩) hlt).trans f2
             have q3 := (hb3.cell (p := ⟨x, 3, none⟩) hlt).trans f3
             have q4 := (hb3.cell (p := ⟨x, 4, none⟩) hlt).trans f4)
          | (go_at_call 34
             refine (HS.out la lc ya yc w3).mono ?_
             rintro e w4 ⟨rfl, hb4⟩
             have hlt3 := Nat.lt_of_lt_of_le hlt hb3.size
             have r0 := (hb4.cell (p := ⟨x, 0, none⟩) hlt3).trans q0
             have r1 := (hb4.cell (p := ⟨x, 1, none⟩) hlt3).trans q1
             have r2 := (hb4.cell (p := ⟨x, 2, none⟩) hlt3).trans q2
             have r3 := (hb4.cell (p := ⟨x, 3, none⟩) hlt3).trans q3
             have r4 := (hb4.cell (p := ⟨x, 4, none⟩) hlt3).trans q4))
      have hb5 : Below w.heap.size w w4 := (hb2.drew.trans (hb3.mono hb2.size)).trans (hb4.mono (Nat.le_trans hb2.size hb3.size))
      clear q0 q1 q2 q3 q4 r0 r1 r2 r3 r4 f0 f1 f2 f3 f4 hb3 hb4
      go_wp2
      go_ret
      exact ⟨rfl, hb5⟩
    · have hn' : p < -2199023255552 ∨ 2199023255552 < p := by omega
      have HN := Lib.hid (fun W => near_no p W hn')
      clear hn hn' hNN HI HS
      go_quiet ((go_at_call 30; exact Calls.quiet_of_same (HN.out _)))
      go_wp2
      go_ret
      exact ⟨rfl, below_drewN hb2 _⟩
  · have HC := Lib.hid (at_no fv fs k w hf hk)
    obtain ⟨fa, fc, rfl, _⟩ := hf.cell
    clear hf hk
    go_enter Tryf.func10, Tryf.ntmps10
    go_wp2_with fail
    refine HC.out.mono ?_
    rintro e w1 ⟨nm, b, s, la, ln, lc, ya, yn, yc, rfl, hb1⟩
    clear HC
    go_wp2_with fail
    have hb2 : Below w.heap.size w (w1.alloc (.cells #[.string nm, .int .i64 b, .int .i64 s, .slice la ln lc, .slice ya yn yc] 35)) := hb1.alloc hb1.size _
    generalize (w1.alloc (.cells #[.string nm, .int .i64 b, .int .i64 s, .slice la ln lc, .slice ya yn yc] 35)) = w2 at *
    go_quiet (fail)
    go_wp2
    go_ret
    exact ⟨rfl, below_drewN hb2 _⟩
end Go.Proofs.YtboccjnlfehgoaaFmt

-- FRAME (gen_fn.py)
namespace Go.Proofs.YtboccjnlfehgoaaFmt.fnPos
open Go.ChangeShapes Go.WideShapes Go.ChangeAt Go.RowKit
open Go.Extern.Stop Go.Stop Go.Extern

set_option maxRecDepth 100000 in
theorem lifted (os : Os) (started : os.Started) (H : Type) (enc : TypeId × Value → H) :
    ReturnsInTold none {} Tryf.checked os 10 .any Input.okWide ((OpenSpec.ofChange Rows.fnPosSpec).preRow enc Tryf.prog Tryf.f10 [] false []) (fun F => ((OpenSpec.ofChange Rows.fnPosSpec).at F).post enc Tryf.prog Tryf.f10 false true false false) (aloneAtReturn Tryf.prog) nothingAlways := by
  refine returnsInTold_of_row (C := Tryf.checked) (s := OpenSpec.ofChange Rows.fnPosSpec) (by kernel_rfl) own started (by kernel_rfl) Tryf.func10
    (OpenSpec.witness_stopped (enc := enc) (C := Tryf.checked) false ⟨#[], #[.slice none 0 0, .int .i64 0, .int .i64 0], []⟩ 8 (by kernel_rfl) (by kernel_rfl) (by kernel_rfl) (by kernel_rfl)) ?_
  intro F W base args ds gs before _ hF hval0 hW _ _ hsz _ _
  have hval : ∀ (j : Nat) t v, Tryf.f10.params[j]? = some t → args[j]? = some v → Value.okWide Tryf.prog W .any base t v := hval0
  have hW' := hW
  obtain ⟨p, q, hA0, hV, rfl, hfz, hnd⟩ := hW
  have hA : DataW.TrodAll enc Tryf.prog W 0 (fun _ => true) true Tryf.f10.params.toList args.toList ds p := hA0
  rw [Tryf.params10] at hA hval
  obtain ⟨v0, vs0, d0, ds0, p0, q0, hargs, rfl, rfl, h0, r0⟩ := trodAll_cons hA
  obtain ⟨v1, vs1, d1, ds1, p1, q1, rfl, rfl, rfl, h1, r1⟩ := trodAll_cons r0
  obtain ⟨v2, vs2, d2, ds2, p2, q2, rfl, rfl, rfl, h2, r2⟩ := trodAll_cons r1
  obtain ⟨rfl, rfl, rfl⟩ := trodAll_nil r2
  obtain rfl : args = #[v0, v1, v2] := by cases args; simp_all
  obtain ⟨rfl, rfl⟩ := trodVars_none hV
  clear hA0
  obtain ⟨fs0, hf0, hn0, hr0⟩ := open_arg_files (hval 0 32 v0 rfl rfl) h0 (weights_arg hsz (j := 0) rfl rfl)
  obtain ⟨x1, rfl, rfl, rfl, wx1⟩ := open_int Tryf.underlying3 (hval 1 3 v1 rfl rfl) h1
  obtain ⟨x2, rfl, rfl, rfl, wx2⟩ := open_int Tryf.underlying3 (hval 2 3 v2 rfl rfl) h2
  refine (fnPos_walk v0 fs0 x1 x2 W hf0).mono fun e W' ⟨he, hb⟩ => ?_
  subst he
  exact ⟨_, rfl, law_post (tb := 4) laidOut (by rw [Tryf.params10]; intro t ht; simp at ht; first | (subst ht; exact rd_iFiles) | (rcases ht with rfl | rfl | rfl <;> first | exact rd_iFiles | exact rd_int)) rfl rfl Tryf.underlying4 rfl hW' hb⟩

theorem proved : Rows.FnPosToldSaid :=
  Claim7.holds_of_told_any 10 Tryf.f10 "fmt.Sprintf" [] [] _ _ _ (by kernel_rfl) rfl rfl rfl laidOut (by kernel_rfl) rfl ⟨rfl, rfl, rfl, rfl, rfl, rfl, rfl⟩ rfl rfl (by kernel_rfl) (by kernel_rfl) Tryf.func10 (by kernel_rfl)
    (of_decide_eq_true (by kernel_rfl)) (by unfold Func.isWrapper; first | (rw [if_pos (by decide +kernel)]; kernel_rfl) | (rw [if_neg (by decide +kernel)]; exact ⟨rfl, rfl⟩)) stopNames.symm rfl stopKnobs.symm (by kernel_rfl)
    (by kernel_rfl) (by kernel_rfl) (by kernel_rfl) (by kernel_rfl) (by kernel_rfl) (by kernel_rfl) (by kernel_rfl) (by kernel_rfl) (by kernel_rfl) rfl (by kernel_rfl) rfl rfl
    rfl rfl
    rfl (by kernel_rfl) (by kernel_rfl) (by kernel_rfl) (by decide) (by kernel_rfl)
    (OpenClaim.moreEntering_of (by kernel_rfl) (by kernel_rfl) (by kernel_rfl) (by kernel_rfl) (by kernel_rfl) (by kernel_rfl) (by kernel_rfl) (by kernel_rfl) (by kernel_rfl) (by kernel_rfl))
    ⟨_, WideRow.started_initial, quiet _⟩
    (fun os started _ H enc _ => lifted os started H enc)

end Go.Proofs.YtboccjnlfehgoaaFmt.fnPos
