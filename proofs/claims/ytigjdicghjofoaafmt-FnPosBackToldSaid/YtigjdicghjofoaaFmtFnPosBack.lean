/- FnPosBack: for every script of files, every index and every offset the law returns true (fmt's texts told by the kit's own function); no condition. -/
import Derived.Test.YtigjdicghjofoaaFmtOpenF
import Derived.Test.YtigjdicghjofoaaFmtPlace
import Derived.Test.YtigjdicghjofoaaFmtCards
import Derived.Deep.RegionHeld3
namespace Go.Proofs.YtigjdicghjofoaaFmt
open Go.RowKit

set_option maxRecDepth 100000 in
set_option maxHeartbeats 1000000 in
theorem fnPosBack_walk (fv : Value) (fs : List GFile) (k p : Int) (w : World) (hf : Files w fv fs) : Calls Tryf.prog 3 #[fv, .int .i64 k, .int .i64 p] w fun e w' => e = .returned (.bool true) ∧ Below w.heap.size w w' := by
  rcases hasK_or fs k with ⟨m, hk⟩ | hk
  · obtain ⟨v1, v2, v3, v4⟩ := hasK_bd hk
    have HC := Lib.hid (at_yes fv fs k m w hf hk)
    have HP : Hid (∀ W, Below w.heap.size w W → 0 ≤ p → p ≤ m.size → Calls Tryf.prog 16 #[fv, .int .i64 k, .int .i64 p] W fun e w' => e = .returned (.int .i64 (m.base + p)) ∧ Below W.heap.size W w') := fun W hb h1 h2 => by
      have := posOf_good fv fs k m p W (hf.below hb) hk
      rw [show fixOff m.size p = p by unfold fixOff; omega] at this
      exact this
    have HO : Hid (∀ W, Below w.heap.size w W → 0 ≤ p → p ≤ m.size → Calls Tryf.prog 17 #[fv, .int .i64 k, .int .i64 (m.base + p)] W fun e w' => e = .returned (.int .i64 p) ∧ Below W.heap.size W w') := fun W hb h1 h2 => by
      have := off_good fv fs k m (m.base + p) W (hf.below hb) hk (by omega) (by omega)
      rw [show offP m (m.base + p) = p by rw [offP_in (by omega) (by omega)]; omega] at this
      exact this
    obtain ⟨fa, fc, rfl, _⟩ := hf.cell
    clear hf hk
    go_enter Tryf.func3, Tryf.ntmps3
    go_wp2_with fail
    refine HC.out.mono ?_
    rintro e w1 ⟨la, lc, ya, yc, rfl, _, _, hl, hb1⟩
    clear HC
    have hNN := heap_new w1 (.cells #[.string m.name, .int .i64 m.base, .int .i64 m.size, .slice la m.lines.length lc, .slice ya m.yes.length yc] 26)
    have hb2 : Below w.heap.size w (w1.alloc (.cells #[.string m.name, .int .i64 m.base, .int .i64 m.size, .slice la m.lines.length lc, .slice ya m.yes.length yc] 26)) := hb1.alloc hb1.size _
    by_cases h1 : 0 ≤ p
    · by_cases h2 : p ≤ m.size
      · have HPP := Lib.hid (fun W hb => HP.out W hb h1 h2)
        have HOO := Lib.hid (fun W hb => HO.out W hb h1 h2)
        clear HP HO
        go_wp2_with fail
        refine (HPP.out _ hb2).mono ?_
        rintro e w3 ⟨rfl, hb3⟩
        have hN3 := (hb3.block w1.heap.size (by simp)).trans hNN
        have hb4 : Below w.heap.size w w3 := hb2.trans (hb3.mono hb2.size)
        have hlt := lt_of_heap hN3
        have f1 := cell_of hN3 1
        simp only [List.getElem?_toArray, List.getElem?_cons_zero, List.getElem?_cons_succ] at f1
        generalize w1.heap.size = x at *
        clear hNN hN3 hb2 hb3 hb1
        have s1 : ((p : Int) == p) = true := by simp
        have s2 : ((m.base + p : Int) == m.base + p) = true := by simp
        have e1 : IntKind.i64.wrap (m.base + p) = m.base + p := IntWalk.i64_in _ (by omega)
        go_wp2_with fail
        go_region_held3 (fun w' => w'.cell? ⟨x, 1, none⟩ = some (.int .i64 m.base))
          (first | exact f1 | exact q1 | exact r1 | exact t1)
          (first
            | (go_at_call 17
               refine (HOO.out _ hb4.drew).mono ?_
               rintro e w5 ⟨rfl, hb5⟩
               have q1 := (hb5.cell (p := ⟨x, 1, none⟩) hlt).trans f1
               have hb6 : Below w.heap.size w w5 := hb4.drew.trans (hb5.mono hb4.size)
               have hlt5 := Nat.lt_of_lt_of_le hlt hb5.size)
            | (go_at_call 17
               refine (HOO.out _ hb6).mono ?_
               rintro e w6 ⟨rfl, hb7⟩
               have r1 := (hb7.cell (p := ⟨x, 1, none⟩) hlt5).trans q1
               have hb8 : Below w.heap.size w w6 := hb6.trans (hb7.mono hb6.size)
               have hlt6 := Nat.lt_of_lt_of_le hlt5 hb7.size)
            | (go_at_call 16
               refine (HPP.out _ hb8).mono ?_
               rintro e w7 ⟨rfl, hb9⟩
               have t1 := (hb9.cell (p := ⟨x, 1, none⟩) hlt6).trans r1))
        have hb10 : Below w.heap.size w w7 := hb8.trans (hb9.mono hb8.size)
        clear q1 r1 t1 f1 HPP HOO
        go_wp2
        go_ret
        exact ⟨rfl, hb10⟩
      · have h2' : m.size < p := by omega
        clear HP HO h2 hNN
        go_wp2
        go_ret
        exact ⟨rfl, hb2⟩
    · have h1' : p < 0 := by omega
      clear HP HO h1 hNN
      go_wp2
      go_ret
      exact ⟨rfl, hb2⟩
  · have HC := Lib.hid (at_no fv fs k w hf hk)
    obtain ⟨fa, fc, rfl, _⟩ := hf.cell
    clear hf hk
    go_enter Tryf.func3, Tryf.ntmps3
    go_wp2_with fail
    refine HC.out.mono ?_
    rintro e w1 ⟨nm, b, s, la, ln, lc, ya, yn, yc, rfl, hb1⟩
    clear HC
    have hb2 : Below w.heap.size w (w1.alloc (.cells #[.string nm, .int .i64 b, .int .i64 s, .slice la ln lc, .slice ya yn yc] 26)) := hb1.alloc hb1.size _
    go_wp2
    go_ret
    exact ⟨rfl, hb2⟩
end Go.Proofs.YtigjdicghjofoaaFmt

-- FRAME (gen_fn.py)
namespace Go.Proofs.YtigjdicghjofoaaFmt.fnPosBack
open Go.ChangeShapes Go.WideShapes Go.ChangeAt Go.RowKit
open Go.Extern.Stop Go.Stop Go.Extern

set_option maxRecDepth 100000 in
theorem lifted (os : Os) (started : os.Started) (H : Type) (enc : TypeId × Value → H) :
    ReturnsInTold none {} Tryf.checked os 3 .any Input.okWide ((OpenSpec.ofChange Rows.fnPosBackSpec).preRow enc Tryf.prog Tryf.f3 [] false []) (fun F => ((OpenSpec.ofChange Rows.fnPosBackSpec).at F).post enc Tryf.prog Tryf.f3 false true false false) (aloneAtReturn Tryf.prog) nothingAlways := by
  refine returnsInTold_of_row (C := Tryf.checked) (s := OpenSpec.ofChange Rows.fnPosBackSpec) (by kernel_rfl) own started (by kernel_rfl) Tryf.func3
    (OpenSpec.witness_stopped (enc := enc) (C := Tryf.checked) false ⟨#[], #[.slice none 0 0, .int .i64 0, .int .i64 0], []⟩ 8 (by kernel_rfl) (by kernel_rfl) (by kernel_rfl) (by kernel_rfl)) ?_
  intro F W base args ds gs before _ hF hval0 hW _ _ hsz _ _
  have hval : ∀ (j : Nat) t v, Tryf.f3.params[j]? = some t → args[j]? = some v → Value.okWide Tryf.prog W .any base t v := hval0
  have hW' := hW
  obtain ⟨p, q, hA0, hV, rfl, hfz, hnd⟩ := hW
  have hA : DataW.TrodAll enc Tryf.prog W 0 (fun _ => true) true Tryf.f3.params.toList args.toList ds p := hA0
  rw [Tryf.params3] at hA hval
  obtain ⟨v0, vs0, d0, ds0, p0, q0, hargs, rfl, rfl, h0, r0⟩ := trodAll_cons hA
  obtain ⟨v1, vs1, d1, ds1, p1, q1, rfl, rfl, rfl, h1, r1⟩ := trodAll_cons r0
  obtain ⟨v2, vs2, d2, ds2, p2, q2, rfl, rfl, rfl, h2, r2⟩ := trodAll_cons r1
  obtain ⟨rfl, rfl, rfl⟩ := trodAll_nil r2
  obtain rfl : args = #[v0, v1, v2] := by cases args; simp_all
  obtain ⟨rfl, rfl⟩ := trodVars_none hV
  clear hA0
  obtain ⟨fs0, hf0, hn0, hr0⟩ := open_arg_files (hval 0 22 v0 rfl rfl) h0 (weights_arg hsz (j := 0) rfl rfl)
  obtain ⟨x1, rfl, rfl, rfl, wx1⟩ := open_int Tryf.underlying3 (hval 1 3 v1 rfl rfl) h1
  obtain ⟨x2, rfl, rfl, rfl, wx2⟩ := open_int Tryf.underlying3 (hval 2 3 v2 rfl rfl) h2
  refine (fnPosBack_walk v0 fs0 x1 x2 W hf0).mono fun e W' ⟨he, hb⟩ => ?_
  subst he
  exact ⟨_, rfl, law_post (tb := 4) laidOut (by rw [Tryf.params3]; intro t ht; simp at ht; first | (subst ht; exact rd_iFiles) | (rcases ht with rfl | rfl | rfl <;> first | exact rd_iFiles | exact rd_int)) rfl rfl Tryf.underlying4 rfl hW' hb⟩

theorem proved : Rows.FnPosBackToldSaid :=
  Claim7.holds_of_told_any 3 Tryf.f3 "fmt.Sprintf" [] [] _ _ _ (by kernel_rfl) rfl rfl rfl laidOut (by kernel_rfl) rfl ⟨rfl, rfl, rfl, rfl, rfl, rfl, rfl⟩ rfl rfl (by kernel_rfl) (by kernel_rfl) Tryf.func3 (by kernel_rfl)
    (of_decide_eq_true (by kernel_rfl)) (by unfold Func.isWrapper; first | (rw [if_pos (by decide +kernel)]; kernel_rfl) | (rw [if_neg (by decide +kernel)]; exact ⟨rfl, rfl⟩)) stopNames.symm rfl stopKnobs.symm (by kernel_rfl)
    (by kernel_rfl) (by kernel_rfl) (by kernel_rfl) (by kernel_rfl) (by kernel_rfl) (by kernel_rfl) (by kernel_rfl) (by kernel_rfl) (by kernel_rfl) rfl (by kernel_rfl) rfl rfl
    rfl rfl
    rfl (by kernel_rfl) (by kernel_rfl) (by kernel_rfl) (by decide) (by kernel_rfl)
    (OpenClaim.moreEntering_of (by kernel_rfl) (by kernel_rfl) (by kernel_rfl) (by kernel_rfl) (by kernel_rfl) (by kernel_rfl) (by kernel_rfl) (by kernel_rfl) (by kernel_rfl) (by kernel_rfl))
    ⟨_, WideRow.started_initial, quiet _⟩
    (fun os started _ H enc _ => lifted os started H enc)

end Go.Proofs.YtigjdicghjofoaaFmt.fnPosBack
