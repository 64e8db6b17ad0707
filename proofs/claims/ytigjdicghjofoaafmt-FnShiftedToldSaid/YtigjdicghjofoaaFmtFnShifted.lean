/- FnShifted: for every file, every shift and every offset the law returns true (fmt's texts told by the kit's own function); no condition. -/
import Derived.Test.YtigjdicghjofoaaFmtOpenO
import Derived.Test.YtigjdicghjofoaaFmtShiftP
import Derived.Test.YtigjdicghjofoaaFmtCards
namespace Go.Proofs.YtigjdicghjofoaaFmt
open Go.RowKit

set_option maxRecDepth 100000 in
set_option maxHeartbeats 2000000 in
theorem fnShifted_walk (g : GFile) (ev : Value) (s o : Int) (w : World) (hE : Edits w ev g.edits) : Calls Tryf.prog 14 #[.agg #[.string g.name, .int .i64 g.base, .int .i64 g.size, ev], .int .i64 s, .int .i64 o] w fun e w' => e = .returned (.bool true) ∧ Below w.heap.size w w' := by
  obtain ⟨name, base, size, edits⟩ := g
  obtain ⟨ea, ec, rfl, _⟩ := hE.cell
  simp only at hE ⊢
  obtain ⟨b0, hb0⟩ : ∃ b, IntKind.i64.wrap (1 + s) = b := ⟨_, rfl⟩
  have B1 : Below w.heap.size w (((w.alloc (.cells #[.string name, .int .i64 1, .int .i64 size, .slice ea edits.length ec] 55)).alloc (.cells #[.string name, .int .i64 b0, .int .i64 size, .slice ea edits.length ec] 55)).alloc (.cells #[.string name, .int .i64 1, .int .i64 size, .slice ea edits.length ec] 55)) := (((Below.refl _ _).alloc (Nat.le_refl _) _).alloc (by simp) _).alloc (by simp; omega) _
  have NA : (((w.alloc (.cells #[.string name, .int .i64 1, .int .i64 size, .slice ea edits.length ec] 55)).alloc (.cells #[.string name, .int .i64 b0, .int .i64 size, .slice ea edits.length ec] 55)).alloc (.cells #[.string name, .int .i64 1, .int .i64 size, .slice ea edits.length ec] 55)).heap[w.heap.size]? = some (.cells #[.string name, .int .i64 1, .int .i64 size, .slice ea edits.length ec] 55 (0, 0)) := by rw [heap_new_ne _ (by simp; omega), heap_new_ne _ (by simp)]; exact heap_new _ _
  have NB : (((w.alloc (.cells #[.string name, .int .i64 1, .int .i64 size, .slice ea edits.length ec] 55)).alloc (.cells #[.string name, .int .i64 b0, .int .i64 size, .slice ea edits.length ec] 55)).alloc (.cells #[.string name, .int .i64 1, .int .i64 size, .slice ea edits.length ec] 55)).heap[w.heap.size + 1]? = some (.cells #[.string name, .int .i64 b0, .int .i64 size, .slice ea edits.length ec] 55 (0, 0)) := by
    rw [heap_new_ne _ (by simp)]
    have := heap_new (w.alloc (.cells #[.string name, .int .i64 1, .int .i64 size, .slice ea edits.length ec] 55)) (.cells #[.string name, .int .i64 b0, .int .i64 size, .slice ea edits.length ec] 55)
    rwa [World.size_alloc] at this
  have NC : (((w.alloc (.cells #[.string name, .int .i64 1, .int .i64 size, .slice ea edits.length ec] 55)).alloc (.cells #[.string name, .int .i64 b0, .int .i64 size, .slice ea edits.length ec] 55)).alloc (.cells #[.string name, .int .i64 1, .int .i64 size, .slice ea edits.length ec] 55)).heap[w.heap.size + 2]? = some (.cells #[.string name, .int .i64 1, .int .i64 size, .slice ea edits.length ec] 55 (0, 0)) := by
    have := heap_new ((w.alloc (.cells #[.string name, .int .i64 1, .int .i64 size, .slice ea edits.length ec] 55)).alloc (.cells #[.string name, .int .i64 b0, .int .i64 size, .slice ea edits.length ec] 55)) (.cells #[.string name, .int .i64 1, .int .i64 size, .slice ea edits.length ec] 55)
    rwa [World.size_alloc, World.size_alloc] at this
  have hF : Files (((w.alloc (.cells #[.string name, .int .i64 1, .int .i64 size, .slice ea edits.length ec] 55)).alloc (.cells #[.string name, .int .i64 b0, .int .i64 size, .slice ea edits.length ec] 55)).alloc (.cells #[.string name, .int .i64 1, .int .i64 size, .slice ea edits.length ec] 55)) (.slice (some ⟨w.heap.size + 2, 0, none⟩) 1 1) [⟨name, 1, size, edits⟩] := lone_files (g := ⟨name, 1, size, edits⟩) (hE.below B1) NC
  rcases lines_or [⟨name, 1, size, edits⟩] 0 with ⟨m, hk, hs⟩ | hk
  · obtain ⟨v1, v2, v3, v4⟩ := hasK_bd hk
    have hg := Lib.hid (good_of hk.1 hk.2.2 hs)
    have HC := Lib.hid (lined_yes _ _ 0 m _ hF hk hs)
    obtain ⟨mb, mn, ms⟩ := shifted_base (g := ⟨name, base, size, edits⟩) hk
    simp only at mn ms
    have hcases : s < 0 ∨ (0 ≤ s ∧ 549755813888 < s) ∨ (0 ≤ s ∧ s ≤ 549755813888 ∧ o < 0) ∨ (0 ≤ s ∧ s ≤ 549755813888 ∧ 0 ≤ o ∧ m.size < o) ∨ (0 ≤ s ∧ s ≤ 549755813888 ∧ 0 ≤ o ∧ o ≤ m.size) := by omega
    rcases hcases with h | ⟨h1, h⟩ | ⟨h1, h2, h⟩ | ⟨h1, h2, h3, h⟩ | ⟨h1, h2, h3, h4⟩
    iterate 4
      · clear hF NA NB NC hk hg hE mb mn ms
        go_enter Tryf.func14, Tryf.ntmps14
        go_wp2_with fail
        refine HC.out.mono ?_
        rintro e w1 ⟨la, lc, ya, yc, rfl, _, _, hl, hb1⟩
        have hb2 : Below w.heap.size w (w1.alloc (.cells #[.string m.name, .int .i64 m.base, .int .i64 m.size, .slice la m.lines.length lc, .slice ya m.yes.length yc] 26)) := (B1.trans (hb1.mono B1.size)).alloc (by have := B1.size; have := hb1.size; omega) _
        clear HC hb1 B1
        go_wp2
        go_ret
        exact ⟨rfl, hb2⟩
    · have hk2 : HasK [⟨name, 1 + s, size, edits⟩] 0 { m with base := 1 + s } := shifted_hasK (g := ⟨name, base, size, edits⟩) hk h1 h2
      obtain ⟨q0, q1, q2⟩ := shifted_law mb s o
      have hb0' : b0 = 1 + s := by rw [← hb0]; exact IntWalk.i64_in _ (by omega)
      subst hb0'
      have lb := (lnP_bd hg.out v2 (1 + o)).1
      have of := offP_in (m := m) (p := 1 + o) (by omega) (by omega)
      have HP : Hid (∀ W v, Files W v [⟨name, 1, size, edits⟩] → Calls Tryf.prog 29 #[v, .int .i64 0, .int .i64 (1 + o)] W fun e w' => e = .returned (.agg #[.string m.name, .int .i64 (offP m (1 + o)), .int .i64 (lnP m (1 + o)), .int .i64 (clP m (1 + o))]) ∧ Below W.heap.size W w') := fun W v hF => pos_good v _ 0 m (1 + o) W hF hk hs (by omega) (by omega) (by omega)
      have HP2 : Hid (∀ W v, Files W v [⟨name, 1 + s, size, edits⟩] → Calls Tryf.prog 29 #[v, .int .i64 0, .int .i64 (1 + s + o)] W fun e w' => e = .returned (.agg #[.string m.name, .int .i64 (offP { m with base := 1 + s } (1 + s + o)), .int .i64 (lnP { m with base := 1 + s } (1 + s + o)), .int .i64 (clP { m with base := 1 + s } (1 + s + o))]) ∧ Below W.heap.size W w') := fun W v hF => pos_good v _ 0 { m with base := 1 + s } (1 + s + o) W hF hk2 hs (by omega) (by omega) (by omega)
      rw [q0, q1, q2] at HP2
      have of' : offP m (1 + o) = o := by rw [of, mb]; omega
      rw [of'] at HP HP2
      generalize lnP m (1 + o) = l1 at *
      generalize clP m (1 + o) = c1 at *
      have HE : Hid (∀ W, Below w.heap.size w W → Edits W (.slice ea edits.length ec) edits) := fun W hb => hE.below hb
      have e1 : IntKind.i64.wrap (1 + o) = 1 + o := IntWalk.i64_in _ (by omega)
      have e2 : IntKind.i64.wrap (1 + s + o) = 1 + s + o := IntWalk.i64_in _ (by omega)
      have HNA := Lib.hid NA
      have HNB := Lib.hid NB
      clear hF NA NB NC hk hk2 hg hE mb mn ms q0 q1 q2 of of'
      go_enter Tryf.func14, Tryf.ntmps14
      go_wp2_with fail
      refine HC.out.mono ?_
      rintro e w1 ⟨la, lc, ya, yc, rfl, _, _, hl, hb1⟩
      have hb15 : Below (((w.alloc (.cells #[.string name, .int .i64 1, .int .i64 size, .slice ea edits.length ec] 55)).alloc (.cells #[.string name, .int .i64 (1 + s), .int .i64 size, .slice ea edits.length ec] 55)).alloc (.cells #[.string name, .int .i64 1, .int .i64 size, .slice ea edits.length ec] 55)).heap.size (((w.alloc (.cells #[.string name, .int .i64 1, .int .i64 size, .slice ea edits.length ec] 55)).alloc (.cells #[.string name, .int .i64 (1 + s), .int .i64 size, .slice ea edits.length ec] 55)).alloc (.cells #[.string name, .int .i64 1, .int .i64 size, .slice ea edits.length ec] 55)) (w1.alloc (.cells #[.string m.name, .int .i64 m.base, .int .i64 m.size, .slice la m.lines.length lc, .slice ya m.yes.length yc] 26)) := hb1.alloc hb1.size _
      have hb2 : Below w.heap.size w (w1.alloc (.cells #[.string m.name, .int .i64 m.base, .int .i64 m.size, .slice la m.lines.length lc, .slice ya m.yes.length yc] 26)) := B1.trans (hb15.mono B1.size)
      have A2 := (hb15.block w.heap.size (lt_of_heap HNA.out)).trans HNA.out
      have B2 := (hb15.block (w.heap.size + 1) (lt_of_heap HNB.out)).trans HNB.out
      have a0 := cell_of A2 0
      have a1 := cell_of A2 1
      have a2 := cell_of A2 2
      have a3 := cell_of A2 3
      simp only [List.getElem?_toArray, List.getElem?_cons_zero, List.getElem?_cons_succ] at a0 a1 a2 a3
      have NP := heap_new (w1.alloc (.cells #[.string m.name, .int .i64 m.base, .int .i64 m.size, .slice la m.lines.length lc, .slice ya m.yes.length yc] 26)) (.cells #[.string name, .int .i64 1, .int .i64 size, .slice ea edits.length ec] 55)
      rw [World.size_alloc] at NP
      have hb3 : Below w.heap.size w ((w1.alloc (.cells #[.string m.name, .int .i64 m.base, .int .i64 m.size, .slice la m.lines.length lc, .slice ya m.yes.length yc] 26)).alloc (.cells #[.string name, .int .i64 1, .int .i64 size, .slice ea edits.length ec] 55)) := hb2.alloc hb2.size _
      have HPP := Lib.hid (HP.out _ _ (lone_files (g := ⟨name, 1, size, edits⟩) (HE.out _ hb3) NP))
      have B3 := (heap_new_ne (w := w1.alloc (.cells #[.string m.name, .int .i64 m.base, .int .i64 m.size, .slice la m.lines.length lc, .slice ya m.yes.length yc] 26)) (.cells #[.string name, .int .i64 1, .int .i64 size, .slice ea edits.length ec] 55) (by have := lt_of_heap B2; omega)).trans B2
      clear HC HP hb1 hb15 HNA HNB A2 NP B1
      go_wp2_with fail
      refine HPP.out.mono ?_
      rintro e w3 ⟨rfl, hb4⟩
      have hb45 : Below ((w1.alloc (.cells #[.string m.name, .int .i64 m.base, .int .i64 m.size, .slice la m.lines.length lc, .slice ya m.yes.length yc] 26)).alloc (.cells #[.string name, .int .i64 1, .int .i64 size, .slice ea edits.length ec] 55)).heap.size ((w1.alloc (.cells #[.string m.name, .int .i64 m.base, .int .i64 m.size, .slice la m.lines.length lc, .slice ya m.yes.length yc] 26)).alloc (.cells #[.string name, .int .i64 1, .int .i64 size, .slice ea edits.length ec] 55)) (w3.alloc (.cells #[.string m.name, .int .i64 o, .int .i64 l1, .int .i64 c1] 43)) := hb4.alloc hb4.size _
      have hb5 : Below w.heap.size w (w3.alloc (.cells #[.string m.name, .int .i64 o, .int .i64 l1, .int .i64 c1] 43)) := hb3.trans (hb45.mono hb3.size)
      have B5 := (hb45.block (w.heap.size + 1) (lt_of_heap B3)).trans B3
      have P5 := heap_new w3 (.cells #[.string m.name, .int .i64 o, .int .i64 l1, .int .i64 c1] 43)
      have d0 := cell_of B5 0
      have d1 := cell_of B5 1
      have d2 := cell_of B5 2
      have d3 := cell_of B5 3
      simp only [List.getElem?_toArray, List.getElem?_cons_zero, List.getElem?_cons_succ] at d0 d1 d2 d3
      have NQ := heap_new (w3.alloc (.cells #[.string m.name, .int .i64 o, .int .i64 l1, .int .i64 c1] 43)) (.cells #[.string name, .int .i64 (1 + s), .int .i64 size, .slice ea edits.length ec] 55)
      rw [World.size_alloc] at NQ
      have hb6 : Below w.heap.size w ((w3.alloc (.cells #[.string m.name, .int .i64 o, .int .i64 l1, .int .i64 c1] 43)).alloc (.cells #[.string name, .int .i64 (1 + s), .int .i64 size, .slice ea edits.length ec] 55)) := hb5.alloc hb5.size _
      have HQQ := Lib.hid (HP2.out _ _ (lone_files (g := ⟨name, 1 + s, size, edits⟩) (HE.out _ hb6) NQ))
      have P6 := (heap_new_ne (w := w3.alloc (.cells #[.string m.name, .int .i64 o, .int .i64 l1, .int .i64 c1] 43)) (.cells #[.string name, .int .i64 (1 + s), .int .i64 size, .slice ea edits.length ec] 55) (by have := lt_of_heap P5; omega)).trans P5
      clear HPP HP2 HE hb4 hb45 B3 B2 B5 NQ hb3 a0 a1 a2 a3
      go_wp2_with fail
      refine HQQ.out.mono ?_
      rintro e w5 ⟨rfl, hb7⟩
      have hb75 : Below ((w3.alloc (.cells #[.string m.name, .int .i64 o, .int .i64 l1, .int .i64 c1] 43)).alloc (.cells #[.string name, .int .i64 (1 + s), .int .i64 size, .slice ea edits.length ec] 55)).heap.size ((w3.alloc (.cells #[.string m.name, .int .i64 o, .int .i64 l1, .int .i64 c1] 43)).alloc (.cells #[.string name, .int .i64 (1 + s), .int .i64 size, .slice ea edits.length ec] 55)) (w5.alloc (.cells #[.string m.name, .int .i64 o, .int .i64 l1, .int .i64 c1] 43)) := hb7.alloc hb7.size _
      have hb8 : Below w.heap.size w (w5.alloc (.cells #[.string m.name, .int .i64 o, .int .i64 l1, .int .i64 c1] 43)) := hb6.trans (hb75.mono hb6.size)
      have P7 := (hb75.block w3.heap.size (lt_of_heap P6)).trans P6
      have p0 := cell_of P7 0
      have p1 := cell_of P7 1
      have p2 := cell_of P7 2
      have p3 := cell_of P7 3
      simp only [List.getElem?_toArray, List.getElem?_cons_zero, List.getElem?_cons_succ] at p0 p1 p2 p3
      have s1 : (o == o) = true := by simp
      have s2 : decide (0 < l1) = true := by simp; omega
      clear HQQ hb7 hb75 P5 P6 P7 hb6 hb5 d0 d1 d2 d3
      go_wp2
      go_ret
      exact ⟨rfl, hb8⟩
  · have HC := Lib.hid (lined_no _ _ 0 _ hF hk)
    clear hF NA NB NC hk hE
    go_enter Tryf.func14, Tryf.ntmps14
    go_wp2_with fail
    refine HC.out.mono ?_
    rintro e w1 ⟨nm, b, s', la, ln, lc, ya, yn, yc, rfl, hb1⟩
    have hb2 : Below w.heap.size w (w1.alloc (.cells #[.string nm, .int .i64 b, .int .i64 s', .slice la ln lc, .slice ya yn yc] 26)) := (B1.trans (hb1.mono B1.size)).alloc (by have := B1.size; have := hb1.size; omega) _
    clear HC hb1 B1
    go_wp2
    go_ret
    exact ⟨rfl, hb2⟩
end Go.Proofs.YtigjdicghjofoaaFmt

-- FRAME (gen_fn.py)
namespace Go.Proofs.YtigjdicghjofoaaFmt.fnShifted
open Go.ChangeShapes Go.WideShapes Go.ChangeAt Go.RowKit
open Go.Extern.Stop Go.Stop Go.Extern

set_option maxRecDepth 100000 in
theorem lifted (os : Os) (started : os.Started) (H : Type) (enc : TypeId × Value → H) :
    ReturnsInTold none {} Tryf.checked os 14 .any Input.okWide ((OpenSpec.ofChange Rows.fnShiftedSpec).preRow enc Tryf.prog Tryf.f14 [] false []) (fun F => ((OpenSpec.ofChange Rows.fnShiftedSpec).at F).post enc Tryf.prog Tryf.f14 false true false false) (aloneAtReturn Tryf.prog) nothingAlways := by
  refine returnsInTold_of_row (C := Tryf.checked) (s := OpenSpec.ofChange Rows.fnShiftedSpec) (by kernel_rfl) own started (by kernel_rfl) Tryf.func14
    (OpenSpec.witness_stopped (enc := enc) (C := Tryf.checked) false ⟨#[], #[.agg #[.string ⟨#[]⟩, .int .i64 0, .int .i64 0, .slice none 0 0], .int .i64 0, .int .i64 0], []⟩ 8 (by kernel_rfl) (by kernel_rfl) (by kernel_rfl) (by kernel_rfl)) ?_
  intro F W base args ds gs before _ hF hval0 hW _ _ hsz _ _
  have hval : ∀ (j : Nat) t v, Tryf.f14.params[j]? = some t → args[j]? = some v → Value.okWide Tryf.prog W .any base t v := hval0
  have hW' := hW
  obtain ⟨p, q, hA0, hV, rfl, hfz, hnd⟩ := hW
  have hA : DataW.TrodAll enc Tryf.prog W 0 (fun _ => true) true Tryf.f14.params.toList args.toList ds p := hA0
  rw [Tryf.params14] at hA hval
  obtain ⟨v0, vs0, d0, ds0, p0, q0, hargs, rfl, rfl, h0, r0⟩ := trodAll_cons hA
  obtain ⟨v1, vs1, d1, ds1, p1, q1, rfl, rfl, rfl, h1, r1⟩ := trodAll_cons r0
  obtain ⟨v2, vs2, d2, ds2, p2, q2, rfl, rfl, rfl, h2, r2⟩ := trodAll_cons r1
  obtain ⟨rfl, rfl, rfl⟩ := trodAll_nil r2
  obtain rfl : args = #[v0, v1, v2] := by cases args; simp_all
  obtain ⟨rfl, rfl⟩ := trodVars_none hV
  clear hA0
  obtain ⟨g0, ev0, rfl, hE0⟩ := open_arg_file (hval 0 55 v0 rfl rfl) h0 (weights_arg hsz (j := 0) rfl rfl)
  obtain ⟨x1, rfl, rfl, rfl, wx1⟩ := open_int Tryf.underlying3 (hval 1 3 v1 rfl rfl) h1
  obtain ⟨x2, rfl, rfl, rfl, wx2⟩ := open_int Tryf.underlying3 (hval 2 3 v2 rfl rfl) h2
  refine (fnShifted_walk g0 ev0 x1 x2 W hE0).mono fun e W' ⟨he, hb⟩ => ?_
  subst he
  exact ⟨_, rfl, law_post (tb := 4) laidOut (by rw [Tryf.params14]; intro t ht; simp at ht; first | (subst ht; exact rd_iFile) | (rcases ht with rfl | rfl | rfl <;> first | exact rd_iFile | exact rd_int)) rfl rfl Tryf.underlying4 rfl hW' hb⟩

theorem proved : Rows.FnShiftedToldSaid :=
  Claim7.holds_of_told_any 14 Tryf.f14 "fmt.Sprintf" [] [] _ _ _ (by kernel_rfl) rfl rfl rfl laidOut (by kernel_rfl) rfl ⟨rfl, rfl, rfl, rfl, rfl, rfl, rfl⟩ rfl rfl (by kernel_rfl) (by kernel_rfl) Tryf.func14 (by kernel_rfl)
    (of_decide_eq_true (by kernel_rfl)) (by unfold Func.isWrapper; first | (rw [if_pos (by decide +kernel)]; kernel_rfl) | (rw [if_neg (by decide +kernel)]; exact ⟨rfl, rfl⟩)) stopNames.symm rfl stopKnobs.symm (by kernel_rfl)
    (by kernel_rfl) (by kernel_rfl) (by kernel_rfl) (by kernel_rfl) (by kernel_rfl) (by kernel_rfl) (by kernel_rfl) (by kernel_rfl) (by kernel_rfl) rfl (by kernel_rfl) rfl rfl
    rfl rfl
    rfl (by kernel_rfl) (by kernel_rfl) (by kernel_rfl) (by decide) (by kernel_rfl)
    (OpenClaim.moreEntering_of (by kernel_rfl) (by kernel_rfl) (by kernel_rfl) (by kernel_rfl) (by kernel_rfl) (by kernel_rfl) (by kernel_rfl) (by kernel_rfl) (by kernel_rfl) (by kernel_rfl))
    ⟨_, WideRow.started_initial, quiet _⟩
    (fun os started _ H enc _ => lifted os started H enc)

end Go.Proofs.YtigjdicghjofoaaFmt.fnShifted
