/- FnSetAgain: for every script of files, every index and every position the law returns true (fmt's texts told by the kit's own function); no condition. -/
import Derived.Test.YtigjdicghjofoaaFmtOpenF
import Derived.Test.YtigjdicghjofoaaFmtWith
import Derived.Test.YtigjdicghjofoaaFmtCards
namespace Go.Proofs.YtigjdicghjofoaaFmt
open Go.RowKit

set_option maxRecDepth 100000 in
set_option maxHeartbeats 2000000 in
theorem fnSetAgain_walk (fv : Value) (fs : List GFile) (k p : Int) (w : World) (hf : Files w fv fs) (hr : RoomOk fs) : Calls Tryf.prog 13 #[fv, .int .i64 k, .int .i64 p] w fun e w' => e = .returned (.bool true) ∧ Below w.heap.size w w' := by
  rcases lines_or fs k with ⟨m, hk, hs⟩ | hk
  · obtain ⟨v1, v2, v3, v4⟩ := hasK_bd hk
    have hg := Lib.hid (good_of hk.1 hk.2.2 hs)
    have HC := Lib.hid (lined_yes fv fs k m w hf hk hs)
    obtain ⟨g, hgk⟩ : ∃ g, fs[k.toNat]? = some g := by obtain ⟨g, h, _⟩ := made_of hk.2.2; exact ⟨g, h⟩
    have hroom : g.edits.length * 40 ≤ 140737488351232 := hr g (List.mem_of_getElem? hgk)
    obtain ⟨ys, hk2⟩ := hasK_again hk hs hgk
    obtain ⟨kn, rfl⟩ : ∃ n : Nat, k = n := ⟨k.toNat, by have := hk.2.1; omega⟩
    simp only [Int.toNat_natCast] at hgk hk2
    have HW : Hid (∀ W la lc, Below w.heap.size w W → Ints W (.slice la m.lines.length lc) m.lines → m.lines.length * 8 ≤ 140737488355328 → Calls Tryf.prog 28 #[fv, .int .i64 kn, .agg #[.int .i64 1, .slice la m.lines.length lc, .int .i64 0]] W fun r w' => ∃ v, r = .returned v ∧ Files w' v (withL fs kn g ⟨1, m.lines, 0⟩) ∧ Below W.heap.size W w') := fun W la lc hb hI hl => with_any fv fs kn g 1 0 _ m.lines W (hf.below hb) hgk hroom hI hl
    have s1 : (m.size == 0) = false := by simp; omega
    by_cases hn : -2199023255552 ≤ p ∧ p ≤ 2199023255552
    · obtain ⟨n1, n2⟩ := hn
      by_cases hp : p = 0
      · subst hp
        have HP : Hid (∀ W, Below w.heap.size w W → Calls Tryf.prog 29 #[fv, .int .i64 kn, .int .i64 0] W fun e w' => e = .returned (.agg #[.string ⟨#[]⟩, .int .i64 0, .int .i64 0, .int .i64 0]) ∧ Below W.heap.size W w') := fun W hb => pos_zero fv fs kn m W (hf.below hb) hk
        have HP2 : Hid (∀ W v, Files W v (withL fs kn g ⟨1, m.lines, 0⟩) → Calls Tryf.prog 29 #[v, .int .i64 kn, .int .i64 0] W fun e w' => e = .returned (.agg #[.string ⟨#[]⟩, .int .i64 0, .int .i64 0, .int .i64 0]) ∧ Below W.heap.size W w') := fun W v hF => pos_zero v _ kn _ W hF hk2
        obtain ⟨fa, fc, rfl, _⟩ := hf.cell
        clear hf hk hk2 hg
        go_enter Tryf.func13, Tryf.ntmps13
        go_wp2_with fail
        refine HC.out.mono ?_
        rintro e w1 ⟨la, lc, ya, yc, rfl, oL, _, hl, hb1⟩
        clear HC
        have hNN := heap_new w1 (.cells #[.string m.name, .int .i64 m.base, .int .i64 m.size, .slice la m.lines.length lc, .slice ya m.yes.length yc] 26)
        have hb2 : Below w.heap.size w (w1.alloc (.cells #[.string m.name, .int .i64 m.base, .int .i64 m.size, .slice la m.lines.length lc, .slice ya m.yes.length yc] 26)) := hb1.alloc hb1.size _
        have hI1 : Ints (w1.alloc (.cells #[.string m.name, .int .i64 m.base, .int .i64 m.size, .slice la m.lines.length lc, .slice ya m.yes.length yc] 26)) (.slice la m.lines.length lc) m.lines := Reads.below (owns_reads oL) ((Below.refl _ _).alloc (Nat.le_refl _) _)
        have HI := Lib.hid hI1
        clear oL hI1
        go_wp2_with fail
        refine (near_yes 0 _ n1 n2).mono ?_
        rintro e w' ⟨rfl, rfl⟩
        go_wp2_with fail
        refine (HP.out _ hb2).mono ?_
        rintro e w3 ⟨rfl, hb3⟩
        have hb4 : Below w.heap.size w (w3.alloc (.cells #[.string ⟨#[]⟩, .int .i64 0, .int .i64 0, .int .i64 0] 43)) := (hb2.trans (hb3.mono hb2.size)).alloc (by have := hb2.size; have := hb3.size; omega) _
        have hA := heap_new w3 (.cells #[.string ⟨#[]⟩, .int .i64 0, .int .i64 0, .int .i64 0] 43)
        have hF3 := (hb3.block w1.heap.size (by simp)).trans hNN
        have hF4 := (Below.heap_alloc w3 (.cells #[.string ⟨#[]⟩, .int .i64 0, .int .i64 0, .int .i64 0] 43) w1.heap.size (lt_of_heap hF3)).trans hF3
        have k3 := cell_of hF4 3
        simp only [List.getElem?_toArray, List.getElem?_cons_zero, List.getElem?_cons_succ] at k3
        have HI4 : Hid (Ints (w3.alloc (.cells #[.string ⟨#[]⟩, .int .i64 0, .int .i64 0, .int .i64 0] 43)) (.slice la m.lines.length lc) m.lines) := HI.out.below (hb3.trans ((Below.refl _ _).alloc hb3.size _))
        have hx1 : w1.heap.size < (w3.alloc (.cells #[.string ⟨#[]⟩, .int .i64 0, .int .i64 0, .int .i64 0] 43)).heap.size := lt_of_heap hF4
        clear HP HI hb3 hNN hF3 hF4 hb1
        go_wp2_with fail
        refine (HW.out _ _ _ hb4 HI4.out hl).mono ?_
        rintro e w5 ⟨mv, rfl, hF, hb5⟩
        have HP3 := Lib.hid (HP2.out _ _ hF)
        obtain ⟨ma, mc, rfl, _⟩ := hF.cell
        have hb6 : Below w.heap.size w w5 := hb4.trans (hb5.mono hb4.size)
        have hA5 := (hb5.block w3.heap.size (by simp)).trans hA
        clear HW HP2 hF hb5 hb4 hA k3
        go_wp2_with fail
        refine HP3.out.mono ?_
        rintro e w7 ⟨rfl, hb7⟩
        have hA7 := (hb7.block w3.heap.size (lt_of_heap hA5)).trans hA5
        have hA8 := (Below.heap_alloc w7 (.cells #[.string ⟨#[]⟩, .int .i64 0, .int .i64 0, .int .i64 0] 43) w3.heap.size (lt_of_heap hA7)).trans hA7
        have hb8 : Below w.heap.size w (w7.alloc (.cells #[.string ⟨#[]⟩, .int .i64 0, .int .i64 0, .int .i64 0] 43)) := (hb6.trans (hb7.mono hb6.size)).alloc (by have := hb6.size; have := hb7.size; omega) _
        have a0 := cell_of hA8 0
        have a1 := cell_of hA8 1
        have a2 := cell_of hA8 2
        have a3 := cell_of hA8 3
        simp only [List.getElem?_toArray, List.getElem?_cons_zero, List.getElem?_cons_succ] at a0 a1 a2 a3
        have ta := lt_of_heap hA7
        clear HP3 hA5 hA7 hA8 hb6 hb7 hl HI4
        go_wp2
        go_ret
        exact ⟨rfl, hb8⟩
      · have lb := (lnP_bd hg.out v2 p).1
        have HP : Hid (∀ W, Below w.heap.size w W → Calls Tryf.prog 29 #[fv, .int .i64 kn, .int .i64 p] W fun e w' => e = .returned (.agg #[.string m.name, .int .i64 (offP m p), .int .i64 (lnP m p), .int .i64 (clP m p)]) ∧ Below W.heap.size W w') := fun W hb => pos_good fv fs kn m p W (hf.below hb) hk hs hp (by omega) (by omega)
        have HP2 : Hid (∀ W v, Files W v (withL fs kn g ⟨1, m.lines, 0⟩) → Calls Tryf.prog 29 #[v, .int .i64 kn, .int .i64 p] W fun e w' => e = .returned (.agg #[.string m.name, .int .i64 (offP m p), .int .i64 (lnP m p), .int .i64 (clP m p)]) ∧ Below W.heap.size W w') := fun W v hF => pos_good v _ kn { m with yes := ys } p W hF hk2 hs hp (by omega) (by omega)
        obtain ⟨fa, fc, rfl, _⟩ := hf.cell
        generalize offP m p = o1 at *
        generalize lnP m p = l1 at *
        generalize clP m p = c1 at *
        have s2 : (p == 0) = false := by simpa using hp
        have s3 : decide (0 < l1) = true := by simp; omega
        clear hf hk hk2 hg hp
        go_enter Tryf.func13, Tryf.ntmps13
        go_wp2_with fail
        refine HC.out.mono ?_
        rintro e w1 ⟨la, lc, ya, yc, rfl, oL, _, hl, hb1⟩
        clear HC
        have hNN := heap_new w1 (.cells #[.string m.name, .int .i64 m.base, .int .i64 m.size, .slice la m.lines.length lc, .slice ya m.yes.length yc] 26)
        have hb2 : Below w.heap.size w (w1.alloc (.cells #[.string m.name, .int .i64 m.base, .int .i64 m.size, .slice la m.lines.length lc, .slice ya m.yes.length yc] 26)) := hb1.alloc hb1.size _
        have hI1 : Ints (w1.alloc (.cells #[.string m.name, .int .i64 m.base, .int .i64 m.size, .slice la m.lines.length lc, .slice ya m.yes.length yc] 26)) (.slice la m.lines.length lc) m.lines := Reads.below (owns_reads oL) ((Below.refl _ _).alloc (Nat.le_refl _) _)
        have HI := Lib.hid hI1
        clear oL hI1
        go_wp2_with fail
        refine (near_yes p _ n1 n2).mono ?_
        rintro e w' ⟨rfl, rfl⟩
        go_wp2_with fail
        refine (HP.out _ hb2).mono ?_
        rintro e w3 ⟨rfl, hb3⟩
        have hb4 : Below w.heap.size w (w3.alloc (.cells #[.string m.name, .int .i64 o1, .int .i64 l1, .int .i64 c1] 43)) := (hb2.trans (hb3.mono hb2.size)).alloc (by have := hb2.size; have := hb3.size; omega) _
        have hA := heap_new w3 (.cells #[.string m.name, .int .i64 o1, .int .i64 l1, .int .i64 c1] 43)
        have hF3 := (hb3.block w1.heap.size (by simp)).trans hNN
        have hF4 := (Below.heap_alloc w3 (.cells #[.string m.name, .int .i64 o1, .int .i64 l1, .int .i64 c1] 43) w1.heap.size (lt_of_heap hF3)).trans hF3
        have k3 := cell_of hF4 3
        simp only [List.getElem?_toArray, List.getElem?_cons_zero, List.getElem?_cons_succ] at k3
        have HI4 : Hid (Ints (w3.alloc (.cells #[.string m.name, .int .i64 o1, .int .i64 l1, .int .i64 c1] 43)) (.slice la m.lines.length lc) m.lines) := HI.out.below (hb3.trans ((Below.refl _ _).alloc hb3.size _))
        have hx1 : w1.heap.size < (w3.alloc (.cells #[.string m.name, .int .i64 o1, .int .i64 l1, .int .i64 c1] 43)).heap.size := lt_of_heap hF4
        clear HP HI hb3 hNN hF3 hF4 hb1
        go_wp2_with fail
        refine (HW.out _ _ _ hb4 HI4.out hl).mono ?_
        rintro e w5 ⟨mv, rfl, hF, hb5⟩
        have HP3 := Lib.hid (HP2.out _ _ hF)
        obtain ⟨ma, mc, rfl, _⟩ := hF.cell
        have hb6 : Below w.heap.size w w5 := hb4.trans (hb5.mono hb4.size)
        have hA5 := (hb5.block w3.heap.size (by simp)).trans hA
        clear HW HP2 hF hb5 hb4 hA k3
        go_wp2_with fail
        refine HP3.out.mono ?_
        rintro e w7 ⟨rfl, hb7⟩
        have hA7 := (hb7.block w3.heap.size (lt_of_heap hA5)).trans hA5
        have hA8 := (Below.heap_alloc w7 (.cells #[.string m.name, .int .i64 o1, .int .i64 l1, .int .i64 c1] 43) w3.heap.size (lt_of_heap hA7)).trans hA7
        have hb8 : Below w.heap.size w (w7.alloc (.cells #[.string m.name, .int .i64 o1, .int .i64 l1, .int .i64 c1] 43)) := (hb6.trans (hb7.mono hb6.size)).alloc (by have := hb6.size; have := hb7.size; omega) _
        have a0 := cell_of hA8 0
        have a1 := cell_of hA8 1
        have a2 := cell_of hA8 2
        have a3 := cell_of hA8 3
        simp only [List.getElem?_toArray, List.getElem?_cons_zero, List.getElem?_cons_succ] at a0 a1 a2 a3
        have ta := lt_of_heap hA7
        clear HP3 hA5 hA7 hA8 hb6 hb7 hl HI4
        go_wp2
        go_ret
        exact ⟨rfl, hb8⟩
    · have hn' : p < -2199023255552 ∨ 2199023255552 < p := by omega
      have HN := Lib.hid (fun W => near_no p W hn')
      obtain ⟨fa, fc, rfl, _⟩ := hf.cell
      clear hf hk hk2 hg hn hn' HW hroom hr hgk
      go_enter Tryf.func13, Tryf.ntmps13
      go_wp2_with fail
      refine HC.out.mono ?_
      rintro e w1 ⟨la, lc, ya, yc, rfl, _, _, hl, hb1⟩
      clear HC
      have hb2 : Below w.heap.size w (w1.alloc (.cells #[.string m.name, .int .i64 m.base, .int .i64 m.size, .slice la m.lines.length lc, .slice ya m.yes.length yc] 26)) := hb1.alloc hb1.size _
      go_wp2_with fail
      refine (HN.out _).mono ?_
      rintro e w' ⟨rfl, rfl⟩
      clear HN
      go_wp2
      go_ret
      exact ⟨rfl, hb2⟩
  · have HC := Lib.hid (lined_no fv fs k w hf hk)
    obtain ⟨fa, fc, rfl, _⟩ := hf.cell
    clear hf hk
    go_enter Tryf.func13, Tryf.ntmps13
    go_wp2_with fail
    refine HC.out.mono ?_
    rintro e w1 ⟨nm, b, s, la, ln, lc, ya, yn, yc, rfl, hb1⟩
    clear HC
    have hb2 : Below w.heap.size w (w1.alloc (.cells #[.string nm, .int .i64 b, .int .i64 s, .slice la ln lc, .slice ya yn yc] 26)) := hb1.alloc hb1.size _
    go_wp2
    go_ret
    exact ⟨rfl, hb2⟩
end Go.Proofs.YtigjdicghjofoaaFmt

-- FRAME (gen_fn.py)
namespace Go.Proofs.YtigjdicghjofoaaFmt.fnSetAgain
open Go.ChangeShapes Go.WideShapes Go.ChangeAt Go.RowKit
open Go.Extern.Stop Go.Stop Go.Extern

set_option maxRecDepth 100000 in
theorem lifted (os : Os) (started : os.Started) (H : Type) (enc : TypeId × Value → H) :
    ReturnsInTold none {} Tryf.checked os 13 .any Input.okWide ((OpenSpec.ofChange Rows.fnSetAgainSpec).preRow enc Tryf.prog Tryf.f13 [] false []) (fun F => ((OpenSpec.ofChange Rows.fnSetAgainSpec).at F).post enc Tryf.prog Tryf.f13 false true false false) (aloneAtReturn Tryf.prog) nothingAlways := by
  refine returnsInTold_of_row (C := Tryf.checked) (s := OpenSpec.ofChange Rows.fnSetAgainSpec) (by kernel_rfl) own started (by kernel_rfl) Tryf.func13
    (OpenSpec.witness_stopped (enc := enc) (C := Tryf.checked) false ⟨#[], #[.slice none 0 0, .int .i64 0, .int .i64 0], []⟩ 8 (by kernel_rfl) (by kernel_rfl) (by kernel_rfl) (by kernel_rfl)) ?_
  intro F W base args ds gs before _ hF hval0 hW _ _ hsz _ _
  have hval : ∀ (j : Nat) t v, Tryf.f13.params[j]? = some t → args[j]? = some v → Value.okWide Tryf.prog W .any base t v := hval0
  have hW' := hW
  obtain ⟨p, q, hA0, hV, rfl, hfz, hnd⟩ := hW
  have hA : DataW.TrodAll enc Tryf.prog W 0 (fun _ => true) true Tryf.f13.params.toList args.toList ds p := hA0
  rw [Tryf.params13] at hA hval
  obtain ⟨v0, vs0, d0, ds0, p0, q0, hargs, rfl, rfl, h0, r0⟩ := trodAll_cons hA
  obtain ⟨v1, vs1, d1, ds1, p1, q1, rfl, rfl, rfl, h1, r1⟩ := trodAll_cons r0
  obtain ⟨v2, vs2, d2, ds2, p2, q2, rfl, rfl, rfl, h2, r2⟩ := trodAll_cons r1
  obtain ⟨rfl, rfl, rfl⟩ := trodAll_nil r2
  obtain rfl : args = #[v0, v1, v2] := by cases args; simp_all
  obtain ⟨rfl, rfl⟩ := trodVars_none hV
  clear hA0
  obtain ⟨fs0, hf0, hn0, hr0⟩ := open_arg_files (hval 0 22 v0 rfl rfl) h0 (weights_arg hsz (j := 0) rfl rfl)
  obtain ⟨x1, rfl, rfl, rfl, wx1⟩ := open_int Tryf.underlying3 (hval 1 3 v1 rfl rfl) h1
  obtain ⟨x2, rfl, rfl, rfl, wx2⟩ := open_int Tryf.underlying3 (hval 2 3 v2 rfl rfl) h2
  refine (fnSetAgain_walk v0 fs0 x1 x2 W hf0 hr0).mono fun e W' ⟨he, hb⟩ => ?_
  subst he
  exact ⟨_, rfl, law_post (tb := 4) laidOut (by rw [Tryf.params13]; intro t ht; simp at ht; first | (subst ht; exact rd_iFiles) | (rcases ht with rfl | rfl | rfl <;> first | exact rd_iFiles | exact rd_int)) rfl rfl Tryf.underlying4 rfl hW' hb⟩

theorem proved : Rows.FnSetAgainToldSaid :=
  Claim7.holds_of_told_any 13 Tryf.f13 "fmt.Sprintf" [] [] _ _ _ (by kernel_rfl) rfl rfl rfl laidOut (by kernel_rfl) rfl ⟨rfl, rfl, rfl, rfl, rfl, rfl, rfl⟩ rfl rfl (by kernel_rfl) (by kernel_rfl) Tryf.func13 (by kernel_rfl)
    (of_decide_eq_true (by kernel_rfl)) (by unfold Func.isWrapper; first | (rw [if_pos (by decide +kernel)]; kernel_rfl) | (rw [if_neg (by decide +kernel)]; exact ⟨rfl, rfl⟩)) stopNames.symm rfl stopKnobs.symm (by kernel_rfl)
    (by kernel_rfl) (by kernel_rfl) (by kernel_rfl) (by kernel_rfl) (by kernel_rfl) (by kernel_rfl) (by kernel_rfl) (by kernel_rfl) (by kernel_rfl) rfl (by kernel_rfl) rfl rfl
    rfl rfl
    rfl (by kernel_rfl) (by kernel_rfl) (by kernel_rfl) (by decide) (by kernel_rfl)
    (OpenClaim.moreEntering_of (by kernel_rfl) (by kernel_rfl) (by kernel_rfl) (by kernel_rfl) (by kernel_rfl) (by kernel_rfl) (by kernel_rfl) (by kernel_rfl) (by kernel_rfl) (by kernel_rfl))
    ⟨_, WideRow.started_initial, quiet _⟩
    (fun os started _ H enc _ => lifted os started H enc)

end Go.Proofs.YtigjdicghjofoaaFmt.fnSetAgain
