/- FnLine: for every script of files, every index and every position the law returns true (fmt's texts told by the kit's own function); no condition. -/
import Derived.Test.YtigjdicghjofoaaFmtOpenF
import Derived.Test.YtigjdicghjofoaaFmtSpecP
import Derived.Test.YtigjdicghjofoaaFmtCards
import Derived.Deep.RegionHeld3
namespace Go.Proofs.YtigjdicghjofoaaFmt
open Go.RowKit

theorem placeLine (nm : ByteArray) (o ln cl : Int) (w : World) : (Instr.field 46 (.agg #[.string nm, .int .i64 o, .int .i64 ln, .int .i64 cl]) 2).run Tryf.prog w = .ok (.int .i64 ln) w := by kernel_rfl

set_option maxRecDepth 100000 in
set_option maxHeartbeats 2000000 in
theorem fnLine_walk (fv : Value) (fs : List GFile) (k p : Int) (w : World) (hf : Files w fv fs) : Calls Tryf.prog 8 #[fv, .int .i64 k, .int .i64 p] w fun e w' => e = .returned (.bool true) ∧ Below w.heap.size w w' := by
  rcases hasK_or fs k with ⟨m, hk⟩ | hk
  · obtain ⟨v1, v2, v3, v4⟩ := hasK_bd hk
    have HC := Lib.hid (at_yes fv fs k m w hf hk)
    have HG : Hid (0 < m.size → GoodL m.size m.lines) := fun hs => good_of hk.1 hk.2.2 hs
    have HP : Hid (∀ W, Below w.heap.size w W → 0 < m.size → p ≠ 0 → -4398046511104 ≤ p → p ≤ 4398046511104 → Calls Tryf.prog 25 #[fv, .int .i64 k, .int .i64 p] W fun e w' => e = .returned (.int .i64 (lnP m p)) ∧ Below W.heap.size W w') := fun W hb hs h1 h2 h3 => line_good fv fs k m p W (hf.below hb) hk hs h1 h2 h3
    have HP0 : Hid (∀ W, Below w.heap.size w W → Calls Tryf.prog 25 #[fv, .int .i64 k, .int .i64 0] W fun e w' => e = .returned (.int .i64 0) ∧ Below W.heap.size W w') := fun W hb => line_zero fv fs k m W (hf.below hb) hk
    obtain ⟨fa, fc, rfl, _⟩ := hf.cell
    clear hf hk
    go_enter Tryf.func8, Tryf.ntmps8
    go_wp2_with fail
    refine HC.out.mono ?_
    rintro e w1 ⟨la, lc, ya, yc, rfl, oL, _, hl, hb1⟩
    clear HC
    have hNN := heap_new w1 (.cells #[.string m.name, .int .i64 m.base, .int .i64 m.size, .slice la m.lines.length lc, .slice ya m.yes.length yc] 26)
    have hb2 : Below w.heap.size w (w1.alloc (.cells #[.string m.name, .int .i64 m.base, .int .i64 m.size, .slice la m.lines.length lc, .slice ya m.yes.length yc] 26)) := hb1.alloc hb1.size _
    have hIn : Ints (w1.alloc (.cells #[.string m.name, .int .i64 m.base, .int .i64 m.size, .slice la m.lines.length lc, .slice ya m.yes.length yc] 26)) (.slice la m.lines.length lc) m.lines := Reads.below (owns_reads oL) ((Below.refl _ _).alloc (Nat.le_refl _) _)
    by_cases hs : 0 < m.size
    · have hg := HG.out hs
      have SP : Hid (∀ W, Below (w1.alloc (.cells #[.string m.name, .int .i64 m.base, .int .i64 m.size, .slice la m.lines.length lc, .slice ya m.yes.length yc] 26)).heap.size (w1.alloc (.cells #[.string m.name, .int .i64 m.base, .int .i64 m.size, .slice la m.lines.length lc, .slice ya m.yes.length yc] 26)) W → p ≠ 0 → -4398046511104 ≤ p → p ≤ 4398046511104 → Calls Tryf.prog 26 #[.agg #[.string m.name, .int .i64 m.base, .int .i64 m.size, .slice la m.lines.length lc, .slice ya m.yes.length yc], .int .i64 p] W fun e w' => e = .returned (.agg #[.string m.name, .int .i64 (offP m p), .int .i64 (lnP m p), .int .i64 (clP m p)]) ∧ Below W.heap.size W w') := fun W hb h1 h2 h3 => specPosition_good m la ya lc m.yes.length yc p W (Reads.below hIn hb) hl hg h1 v1 v4 v2 v3 h2 h3
      have SP0 : Hid (∀ W, Calls Tryf.prog 26 #[.agg #[.string m.name, .int .i64 m.base, .int .i64 m.size, .slice la m.lines.length lc, .slice ya m.yes.length yc], .int .i64 0] W fun e w' => e = .returned (.agg #[.string ⟨#[]⟩, .int .i64 0, .int .i64 0, .int .i64 0]) ∧ Below W.heap.size W w') := fun W => specPosition_zero m.name m.base m.size la ya m.lines.length lc m.yes.length yc W
      have zs : (m.size == 0) = false := by simp; omega
      clear HG hg hIn oL
      generalize hW : (w1.alloc (.cells #[.string m.name, .int .i64 m.base, .int .i64 m.size, .slice la m.lines.length lc, .slice ya m.yes.length yc] 26)) = w2 at *
      have f0 := cell_of hNN 0
      have f1 := cell_of hNN 1
      have f2 := cell_of hNN 2
      have f3 := cell_of hNN 3
      have f4 := cell_of hNN 4
      simp only [List.getElem?_toArray, List.getElem?_cons_zero, List.getElem?_cons_succ] at f0 f1 f2 f3 f4
      have hlt := lt_of_heap hNN
      by_cases hp : p = 0
      · subst hp
        clear HP SP
        go_wp2_with fail
        subst hW
        generalize hW : (w1.alloc (.cells #[.string m.name, .int .i64 m.base, .int .i64 m.size, .slice la m.lines.length lc, .slice ya m.yes.length yc] 26)) = w2 at *
        generalize w1.heap.size = x at *
        clear hNN hb1
        have fld := fun W => placeLine ⟨#[]⟩ 0 0 0 W
        go_region_held3 (fun w' => w'.cell? ⟨x, 0, none⟩ = some (.string m.name) ∧ w'.cell? ⟨x, 1, none⟩ = some (.int .i64 m.base) ∧ w'.cell? ⟨x, 2, none⟩ = some (.int .i64 m.size) ∧ w'.cell? ⟨x, 3, none⟩ = some (.slice la m.lines.length lc) ∧ w'.cell? ⟨x, 4, none⟩ = some (.slice ya m.yes.length yc))
          (first | exact ⟨f0, f1, f2, f3, f4⟩ | exact ⟨q0, q1, q2, q3, q4⟩ | exact ⟨r0, r1, r2, r3, r4⟩)
          (first
            | (go_at_call 25
               refine (HP0.out _ hb2.drew).mono ?_
               rintro e w3 ⟨rfl, hb3⟩
               have q0 := (hb3.cell (p := ⟨x, 0, none⟩) hlt).trans f0
               have q1 := (hb3.cell (p := ⟨x, 1, none⟩) hlt).trans f1
               have q2 := (hb3.cell (p := ⟨x, 2, none⟩) hlt).trans f2
               have q3 := (hb3.cell (p := ⟨x, 3, none⟩) hlt).trans f3
               have q4 := (hb3.cell (p := ⟨x, 4, none⟩) hlt).trans f4)
            | (go_at_call 26
               refine (SP0.out w3).mono ?_
               rintro e w4 ⟨rfl, hb4⟩
               have hlt3 := Nat.lt_of_lt_of_le hlt hb3.size
               have r0 := (hb4.cell (p := ⟨x, 0, none⟩) hlt3).trans q0
               have r1 := (hb4.cell (p := ⟨x, 1, none⟩) hlt3).trans q1
               have r2 := (hb4.cell (p := ⟨x, 2, none⟩) hlt3).trans q2
               have r3 := (hb4.cell (p := ⟨x, 3, none⟩) hlt3).trans q3
               have r4 := (hb4.cell (p := ⟨x, 4, none⟩) hlt3).trans q4))
        have hb5 : Below w.heap.size w w4 := (hb2.drew.trans (hb3.mono hb2.size)).trans (hb4.mono (Nat.le_trans hb2.size hb3.size))
        clear q0 q1 q2 q3 q4 r0 r1 r2 r3 r4 f0 f1 f2 f3 f4 hb3 hb4
        go_wp2
        go_ret
        exact ⟨rfl, hb5⟩
      · have hp1 : (p != 0) = true := by simpa using hp
        have hp2 : (p == 0) = false := by simpa using hp
        by_cases h1 : m.base ≤ p
        · by_cases h2 : p ≤ m.base + m.size
          · have HPP := Lib.hid (fun W hb => HP.out W hb hs hp (by omega) (by omega))
            have SPP := Lib.hid (fun W hb => SP.out W hb hp (by omega) (by omega))
            clear HP SP HP0 SP0 hp
            go_wp2_with fail
            subst hW
            generalize hW : (w1.alloc (.cells #[.string m.name, .int .i64 m.base, .int .i64 m.size, .slice la m.lines.length lc, .slice ya m.yes.length yc] 26)) = w2 at *
            generalize w1.heap.size = x at *
            clear hNN hb1
            generalize offP m p = of at *
            generalize lnP m p = l at *
            generalize clP m p = c at *
            have s1 : ((l : Int) == l) = true := by simp
            have fld := fun W => placeLine m.name of l c W
            go_region_held3 (fun w' => w'.cell? ⟨x, 0, none⟩ = some (.string m.name) ∧ w'.cell? ⟨x, 1, none⟩ = some (.int .i64 m.base) ∧ w'.cell? ⟨x, 2, none⟩ = some (.int .i64 m.size) ∧ w'.cell? ⟨x, 3, none⟩ = some (.slice la m.lines.length lc) ∧ w'.cell? ⟨x, 4, none⟩ = some (.slice ya m.yes.length yc))
              (first | exact ⟨f0, f1, f2, f3, f4⟩ | exact ⟨q0, q1, q2, q3, q4⟩ | exact ⟨r0, r1, r2, r3, r4⟩)
              (first
                | (go_at_call 25
                   refine (HPP.out _ hb2.drew).mono ?_
                   rintro e w3 ⟨rfl, hb3⟩
                   have q0 := (hb3.cell (p := ⟨x, 0, none⟩) hlt).trans f0
                   have q1 := (hb3.cell (p := ⟨x, 1, none⟩) hlt).trans f1
                   have q2 := (hb3.cell (p := ⟨x, 2, none⟩) hlt).trans f2
                   have q3 := (hb3.cell (p := ⟨x, 3, none⟩) hlt).trans f3
                   have q4 := (hb3.cell (p := ⟨x, 4, none⟩) hlt).trans f4)
                | (go_at_call 26
                   refine (SPP.out w3 ((Below.refl _ w2).drew.trans hb3)).mono ?_
                   rintro e w4 ⟨rfl, hb4⟩
                   have hlt3 := Nat.lt_of_lt_of_le hlt hb3.size
                   have r0 := (hb4.cell (p := ⟨x, 0, none⟩) hlt3).trans q0
                   have r1 := (hb4.cell (p := ⟨x, 1, none⟩) hlt3).trans q1
                   have r2 := (hb4.cell (p := ⟨x, 2, none⟩) hlt3).trans q2
                   have r3 := (hb4.cell (p := ⟨x, 3, none⟩) hlt3).trans q3
                   have r4 := (hb4.cell (p := ⟨x, 4, none⟩) hlt3).trans q4))
            have hb5 : Below w.heap.size w w4 := (hb2.drew.trans (hb3.mono hb2.size)).trans (hb4.mono (Nat.le_trans hb2.size hb3.size))
            clear q0 q1 q2 q3 q4 r0 r1 r2 r3 r4 f0 f1 f2 f3 f4 hb3 hb4
            go_wp2
            go_ret
            exact ⟨rfl, hb5⟩
          · have h2' : m.base + m.size < p := by omega
            clear HP SP HP0 SP0 hp h2
            subst hW
            go_wp2
            go_ret
            exact ⟨rfl, hb2⟩
        · have h1' : p < m.base := by omega
          clear HP SP HP0 SP0 hp h1
          subst hW
          go_wp2
          go_ret
          exact ⟨rfl, hb2⟩
    · have zs : m.size = 0 := by omega
      have zs' : (m.size == 0) = true := by simp; omega
      have ZS := Lib.hid zs
      clear HG hNN hIn oL hs zs HP HP0
      go_wp2
      go_ret
      exact ⟨rfl, hb2⟩
  · have HC := Lib.hid (at_no fv fs k w hf hk)
    obtain ⟨fa, fc, rfl, _⟩ := hf.cell
    clear hf hk
    go_enter Tryf.func8, Tryf.ntmps8
    go_wp2_with fail
    refine HC.out.mono ?_
    rintro e w1 ⟨nm, b, s, la, ln, lc, ya, yn, yc, rfl, hb1⟩
    clear HC
    have hb2 : Below w.heap.size w (w1.alloc (.cells #[.string nm, .int .i64 b, .int .i64 s, .slice la ln lc, .slice ya yn yc] 26)) := hb1.alloc hb1.size _
    go_wp2
    go_ret
    exact ⟨rfl, hb2⟩
end Go.Proofs.YtigjdicghjofoaaFmt

-- FRAME (gen_fn.py)
namespace Go.Proofs.YtigjdicghjofoaaFmt.fnLine
open Go.ChangeShapes Go.WideShapes Go.ChangeAt Go.RowKit
open Go.Extern.Stop Go.Stop Go.Extern

set_option maxRecDepth 100000 in
theorem lifted (os : Os) (started : os.Started) (H : Type) (enc : TypeId × Value → H) :
    ReturnsInTold none {} Tryf.checked os 8 .any Input.okWide ((OpenSpec.ofChange Rows.fnLineSpec).preRow enc Tryf.prog Tryf.f8 [] false []) (fun F => ((OpenSpec.ofChange Rows.fnLineSpec).at F).post enc Tryf.prog Tryf.f8 false true false false) (aloneAtReturn Tryf.prog) nothingAlways := by
  refine returnsInTold_of_row (C := Tryf.checked) (s := OpenSpec.ofChange Rows.fnLineSpec) (by kernel_rfl) own started (by kernel_rfl) Tryf.func8
    (OpenSpec.witness_stopped (enc := enc) (C := Tryf.checked) false ⟨#[], #[.slice none 0 0, .int .i64 0, .int .i64 0], []⟩ 8 (by kernel_rfl) (by kernel_rfl) (by kernel_rfl) (by kernel_rfl)) ?_
  intro F W base args ds gs before _ hF hval0 hW _ _ hsz _ _
  have hval : ∀ (j : Nat) t v, Tryf.f8.params[j]? = some t → args[j]? = some v → Value.okWide Tryf.prog W .any base t v := hval0
  have hW' := hW
  obtain ⟨p, q, hA0, hV, rfl, hfz, hnd⟩ := hW
  have hA : DataW.TrodAll enc Tryf.prog W 0 (fun _ => true) true Tryf.f8.params.toList args.toList ds p := hA0
  rw [Tryf.params8] at hA hval
  obtain ⟨v0, vs0, d0, ds0, p0, q0, hargs, rfl, rfl, h0, r0⟩ := trodAll_cons hA
  obtain ⟨v1, vs1, d1, ds1, p1, q1, rfl, rfl, rfl, h1, r1⟩ := trodAll_cons r0
  obtain ⟨v2, vs2, d2, ds2, p2, q2, rfl, rfl, rfl, h2, r2⟩ := trodAll_cons r1
  obtain ⟨rfl, rfl, rfl⟩ := trodAll_nil r2
  obtain rfl : args = #[v0, v1, v2] := by cases args; simp_all
  obtain ⟨rfl, rfl⟩ := trodVars_none hV
  clear hA0
  obtain ⟨fs0, hf0, hn0, hr0⟩ := open_arg_files (hval 0 22 v0 rfl rfl) h0 (weights_arg hsz (j := 0) rfl rfl)
  obtain ⟨x1, rfl, rfl, rfl, wx1⟩ := open_int Tryf.underlying3 (hval 1 3 v1 rfl rfl) h1
  obtain ⟨x2, rfl, rfl, rfl, wx2⟩ := open_int Tryf.underlying3 (hval 2 3 v2 rfl rfl) h2
  refine (fnLine_walk v0 fs0 x1 x2 W hf0).mono fun e W' ⟨he, hb⟩ => ?_
  subst he
  exact ⟨_, rfl, law_post (tb := 4) laidOut (by rw [Tryf.params8]; intro t ht; simp at ht; first | (subst ht; exact rd_iFiles) | (rcases ht with rfl | rfl | rfl <;> first | exact rd_iFiles | exact rd_int)) rfl rfl Tryf.underlying4 rfl hW' hb⟩

theorem proved : Rows.FnLineToldSaid :=
  Claim7.holds_of_told_any 8 Tryf.f8 "fmt.Sprintf" [] [] _ _ _ (by kernel_rfl) rfl rfl rfl laidOut (by kernel_rfl) rfl ⟨rfl, rfl, rfl, rfl, rfl, rfl, rfl⟩ rfl rfl (by kernel_rfl) (by kernel_rfl) Tryf.func8 (by kernel_rfl)
    (of_decide_eq_true (by kernel_rfl)) (by unfold Func.isWrapper; first | (rw [if_pos (by decide +kernel)]; kernel_rfl) | (rw [if_neg (by decide +kernel)]; exact ⟨rfl, rfl⟩)) stopNames.symm rfl stopKnobs.symm (by kernel_rfl)
    (by kernel_rfl) (by kernel_rfl) (by kernel_rfl) (by kernel_rfl) (by kernel_rfl) (by kernel_rfl) (by kernel_rfl) (by kernel_rfl) (by kernel_rfl) rfl (by kernel_rfl) rfl rfl
    rfl rfl
    rfl (by kernel_rfl) (by kernel_rfl) (by kernel_rfl) (by decide) (by kernel_rfl)
    (OpenClaim.moreEntering_of (by kernel_rfl) (by kernel_rfl) (by kernel_rfl) (by kernel_rfl) (by kernel_rfl) (by kernel_rfl) (by kernel_rfl) (by kernel_rfl) (by kernel_rfl) (by kernel_rfl))
    ⟨_, WideRow.started_initial, quiet _⟩
    (fun os started _ H enc _ => lifted os started H enc)

end Go.Proofs.YtigjdicghjofoaaFmt.fnLine
