/- FnSetPosition: for every script of files and every position the law returns true (fmt's texts told by the kit's own function); no condition. -/
import Derived.Test.YtgehgiafhfgacaaFmtOpenF
import Derived.Test.YtgehgiafhfgacaaFmtSpecP
import Derived.Test.YtgehgiafhfgacaaFmtSpecF
import Derived.Test.YtgehgiafhfgacaaFmtSetG
import Derived.Test.YtgehgiafhfgacaaFmtCards
import Derived.Deep.RegionHeld3
namespace Go.Proofs.YtgehgiafhfgacaaFmt
open Go.RowKit

set_option maxRecDepth 100000 in
set_option maxHeartbeats 2000000 in
theorem fnSetPosition_walk (fv : Value) (fs : List GFile) (p : Int) (w : World) (hf : Files w fv fs) : Calls Tryf.prog 8 #[fv, .int .i64 p] w fun e w' => e = .returned (.bool true) ∧ Below w.heap.size w w' := by
  by_cases hv : validL fs
  · have HC := Lib.hid (lawsMade_yes fv fs w hf hv)
    have HFA : Hid (∀ v W, Mades W v (madeL fs) → Calls Tryf.prog 19 #[v, .int .i64 p] W (LeavesIdx (madeL fs) p W)) := fun v W h => specFileAt_any v (madeL fs) p W h (valid_mem hv)
    have HS0 : Hid (∀ W, Below w.heap.size w W → Calls Tryf.prog 20 #[fv, .int .i64 0] W fun e w' => e = .returned (.agg #[.string ⟨#[]⟩, .int .i64 0, .int .i64 0, .int .i64 0]) ∧ Below W.heap.size W w') := fun W hb => by
      refine (implSetPosition_any fv fs 0 W (hf.below hb) hv).mono ?_
      rintro e w' ⟨v, rfl, res, hb'⟩
      rcases res with ⟨rfl, _⟩ | ⟨j, m', h1, h2, _⟩
      · exact ⟨rfl, hb'⟩
      · have := (valid_bounds hv).2 m' (List.mem_of_getElem? h1)
        omega
    have HSG : Hid (∀ W (kn : Nat) (m : MFile), Below w.heap.size w W → (madeL fs)[kn]? = some m → 0 < m.size → m.base ≤ p → p ≤ m.base + m.size → Calls Tryf.prog 20 #[fv, .int .i64 p] W fun e w' => e = .returned (.agg #[.string m.name, .int .i64 (offP m p), .int .i64 (lnP m p), .int .i64 (clP m p)]) ∧ Below W.heap.size W w') := fun W kn m hb h1 h2 h3 h4 => setpos_good fv fs kn m p W (hf.below hb) hv h1 h2 h3 h4
    have HGD : Hid (∀ (kn : Nat) (m : MFile), (madeL fs)[kn]? = some m → 0 < m.size → GoodL m.size m.lines) := fun kn m h1 h2 => good_of hv h1 h2
    have HVB := Lib.hid (valid_bounds hv).2
    have hlen := hf.1
    have hml : (madeL fs).length = fs.length := madeL_length fs
    obtain ⟨fa, fc, rfl, _⟩ := hf.cell
    clear hf hv
    go_enter Tryf.func8, Tryf.ntmps8
    go_wp2_with fail
    refine HC.out.mono ?_
    rintro e w1 ⟨mv, rfl, hM, hb1⟩
    obtain ⟨ma, mc, hmv, _⟩ := hM.cell
    rw [hml] at hmv
    subst hmv
    have HM := Lib.hid (hM.mades (by rw [hml]; exact hlen))
    have HML := Lib.hid hml
    clear HC hM hml
    go_wp2_with fail
    refine (HFA.out _ w1 HM.out).mono ?_
    rintro e w2 ⟨r, rfl, res, hb2⟩
    have hM2 := HM.out.below hb2
    have hb3 : Below w.heap.size w w2 := hb1.trans (hb2.mono hb1.size)
    clear HFA HM hb1 hb2
    by_cases hp : p = 0
    · subst hp
      clear HSG HGD HVB res hM2
      go_wp2_with fail
      refine (HS0.out _ hb3).mono ?_
      rintro e w3 ⟨rfl, hb4⟩
      have hb5 : Below w.heap.size w w3 := hb3.trans (hb4.mono hb3.size)
      clear HS0 hb3 hb4
      go_wp2
      go_ret
      exact ⟨rfl, hb5⟩
    · have hp1 : (p == 0) = false := by simpa using hp
      rcases res with ⟨rfl, _⟩ | ⟨kn, m, rfl, hk, h1, h2⟩
      · clear HSG HGD HVB HS0 hM2
        go_wp2
        go_ret
        exact ⟨rfl, hb3⟩
      · obtain ⟨v1, v2, v3, v4, _⟩ := HVB.out m (List.mem_of_getElem? hk)
        have hkl : kn < fs.length := by have := (List.getElem?_eq_some_iff.1 hk).1; rwa [HML.out] at this
        obtain ⟨_, _, hcv, hcell⟩ := hM2.cell
        rw [HML.out] at hcv
        simp only [Value.slice.injEq] at hcv
        obtain ⟨rfl, -, rfl⟩ := hcv
        obtain ⟨g, o, lv, yv, rfl, c0, c1, c2, c3, c4, hI, hR, hl, hyl⟩ := hcell kn m hk
        obtain ⟨la, lc, rfl⟩ : ∃ la lc, lv = .slice la m.lines.length lc := by obtain ⟨a, c, h, _⟩ := hI; exact ⟨a, c, by simpa using h⟩
        obtain ⟨ya, yc, rfl⟩ : ∃ la lc, yv = .slice la m.yes.length lc := by obtain ⟨a, c, h, _⟩ := hR; exact ⟨a, c, by simpa using h⟩
        have hgl := World.block_lt_of_cell? w2 _ c0
        have q1 : (kn : Int) < (fs.length : Int) := by omega
        have q2 : (0 : Int) ≤ (kn : Int) := by omega
        have q3 : ¬ ((kn : Int) < 0) := by omega
        by_cases hs : 0 < m.size
        · have zs : (m.size == 0) = false := by simp; omega
          have hg := HGD.out kn m hk hs
          have HSP := Lib.hid (fun W hb => HSG.out W kn m hb hk hs h1 h2)
          have SP : Hid (∀ W, Below w2.heap.size w2 W → Calls Tryf.prog 21 #[.agg #[.string m.name, .int .i64 m.base, .int .i64 m.size, .slice la m.lines.length lc, .slice ya m.yes.length yc], .int .i64 p] W fun e w' => e = .returned (.agg #[.string m.name, .int .i64 (offP m p), .int .i64 (lnP m p), .int .i64 (clP m p)]) ∧ Below W.heap.size W w') := fun W hb => specPosition_good m la ya lc m.yes.length yc p W (Reads.below hI hb) hl hg hp v1 v4 v2 v3 (by omega) (by omega)
          clear HSG HGD HVB HS0 hM2 hcell hI hR hg hk
          generalize offP m p = of at *
          generalize lnP m p = l at *
          generalize clP m p = c at *
          go_wp2_with fail
          go_region_held3 (fun w' => w'.cell? ⟨g, o + kn * 5, none⟩ = some (.string m.name) ∧ w'.cell? ⟨g, o + kn * 5 + 1, none⟩ = some (.int .i64 m.base) ∧ w'.cell? ⟨g, o + kn * 5 + 2, none⟩ = some (.int .i64 m.size) ∧ w'.cell? ⟨g, o + kn * 5 + 3, none⟩ = some (.slice la m.lines.length lc) ∧ w'.cell? ⟨g, o + kn * 5 + 4, none⟩ = some (.slice ya m.yes.length yc))
            (first | exact ⟨c0, c1, c2, c3, c4⟩ | exact ⟨d0, d1, d2, d3, d4⟩ | exact ⟨e0, e1, e2, e3, e4⟩)
            (first
              | (go_at_call 20
                 refine (HSP.out _ hb3.drew).mono ?_
                 rintro e w3 ⟨rfl, hb4⟩
                 have d0 := (hb4.cell (p := ⟨g, o + kn * 5, none⟩) hgl).trans c0
                 have d1 := (hb4.cell (p := ⟨g, o + kn * 5 + 1, none⟩) hgl).trans c1
                 have d2 := (hb4.cell (p := ⟨g, o + kn * 5 + 2, none⟩) hgl).trans c2
                 have d3 := (hb4.cell (p := ⟨g, o + kn * 5 + 3, none⟩) hgl).trans c3
                 have d4 := (hb4.cell (p := ⟨g, o + kn * 5 + 4, none⟩) hgl).trans c4
                 have hgl3 := Nat.lt_of_lt_of_le hgl hb4.size)
              | (go_at_call 21
                 refine (SP.out w3 ((Below.refl _ w2).drew.trans hb4)).mono ?_
                 rintro e w4 ⟨rfl, hb5⟩
                 have e0 := (hb5.cell (p := ⟨g, o + kn * 5, none⟩) hgl3).trans d0
                 have e1 := (hb5.cell (p := ⟨g, o + kn * 5 + 1, none⟩) hgl3).trans d1
                 have e2 := (hb5.cell (p := ⟨g, o + kn * 5 + 2, none⟩) hgl3).trans d2
                 have e3 := (hb5.cell (p := ⟨g, o + kn * 5 + 3, none⟩) hgl3).trans d3
                 have e4 := (hb5.cell (p := ⟨g, o + kn * 5 + 4, none⟩) hgl3).trans d4))
          have hb6 : Below w.heap.size w w4 := (hb3.drew.trans (hb4.mono hb3.size)).trans (hb5.mono (Nat.le_trans hb3.size hb4.size))
          clear c0 c1 c2 c3 c4 d0 d1 d2 d3 d4 e0 e1 e2 e3 e4
          go_wp2
          go_ret
          exact ⟨rfl, hb6⟩
        · have zs : (m.size == 0) = true := by simp; omega
          clear HSG HGD HVB HS0 hM2 hcell hI hR hk hs
          go_wp2
          go_ret
          exact ⟨rfl, hb3⟩
  · have HC := Lib.hid (lawsMade_no fv fs w hf hv)
    obtain ⟨fa, fc, rfl, _⟩ := hf.cell
    clear hf hv
    go_enter Tryf.func8, Tryf.ntmps8
    go_wp2_with fail
    refine HC.out.mono ?_
    rintro e w1 ⟨rfl, hb1⟩
    clear HC
    go_wp2
    go_ret
    exact ⟨rfl, hb1⟩
end Go.Proofs.YtgehgiafhfgacaaFmt

-- FRAME (gen_fn.py)
namespace Go.Proofs.YtgehgiafhfgacaaFmt.fnSetPosition
open Go.ChangeShapes Go.WideShapes Go.ChangeAt Go.RowKit
open Go.Extern.Stop Go.Stop Go.Extern

set_option maxRecDepth 100000 in
theorem lifted (os : Os) (started : os.Started) (H : Type) (enc : TypeId × Value → H) :
    ReturnsInTold none {} Tryf.checked os 8 .any Input.okWide ((OpenSpec.ofChange Rows.fnSetPositionSpec).preRow enc Tryf.prog Tryf.f8 [] false []) (fun F => ((OpenSpec.ofChange Rows.fnSetPositionSpec).at F).post enc Tryf.prog Tryf.f8 false true false false) (aloneAtReturn Tryf.prog) nothingAlways := by
  refine returnsInTold_of_row (C := Tryf.checked) (s := OpenSpec.ofChange Rows.fnSetPositionSpec) (by kernel_rfl) own started (by kernel_rfl) Tryf.func8
    (OpenSpec.witness_stopped (enc := enc) (C := Tryf.checked) false ⟨#[], #[.slice none 0 0, .int .i64 0], []⟩ 8 (by kernel_rfl) (by kernel_rfl) (by kernel_rfl) (by kernel_rfl)) ?_
  intro F W base args ds gs before _ hF hval0 hW _ _ hsz _ _
  have hval : ∀ (j : Nat) t v, Tryf.f8.params[j]? = some t → args[j]? = some v → Value.okWide Tryf.prog W .any base t v := hval0
  have hW' := hW
  obtain ⟨p, q, hA0, hV, rfl, hfz, hnd⟩ := hW
  have hA : DataW.TrodAll enc Tryf.prog W 0 (fun _ => true) true Tryf.f8.params.toList args.toList ds p := hA0
  rw [Tryf.params8] at hA hval
  obtain ⟨v0, vs0, d0, ds0, p0, q0, hargs, rfl, rfl, h0, r0⟩ := trodAll_cons hA
  obtain ⟨v1, vs1, d1, ds1, p1, q1, rfl, rfl, rfl, h1, r1⟩ := trodAll_cons r0
  obtain ⟨rfl, rfl, rfl⟩ := trodAll_nil r1
  obtain rfl : args = #[v0, v1] := by cases args; simp_all
  obtain ⟨rfl, rfl⟩ := trodVars_none hV
  clear hA0
  obtain ⟨fs0, hf0, hn0, hr0⟩ := open_arg_files (hval 0 22 v0 rfl rfl) h0 (weights_arg hsz (j := 0) rfl rfl)
  obtain ⟨x1, rfl, rfl, rfl, wx1⟩ := open_int Tryf.underlying3 (hval 1 3 v1 rfl rfl) h1
  refine (fnSetPosition_walk v0 fs0 x1 W hf0).mono fun e W' ⟨he, hb⟩ => ?_
  subst he
  exact ⟨_, rfl, law_post (tb := 4) laidOut (by rw [Tryf.params8]; intro t ht; simp at ht; first | (subst ht; exact rd_iFiles) | (rcases ht with rfl | rfl <;> first | exact rd_iFiles | exact rd_int)) rfl rfl Tryf.underlying4 rfl hW' hb⟩

theorem proved : Rows.FnSetPositionToldSaid :=
  Claim7.holds_of_told_any 8 Tryf.f8 "fmt.Sprintf" [] [] _ _ _ (by kernel_rfl) rfl rfl rfl laidOut (by kernel_rfl) rfl ⟨rfl, rfl, rfl, rfl, rfl, rfl, rfl⟩ rfl rfl (by kernel_rfl) (by kernel_rfl) Tryf.func8 (by kernel_rfl)
    (of_decide_eq_true (by kernel_rfl)) (by unfold Func.isWrapper; first | (rw [if_pos (by decide +kernel)]; kernel_rfl) | (rw [if_neg (by decide +kernel)]; exact ⟨rfl, rfl⟩)) stopNames.symm rfl stopKnobs.symm (by kernel_rfl)
    (by kernel_rfl) (by kernel_rfl) (by kernel_rfl) (by kernel_rfl) (by kernel_rfl) (by kernel_rfl) (by kernel_rfl) (by kernel_rfl) (by kernel_rfl) rfl (by kernel_rfl) rfl rfl
    rfl rfl
    rfl (by kernel_rfl) (by kernel_rfl) (by kernel_rfl) (by decide) (by kernel_rfl)
    (OpenClaim.moreEntering_of (by kernel_rfl) (by kernel_rfl) (by kernel_rfl) (by kernel_rfl) (by kernel_rfl) (by kernel_rfl) (by kernel_rfl) (by kernel_rfl) (by kernel_rfl) (by kernel_rfl))
    ⟨_, WideRow.started_initial, quiet _⟩
    (fun os started _ H enc _ => lifted os started H enc)

end Go.Proofs.YtgehgiafhfgacaaFmt.fnSetPosition
