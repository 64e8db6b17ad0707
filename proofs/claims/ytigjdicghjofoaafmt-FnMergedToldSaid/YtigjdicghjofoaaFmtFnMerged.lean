/- FnMerged: for every script of files, every index, every line and every position the law returns true (fmt's texts told by the kit's own function); no condition. -/
import Derived.Test.YtigjdicghjofoaaFmtOpenF
import Derived.Test.YtigjdicghjofoaaFmtWith
import Derived.Test.YtigjdicghjofoaaFmtCards
import Derived.BigQuiet
namespace Go.Proofs.YtigjdicghjofoaaFmt
open Go.RowKit

theorem ints_nil (w : World) : Ints w (.slice none 0 0) [] := ⟨none, 0, rfl, .inl rfl⟩

set_option maxRecDepth 100000 in
set_option maxHeartbeats 2000000 in
theorem fnMerged_walk (fv : Value) (fs : List GFile) (k line p : Int) (w : World) (hf : Files w fv fs) (hr : RoomOk fs) : Calls Tryf.prog 9 #[fv, .int .i64 k, .int .i64 line, .int .i64 p] w fun e w' => e = .returned (.bool true) ∧ Below w.heap.size w w' := by
  rcases lines_or fs k with ⟨m, hk, hs⟩ | hk
  · obtain ⟨v1, v2, v3, v4⟩ := hasK_bd hk
    have hg := Lib.hid (good_of hk.1 hk.2.2 hs)
    have HC := Lib.hid (lined_yes fv fs k m w hf hk hs)
    have hcases : line < 1 ∨ (1 ≤ line ∧ (m.lines.length : Int) ≤ line) ∨ (1 ≤ line ∧ line < (m.lines.length : Int) ∧ p < m.base) ∨ (1 ≤ line ∧ line < (m.lines.length : Int) ∧ m.base ≤ p ∧ m.base + m.size < p) ∨ (1 ≤ line ∧ line < (m.lines.length : Int) ∧ m.base ≤ p ∧ p ≤ m.base + m.size) := by omega
    rcases hcases with h | ⟨h1, h⟩ | ⟨h1, h2, h⟩ | ⟨h1, h2, h3, h⟩ | ⟨h1, h2, h3, h4⟩
    iterate 4
      · obtain ⟨fa, fc, rfl, _⟩ := hf.cell
        clear hf hk hr hg
        go_enter Tryf.func9, Tryf.ntmps9
        go_wp2_with fail
        refine HC.out.mono ?_
        rintro e w1 ⟨la, lc, ya, yc, rfl, _, _, hl, hb1⟩
        clear HC
        have hb2 : Below w.heap.size w (w1.alloc (.cells #[.string m.name, .int .i64 m.base, .int .i64 m.size, .slice la m.lines.length lc, .slice ya m.yes.length yc] 26)) := hb1.alloc hb1.size _
        go_wp2
        go_ret
        exact ⟨rfl, hb2⟩
    · obtain ⟨g, hgk⟩ : ∃ g, fs[k.toNat]? = some g := by obtain ⟨g, h, _⟩ := made_of hk.2.2; exact ⟨g, h⟩
      have hroom : g.edits.length * 40 ≤ 140737488351232 := hr g (List.mem_of_getElem? hgk)
      obtain ⟨i, rfl⟩ : ∃ i : Nat, line = (i : Int) + 1 := ⟨(line - 1).toNat, by omega⟩
      have hi1 : i + 1 < m.lines.length := by omega
      have hk2 := hasK_merged hk hgk (j := i + 1) (by omega) hi1
      obtain ⟨kn, rfl⟩ : ∃ n : Nat, k = n := ⟨k.toNat, by have := hk.2.1; omega⟩
      simp only [Int.toNat_natCast] at hgk hk2
      have HW : Hid (∀ W, Below w.heap.size w W → Calls Tryf.prog 28 #[fv, .int .i64 kn, .agg #[.int .i64 2, .slice none 0 0, .int .i64 ((i : Int) + 1)]] W fun r w' => ∃ v, r = .returned v ∧ Files w' v (withL fs kn g ⟨2, [], ((i + 1 : Nat) : Int)⟩) ∧ Below W.heap.size W w') := fun W hb => with_any fv fs kn g 2 ((i : Int) + 1) _ [] W (hf.below hb) hgk hroom (ints_nil W) (by simp)
      have hp0 : p ≠ 0 := by omega
      have HP : Hid (∀ W, Below w.heap.size w W → Calls Tryf.prog 29 #[fv, .int .i64 kn, .int .i64 p] W fun e w' => e = .returned (.agg #[.string m.name, .int .i64 (offP m p), .int .i64 (lnP m p), .int .i64 (clP m p)]) ∧ Below W.heap.size W w') := fun W hb => pos_good fv fs kn m p W (hf.below hb) hk hs hp0 (by omega) (by omega)
      have HP2 : Hid (∀ W v, Files W v (withL fs kn g ⟨2, [], ((i + 1 : Nat) : Int)⟩) → Calls Tryf.prog 29 #[v, .int .i64 kn, .int .i64 p] W fun e w' => e = .returned (.agg #[.string m.name, .int .i64 (offP (mergedM m (i + 1)) p), .int .i64 (lnP (mergedM m (i + 1)) p), .int .i64 (clP (mergedM m (i + 1)) p)]) ∧ Below W.heap.size W w') := fun W v hF => pos_good v _ kn (mergedM m (i + 1)) p W hF hk2 hs hp0 (by omega) (by omega)
      obtain ⟨ml0, ml1, ml2, ml3⟩ := merged_law hg.out v2 (j := i + 1) (by omega) hi1 p
      rw [ml0] at HP2
      have lb := (lnP_bd hg.out v2 p).1
      have lbh := (lnP_bd hg.out v2 p).2
      have ob := offP_bd v2 p
      have sb := stP_bd hg.out v2 p
      have hc1 : clP m p ≤ 4398046511104 := by rw [clP_eq]; omega
      have hc0 : 0 ≤ clP m p := by rw [clP_eq]; omega
      have x1 := hg.out.nneg (show i < m.lines.length by omega)
      have x2 := hg.out.ltk (show i < m.lines.length by omega)
      have y1 := hg.out.nneg hi1
      have y2 := hg.out.ltk hi1
      rw [show i + 1 - 1 = i by omega] at ml2
      obtain ⟨fa, fc, rfl, _⟩ := hf.cell
      have hxv : ∃ x, x = m.lines.getD i 0 := ⟨_, rfl⟩
      have hyv : ∃ y, y = m.lines.getD (i + 1) 0 := ⟨_, rfl⟩
      obtain ⟨x, hx⟩ := hxv
      obtain ⟨y, hy⟩ := hyv
      rw [← hx] at x1 x2 ml2
      rw [← hy] at y1 y2 ml2
      have HX := Lib.hid hx
      have HY := Lib.hid hy
      generalize offP m p = o1 at *
      generalize lnP m p = l1 at *
      generalize clP m p = c1 at *
      generalize lnP (mergedM m (i + 1)) p = l2 at *
      generalize clP (mergedM m (i + 1)) p = c2 at *
      have M1 := Lib.hid ml1
      have M2 := Lib.hid ml2
      have M3 := Lib.hid ml3
      clear hf hk hk2 hg hp0 ml0 ml1 ml2 ml3 hx hy sb hr hroom hgk
      go_enter Tryf.func9, Tryf.ntmps9
      go_wp2_with fail
      refine HC.out.mono ?_
      rintro e w1 ⟨la, lc, ya, yc, rfl, oL, _, hl, hb1⟩
      clear HC
      have hNN := heap_new w1 (.cells #[.string m.name, .int .i64 m.base, .int .i64 m.size, .slice la m.lines.length lc, .slice ya m.yes.length yc] 26)
      have hb2 : Below w.heap.size w (w1.alloc (.cells #[.string m.name, .int .i64 m.base, .int .i64 m.size, .slice la m.lines.length lc, .slice ya m.yes.length yc] 26)) := hb1.alloc hb1.size _
      have HI : Hid (Ints (w1.alloc (.cells #[.string m.name, .int .i64 m.base, .int .i64 m.size, .slice la m.lines.length lc, .slice ya m.yes.length yc] 26)) (.slice la m.lines.length lc) m.lines) := Reads.below (owns_reads oL) ((Below.refl _ _).alloc (Nat.le_refl _) _)
      clear oL hb1
      go_wp2_with fail
      refine (HW.out _ hb2).mono ?_
      rintro e w2 ⟨mv, rfl, hF, hb3⟩
      have HP3 : Hid (∀ W, Below w2.heap.size w2 W → _) := fun W hb => HP2.out W mv (hF.below hb)
      obtain ⟨ma, mc, rfl, _⟩ := hF.cell
      have hb4 : Below w.heap.size w w2 := hb2.trans (hb3.mono hb2.size)
      have hN2 := (hb3.block w1.heap.size (by simp)).trans hNN
      have HI2 : Hid (Ints w2 (.slice la m.lines.length lc) m.lines) := HI.out.below hb3
      clear HW HP2 hF HI hNN hb2 hb3
      go_wp2_with fail
      refine (HP.out _ hb4).mono ?_
      rintro e w3 ⟨rfl, hb5⟩
      have HP4 := Lib.hid (HP3.out (w3.alloc (.cells #[.string m.name, .int .i64 o1, .int .i64 l1, .int .i64 c1] 43)) (hb5.alloc hb5.size _))
      have hb6 : Below w.heap.size w (w3.alloc (.cells #[.string m.name, .int .i64 o1, .int .i64 l1, .int .i64 c1] 43)) := (hb4.trans (hb5.mono hb4.size)).alloc (by have := hb4.size; have := hb5.size; omega) _
      have hb65 : Below w2.heap.size w2 (w3.alloc (.cells #[.string m.name, .int .i64 o1, .int .i64 l1, .int .i64 c1] 43)) := hb5.alloc hb5.size _
      have hA := heap_new w3 (.cells #[.string m.name, .int .i64 o1, .int .i64 l1, .int .i64 c1] 43)
      have hN3 := (hb65.block w1.heap.size (lt_of_heap hN2)).trans hN2
      have HI3 : Hid (Ints (w3.alloc (.cells #[.string m.name, .int .i64 o1, .int .i64 l1, .int .i64 c1] 43)) (.slice la m.lines.length lc) m.lines) := HI2.out.below hb65
      clear HP HP3 HI2 hN2 hb4 hb5 hb65
      go_wp2_with fail
      refine HP4.out.mono ?_
      rintro e w5 ⟨rfl, hb7⟩
      have hb75 : Below (w3.alloc (.cells #[.string m.name, .int .i64 o1, .int .i64 l1, .int .i64 c1] 43)).heap.size (w3.alloc (.cells #[.string m.name, .int .i64 o1, .int .i64 l1, .int .i64 c1] 43)) (w5.alloc (.cells #[.string m.name, .int .i64 o1, .int .i64 l2, .int .i64 c2] 43)) := hb7.alloc hb7.size _
      have hb8 : Below w.heap.size w (w5.alloc (.cells #[.string m.name, .int .i64 o1, .int .i64 l2, .int .i64 c2] 43)) := hb6.trans (hb75.mono hb6.size)
      have hA5 := (hb75.block w3.heap.size (lt_of_heap hA)).trans hA
      have hN5 := (hb75.block w1.heap.size (lt_of_heap hN3)).trans hN3
      have hI5 := HI3.out.below hb75
      obtain ⟨a, cap, hav, hcell⟩ := Ints.cell hI5
      simp only [Value.slice.injEq] at hav
      obtain ⟨rfl, -, rfl⟩ := hav
      obtain ⟨gl, ol, rfl, hcl⟩ := hcell.resolve_left (fun e => by rw [e] at hi1; simp at hi1)
      have d0 := hcl i (by omega)
      have d1 := hcl (i + 1) hi1
      rw [← HX.out] at d0
      rw [← HY.out] at d1
      clear HP4 hA hN3 HI3 hI5 hb6 hb7 hb75 hcell hcl HX HY
      have f3 := cell_of hN5 3
      have a0 := cell_of hA5 0
      have a1 := cell_of hA5 1
      have a2 := cell_of hA5 2
      have a3 := cell_of hA5 3
      simp only [List.getElem?_toArray, List.getElem?_cons_zero, List.getElem?_cons_succ] at f3 a0 a1 a2 a3
      clear hN5 hA5
      have s1 : (o1 != o1) = false := by simp
      have hlc : l1 ≤ (i : Int) + 1 ∨ l1 = (i : Int) + 1 + 1 ∨ (i : Int) + 1 + 1 < l1 := by omega
      rcases hlc with h | h | h
      · obtain ⟨rfl, rfl⟩ := M1.out (by omega)
        clear M1 M2 M3
        go_wp2
        go_ret
        exact ⟨rfl, hb8⟩
      · obtain ⟨e1, e2⟩ := M2.out (by omega)
        have e1' : l2 = (i : Int) + 1 := by omega
        subst e1' e2 h
        clear M1 M2 M3 e1
        have e3 : IntKind.i64.wrap (c1 + y) = c1 + y := IntWalk.i64_in _ (by omega)
        have e4 : IntKind.i64.wrap (c1 + y - x) = c1 + y - x := IntWalk.i64_in _ (by omega)
        have e5 : ((i : Int) + 1 - 1) = (i : Int) := by omega
        have q1 : ¬ ((i : Int) + 1 + 1 ≤ (i : Int) + 1) := by omega
        have s3 : (((i : Int) + 1 + 1) == ((i : Int) + 1 + 1)) = true := by simp
        have s4 : (((i : Int) + 1) == ((i : Int) + 1)) = true := by simp
        have s5 : ((c1 + y - x) == (c1 + y - x)) = true := by simp
        have q2 : (i : Int) + 1 < (m.lines.length : Int) := by omega
        have q3 : (i : Int) < (m.lines.length : Int) := by omega
        go_wp2_with fail
        go_quiet (fail)
        go_wp2
        go_ret
        exact ⟨rfl, below_drewN hb8 _⟩
      · obtain ⟨e1, e2⟩ := M3.out (by omega)
        subst e1 e2
        clear M1 M2 M3
        have q1 : ¬ (l1 ≤ (i : Int) + 1) := by omega
        have s3 : (l1 == ((i : Int) + 1 + 1)) = false := by simp; omega
        have e3 : IntKind.i64.wrap (l1 - 1) = l1 - 1 := IntWalk.i64_in _ (by omega)
        have s4 : ((l1 - 1) == (l1 - 1)) = true := by simp
        have s5 : (c2 == c2) = true := by simp
        go_wp2
        go_ret
        exact ⟨rfl, hb8⟩
  · have HC := Lib.hid (lined_no fv fs k w hf hk)
    obtain ⟨fa, fc, rfl, _⟩ := hf.cell
    clear hf hk
    go_enter Tryf.func9, Tryf.ntmps9
    go_wp2_with fail
    refine HC.out.mono ?_
    rintro e w1 ⟨nm, b, s, la, ln, lc, ya, yn, yc, rfl, hb1⟩
    clear HC
    have hb2 : Below w.heap.size w (w1.alloc (.cells #[.string nm, .int .i64 b, .int .i64 s, .slice la ln lc, .slice ya yn yc] 26)) := hb1.alloc hb1.size _
    go_wp2
    go_ret
    exact ⟨rfl, hb2⟩
end Go.Proofs.YtigjdicghjofoaaFmt

-- FRAME (gen_fn.py)
namespace Go.Proofs.YtigjdicghjofoaaFmt.fnMerged
open Go.ChangeShapes Go.WideShapes Go.ChangeAt Go.RowKit
open Go.Extern.Stop Go.Stop Go.Extern

set_option maxRecDepth 100000 in
theorem lifted (os : Os) (started : os.Started) (H : Type) (enc : TypeId × Value → H) :
    ReturnsInTold none {} Tryf.checked os 9 .any Input.okWide ((OpenSpec.ofChange Rows.fnMergedSpec).preRow enc Tryf.prog Tryf.f9 [] false []) (fun F => ((OpenSpec.ofChange Rows.fnMergedSpec).at F).post enc Tryf.prog Tryf.f9 false true false false) (aloneAtReturn Tryf.prog) nothingAlways := by
  refine returnsInTold_of_row (C := Tryf.checked) (s := OpenSpec.ofChange Rows.fnMergedSpec) (by kernel_rfl) own started (by kernel_rfl) Tryf.func9
    (OpenSpec.witness_stopped (enc := enc) (C := Tryf.checked) false ⟨#[], #[.slice none 0 0, .int .i64 0, .int .i64 0, .int .i64 0], []⟩ 8 (by kernel_rfl) (by kernel_rfl) (by kernel_rfl) (by kernel_rfl)) ?_
  intro F W base args ds gs before _ hF hval0 hW _ _ hsz _ _
  have hval : ∀ (j : Nat) t v, Tryf.f9.params[j]? = some t → args[j]? = some v → Value.okWide Tryf.prog W .any base t v := hval0
  have hW' := hW
  obtain ⟨p, q, hA0, hV, rfl, hfz, hnd⟩ := hW
  have hA : DataW.TrodAll enc Tryf.prog W 0 (fun _ => true) true Tryf.f9.params.toList args.toList ds p := hA0
  rw [Tryf.params9] at hA hval
  obtain ⟨v0, vs0, d0, ds0, p0, q0, hargs, rfl, rfl, h0, r0⟩ := trodAll_cons hA
  obtain ⟨v1, vs1, d1, ds1, p1, q1, rfl, rfl, rfl, h1, r1⟩ := trodAll_cons r0
  obtain ⟨v2, vs2, d2, ds2, p2, q2, rfl, rfl, rfl, h2, r2⟩ := trodAll_cons r1
  obtain ⟨v3, vs3, d3, ds3, p3, q3, rfl, rfl, rfl, h3, r3⟩ := trodAll_cons r2
  obtain ⟨rfl, rfl, rfl⟩ := trodAll_nil r3
  obtain rfl : args = #[v0, v1, v2, v3] := by cases args; simp_all
  obtain ⟨rfl, rfl⟩ := trodVars_none hV
  clear hA0
  obtain ⟨fs0, hf0, hn0, hr0⟩ := open_arg_files (hval 0 22 v0 rfl rfl) h0 (weights_arg hsz (j := 0) rfl rfl)
  obtain ⟨x1, rfl, rfl, rfl, wx1⟩ := open_int Tryf.underlying3 (hval 1 3 v1 rfl rfl) h1
  obtain ⟨x2, rfl, rfl, rfl, wx2⟩ := open_int Tryf.underlying3 (hval 2 3 v2 rfl rfl) h2
  obtain ⟨x3, rfl, rfl, rfl, wx3⟩ := open_int Tryf.underlying3 (hval 3 3 v3 rfl rfl) h3
  refine (fnMerged_walk v0 fs0 x1 x2 x3 W hf0 hr0).mono fun e W' ⟨he, hb⟩ => ?_
  subst he
  exact ⟨_, rfl, law_post (tb := 4) laidOut (by rw [Tryf.params9]; intro t ht; simp at ht; first | (subst ht; exact rd_iFiles) | (rcases ht with rfl | rfl | rfl | rfl <;> first | exact rd_iFiles | exact rd_int)) rfl rfl Tryf.underlying4 rfl hW' hb⟩

theorem proved : Rows.FnMergedToldSaid :=
  Claim7.holds_of_told_any 9 Tryf.f9 "fmt.Sprintf" [] [] _ _ _ (by kernel_rfl) rfl rfl rfl laidOut (by kernel_rfl) rfl ⟨rfl, rfl, rfl, rfl, rfl, rfl, rfl⟩ rfl rfl (by kernel_rfl) (by kernel_rfl) Tryf.func9 (by kernel_rfl)
    (of_decide_eq_true (by kernel_rfl)) (by unfold Func.isWrapper; first | (rw [if_pos (by decide +kernel)]; kernel_rfl) | (rw [if_neg (by decide +kernel)]; exact ⟨rfl, rfl⟩)) stopNames.symm rfl stopKnobs.symm (by kernel_rfl)
    (by kernel_rfl) (by kernel_rfl) (by kernel_rfl) (by kernel_rfl) (by kernel_rfl) (by kernel_rfl) (by kernel_rfl) (by kernel_rfl) (by kernel_rfl) rfl (by kernel_rfl) rfl rfl
    rfl rfl
    rfl (by kernel_rfl) (by kernel_rfl) (by kernel_rfl) (by decide) (by kernel_rfl)
    (OpenClaim.moreEntering_of (by kernel_rfl) (by kernel_rfl) (by kernel_rfl) (by kernel_rfl) (by kernel_rfl) (by kernel_rfl) (by kernel_rfl) (by kernel_rfl) (by kernel_rfl) (by kernel_rfl))
    ⟨_, WideRow.started_initial, quiet _⟩
    (fun os started _ H enc _ => lifted os started H enc)

end Go.Proofs.YtigjdicghjofoaaFmt.fnMerged
