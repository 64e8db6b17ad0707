/- FnTwoWays: for every script of files, every index and every position the law returns true (fmt's texts told by the kit's own function); no condition. -/
import Derived.Test.YtboccjnlfehgoaaGreatFmtOpenF
import Derived.Test.YtboccjnlfehgoaaGreatFmtPlace
import Derived.Test.YtboccjnlfehgoaaGreatFmtSetG
import Derived.Deep.RegionHeld3
import Derived.Test.YtboccjnlfehgoaaGreatFmtCards
namespace Go.Proofs.YtboccjnlfehgoaaGreatFmt
open Go.RowKit

set_option maxRecDepth 100000 in
set_option maxHeartbeats 2000000 in
theorem fnTwoWays_walk (fv : Value) (fs : List GFile) (k p : Int) (w : World) (hf : Files w fv fs) : Calls Tryz.prog 3 #[fv, .int .i64 k, .int .i64 p] w fun e w' => e = .returned (.bool true) ∧ Below w.heap.size w w' := by
  rcases lines_or fs k with ⟨m, hk, hs⟩ | hk
  · obtain ⟨v1, v2, v3, v4⟩ := hasK_bd hk
    have hg := Lib.hid (good_of hk.1 hk.2.2 hs)
    have HC := Lib.hid (lined_yes fv fs k m w hf hk hs)
    have HP : Hid (∀ W q, Below w.heap.size w W → q ≠ 0 → -4398046511104 ≤ q → q ≤ 4398046511104 → Calls Tryz.prog 6 #[fv, .int .i64 k, .int .i64 q] W fun e w' => e = .returned (.agg #[.string m.name, .int .i64 (offP m q), .int .i64 (lnP m q), .int .i64 (clP m q)]) ∧ Below W.heap.size W w') := fun W q hb h1 h2 h3 => pos_good fv fs k m q W (hf.below hb) hk hs h1 h2 h3
    have HLn : Hid (∀ W q, Below w.heap.size w W → q ≠ 0 → -4398046511104 ≤ q → q ≤ 4398046511104 → Calls Tryz.prog 8 #[fv, .int .i64 k, .int .i64 q] W fun e w' => e = .returned (.int .i64 (lnP m q)) ∧ Below W.heap.size W w') := fun W q hb h1 h2 h3 => line_good fv fs k m q W (hf.below hb) hk hs h1 h2 h3
    have HOf : Hid (∀ W q, Below w.heap.size w W → -4398046511104 ≤ q → q ≤ 4398046511104 → Calls Tryz.prog 9 #[fv, .int .i64 k, .int .i64 q] W fun e w' => e = .returned (.int .i64 (offP m q)) ∧ Below W.heap.size W w') := fun W q hb h2 h3 => off_good fv fs k m q W (hf.below hb) hk h2 h3
    have HSP : Hid (∀ W, Below w.heap.size w W → m.base ≤ p → p ≤ m.base + m.size → Calls Tryz.prog 7 #[fv, .int .i64 p] W fun e w' => e = .returned (.agg #[.string m.name, .int .i64 (offP m p), .int .i64 (lnP m p), .int .i64 (clP m p)]) ∧ Below W.heap.size W w') := fun W hb h1 h2 => setpos_good fv fs k.toNat m p W (hf.below hb) hk.1 hk.2.2 hs h1 h2
    obtain ⟨fa, fc, rfl, _⟩ := hf.cell
    clear hf hk
    go_enter Tryz.func3, Tryz.ntmps3
    go_wp2_with fail
    refine HC.out.mono ?_
    rintro e w1 ⟨la, lc, ya, yc, rfl, oL, _, hl, hb1⟩
    clear HC
    have hNN := heap_new w1 (.cells #[.string m.name, .int .i64 m.base, .int .i64 m.size, .slice la m.lines.length lc, .slice ya m.yes.length yc] 26)
    have hb2 : Below w.heap.size w (w1.alloc (.cells #[.string m.name, .int .i64 m.base, .int .i64 m.size, .slice la m.lines.length lc, .slice ya m.yes.length yc] 26)) := hb1.alloc hb1.size _
    by_cases h1 : m.base ≤ p
    · by_cases h2 : p ≤ m.base + m.size
      · have lb := (lnP_bd hg.out v2 p).1
        have HA := Lib.hid (fun W hb => HP.out W p hb (by omega) (by omega) (by omega))
        have HB := Lib.hid (fun W hb => HSP.out W hb h1 h2)
        have HL := Lib.hid (fun W hb => HLn.out W p hb (by omega) (by omega) (by omega))
        have HO := Lib.hid (fun W hb => HOf.out W p hb (by omega) (by omega))
        generalize offP m p = of at *
        generalize lnP m p = l at *
        generalize clP m p = c at *
        have s1 : ((l : Int) == l) = true := by simp
        have s2 : ((of : Int) == of) = true := by simp
        have s3 : decide (0 < l) = true := by simp; omega
        clear HP HLn HOf HSP hg
        go_wp2_with fail
        refine (HA.out _ hb2).mono ?_
        rintro e w3 ⟨rfl, hb3⟩
        have hb4 : Below w.heap.size w (w3.alloc (.cells #[.string m.name, .int .i64 of, .int .i64 l, .int .i64 c] 30)) := (hb2.trans (hb3.mono hb2.size)).alloc (by have := hb2.size; have := hb3.size; omega) _
        have hA := heap_new w3 (.cells #[.string m.name, .int .i64 of, .int .i64 l, .int .i64 c] 30)
        clear HA hb3 hNN hb1 hb2
        go_wp2_with fail
        generalize (w3.alloc (.cells #[.string m.name, .int .i64 of, .int .i64 l, .int .i64 c] 30)) = w4 at *
        generalize w3.heap.size = xa at *
        have a0 := cell_of hA 0
        have a1 := cell_of hA 1
        have a2 := cell_of hA 2
        have a3 := cell_of hA 3
        simp only [List.getElem?_toArray, List.getElem?_cons_zero, List.getElem?_cons_succ] at a0 a1 a2 a3
        have ta := lt_of_heap hA
        clear hA
        go_region_held3 (fun w' => w'.cell? ⟨xa, 0, none⟩ = some (.string m.name) ∧ w'.cell? ⟨xa, 1, none⟩ = some (.int .i64 of) ∧ w'.cell? ⟨xa, 2, none⟩ = some (.int .i64 l) ∧ w'.cell? ⟨xa, 3, none⟩ = some (.int .i64 c))
          (first | exact ⟨a0, a1, a2, a3⟩ | exact ⟨b0, b1, b2, b3⟩ | exact ⟨c0, c1, c2, c3⟩ | exact ⟨d0, d1, d2, d3⟩)
          (first
            | (go_at_call 7
               refine (HB.out _ hb4.drew).mono ?_
               rintro e w5 ⟨rfl, hb5⟩
               have b0 := (hb5.cell (p := ⟨xa, 0, none⟩) ta).trans a0
               have b1 := (hb5.cell (p := ⟨xa, 1, none⟩) ta).trans a1
               have b2 := (hb5.cell (p := ⟨xa, 2, none⟩) ta).trans a2
               have b3 := (hb5.cell (p := ⟨xa, 3, none⟩) ta).trans a3
               have tb := Nat.lt_of_lt_of_le ta hb5.size
               have hb6 : Below w.heap.size w w5 := hb4.drew.trans (hb5.mono hb4.size))
            | (go_at_call 8
               refine (HL.out _ hb6).mono ?_
               rintro e w7 ⟨rfl, hb7⟩
               have c0 := (hb7.cell (p := ⟨xa, 0, none⟩) tb).trans b0
               have c1 := (hb7.cell (p := ⟨xa, 1, none⟩) tb).trans b1
               have c2 := (hb7.cell (p := ⟨xa, 2, none⟩) tb).trans b2
               have c3 := (hb7.cell (p := ⟨xa, 3, none⟩) tb).trans b3
               have tc := Nat.lt_of_lt_of_le tb hb7.size
               have hb8 : Below w.heap.size w w7 := hb6.trans (hb7.mono hb6.size))
            | (go_at_call 9
               refine (HO.out _ hb8).mono ?_
               rintro e w9 ⟨rfl, hb9⟩
               have d0 := (hb9.cell (p := ⟨xa, 0, none⟩) tc).trans c0
               have d1 := (hb9.cell (p := ⟨xa, 1, none⟩) tc).trans c1
               have d2 := (hb9.cell (p := ⟨xa, 2, none⟩) tc).trans c2
               have d3 := (hb9.cell (p := ⟨xa, 3, none⟩) tc).trans c3))
        have hb10 : Below w.heap.size w w9 := hb8.trans (hb9.mono hb8.size)
        clear a0 a1 a2 a3 b0 b1 b2 b3 c0 c1 c2 c3 d0 d1 d2 d3
        go_wp2
        go_ret
        exact ⟨rfl, hb10⟩
      · have h2' : m.base + m.size < p := by omega
        clear HP HLn HOf HSP hg hNN h2
        go_wp2
        go_ret
        exact ⟨rfl, hb2⟩
    · have h1' : p < m.base := by omega
      clear HP HLn HOf HSP hg hNN h1
      go_wp2
      go_ret
      exact ⟨rfl, hb2⟩
  · have HC := Lib.hid (lined_no fv fs k w hf hk)
    obtain ⟨fa, fc, rfl, _⟩ := hf.cell
    clear hf hk
    go_enter Tryz.func3, Tryz.ntmps3
    go_wp2_with fail
    refine HC.out.mono ?_
    rintro e w1 ⟨nm, b, s, la, ln, lc, ya, yn, yc, rfl, hb1⟩
    clear HC
    have hb2 : Below w.heap.size w (w1.alloc (.cells #[.string nm, .int .i64 b, .int .i64 s, .slice la ln lc, .slice ya yn yc] 26)) := hb1.alloc hb1.size _
    go_wp2
    go_ret
    exact ⟨rfl, hb2⟩
end Go.Proofs.YtboccjnlfehgoaaGreatFmt

-- FRAME (gen_fn.py)
namespace Go.Proofs.YtboccjnlfehgoaaGreatFmt.fnTwoWays
open Go.ChangeShapes Go.WideShapes Go.ChangeAt Go.RowKit
open Go.Extern.Stop Go.Stop Go.Extern

set_option maxRecDepth 100000 in
theorem lifted (os : Os) (started : os.Started) (H : Type) (enc : TypeId × Value → H) :
    ReturnsInTold none {} Tryz.checked os 3 .any Input.okWide ((OpenSpec.ofChange Rows.fnTwoWaysSpec).preRow enc Tryz.prog Tryz.f3 [] false []) (fun F => ((OpenSpec.ofChange Rows.fnTwoWaysSpec).at F).post enc Tryz.prog Tryz.f3 false true false false) (aloneAtReturn Tryz.prog) nothingAlways := by
  refine returnsInTold_of_row (C := Tryz.checked) (s := OpenSpec.ofChange Rows.fnTwoWaysSpec) (by kernel_rfl) own started (by kernel_rfl) Tryz.func3
    (OpenSpec.witness_stopped (enc := enc) (C := Tryz.checked) false ⟨#[], #[.slice none 0 0, .int .i64 0, .int .i64 0], []⟩ 8 (by kernel_rfl) (by kernel_rfl) (by kernel_rfl) (by kernel_rfl)) ?_
  intro F W base args ds gs before _ hF hval0 hW _ _ hsz _ _
  have hval : ∀ (j : Nat) t v, Tryz.f3.params[j]? = some t → args[j]? = some v → Value.okWide Tryz.prog W .any base t v := hval0
  have hW' := hW
  obtain ⟨p, q, hA0, hV, rfl, hfz, hnd⟩ := hW
  have hA : DataW.TrodAll enc Tryz.prog W 0 (fun _ => true) true Tryz.f3.params.toList args.toList ds p := hA0
  rw [Tryz.params3] at hA hval
  obtain ⟨v0, vs0, d0, ds0, p0, q0, hargs, rfl, rfl, h0, r0⟩ := trodAll_cons hA
  obtain ⟨v1, vs1, d1, ds1, p1, q1, rfl, rfl, rfl, h1, r1⟩ := trodAll_cons r0
  obtain ⟨v2, vs2, d2, ds2, p2, q2, rfl, rfl, rfl, h2, r2⟩ := trodAll_cons r1
  obtain ⟨rfl, rfl, rfl⟩ := trodAll_nil r2
  obtain rfl : args = #[v0, v1, v2] := by cases args; simp_all
  obtain ⟨rfl, rfl⟩ := trodVars_none hV
  clear hA0
  obtain ⟨fs0, hf0, hn0, hr0⟩ := open_arg_files (hval 0 22 v0 rfl rfl) h0 (weights_arg hsz (j := 0) rfl rfl)
  obtain ⟨x1, rfl, rfl, rfl, wx1⟩ := open_int Tryz.underlying3 (hval 1 3 v1 rfl rfl) h1
  obtain ⟨x2, rfl, rfl, rfl, wx2⟩ := open_int Tryz.underlying3 (hval 2 3 v2 rfl rfl) h2
  refine (fnTwoWays_walk v0 fs0 x1 x2 W hf0).mono fun e W' ⟨he, hb⟩ => ?_
  subst he
  exact ⟨_, rfl, law_post (tb := 4) laidOut (by rw [Tryz.params3]; intro t ht; simp at ht; first | (subst ht; exact rd_iFiles) | (rcases ht with rfl | rfl | rfl <;> first | exact rd_iFiles | exact rd_int)) rfl rfl Tryz.underlying4 rfl hW' hb⟩

theorem proved : Rows.FnTwoWaysToldSaid :=
  Claim7.holds_of_told_any 3 Tryz.f3 "fmt.Sprintf" [] [] _ _ _ (by kernel_rfl) rfl rfl rfl laidOut (by kernel_rfl) rfl ⟨rfl, rfl, rfl, rfl, rfl, rfl, rfl⟩ rfl rfl (by kernel_rfl) (by kernel_rfl) Tryz.func3 (by kernel_rfl)
    (of_decide_eq_true (by kernel_rfl)) (by unfold Func.isWrapper; first | (rw [if_pos (by decide +kernel)]; kernel_rfl) | (rw [if_neg (by decide +kernel)]; exact ⟨rfl, rfl⟩)) stopNames.symm rfl stopKnobs.symm (by kernel_rfl)
    (by kernel_rfl) (by kernel_rfl) (by kernel_rfl) (by kernel_rfl) (by kernel_rfl) (by kernel_rfl) (by kernel_rfl) (by kernel_rfl) (by kernel_rfl) rfl (by kernel_rfl) rfl rfl
    rfl rfl
    rfl (by kernel_rfl) (by kernel_rfl) (by kernel_rfl) (by decide) (by kernel_rfl)
    (OpenClaim.moreEntering_of (by kernel_rfl) (by kernel_rfl) (by kernel_rfl) (by kernel_rfl) (by kernel_rfl) (by kernel_rfl) (by kernel_rfl) (by kernel_rfl) (by kernel_rfl) (by kernel_rfl))
    ⟨_, WideRow.started_initial, quiet _⟩
    (fun os started _ H enc _ => lifted os started H enc)

end Go.Proofs.YtboccjnlfehgoaaGreatFmt.fnTwoWays
