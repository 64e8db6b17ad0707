/- FnNoPosition: for every script of files and every index the law returns true (fmt's texts told by the kit's own function); no condition. -/
import Derived.Test.YtboccjnlfehgoaaFmtOpenF
import Derived.Test.YtboccjnlfehgoaaFmtPlace
import Derived.Test.YtboccjnlfehgoaaFmtSetPos
import Derived.Test.YtboccjnlfehgoaaFmtCards
import Derived.Deep.RegionWith
import Derived.Deep.DrawnRows
namespace Go.Proofs.YtboccjnlfehgoaaFmt
open Go.RowKit
attribute [local go_sem ↓] Go.wp_at_zero Go.wp_at_succ

set_option maxRecDepth 100000 in
set_option maxHeartbeats 4000000 in
theorem fnNoPosition_walk (fv : Value) (fs : List GFile) (k : Int) (w : World) (hf : Files w fv fs) : Calls Tryf.prog 5 #[fv, .int .i64 k] w fun e w' => e = .returned (.bool true) ∧ Below w.heap.size w w' := by
  rcases lines_or fs k with ⟨m, hk, hs⟩ | hk
  · obtain ⟨v1, v2, v3, v4⟩ := hasK_bd hk
    have hg := good_of hk.1 hk.2.2 hs
    have HC := Lib.hid (lined_yes fv fs k m w hf hk hs)
    have hl1 : lnP m m.base = 1 := (zero_law hg (offP_low (Int.le_refl _))).1
    have HP : Hid (∀ W, Below w.heap.size w W → Calls Tryf.prog 18 #[fv, .int .i64 k, .int .i64 0] W fun e w' => e = .returned (.agg #[.string ⟨#[]⟩, .int .i64 0, .int .i64 0, .int .i64 0]) ∧ Below W.heap.size W w') := fun W hb => pos_zero fv fs k m W (hf.below hb) hk
    have HS : Hid (∀ W, Below w.heap.size w W → Calls Tryf.prog 19 #[fv, .int .i64 0] W fun e w' => e = .returned (.agg #[.string ⟨#[]⟩, .int .i64 0, .int .i64 0, .int .i64 0]) ∧ Below W.heap.size W w') := fun W hb => by
      refine (implSetPosition_any fv fs 0 W (hf.below hb) hk.1).mono ?_
      rintro e w' ⟨v, rfl, res, hb'⟩
      rcases res with ⟨rfl, _⟩ | ⟨j, m', h1, h2, _⟩
      · exact ⟨rfl, hb'⟩
      · have := (valid_bounds hk.1).2 m' (List.mem_of_getElem? h1)
        omega
    have HL0 : Hid (∀ W, Below w.heap.size w W → Calls Tryf.prog 20 #[fv, .int .i64 k, .int .i64 0] W fun e w' => e = .returned (.int .i64 0) ∧ Below W.heap.size W w') := fun W hb => line_zero fv fs k m W (hf.below hb) hk
    have HL1 : Hid (∀ W, Below w.heap.size w W → Calls Tryf.prog 20 #[fv, .int .i64 k, .int .i64 m.base] W fun e w' => e = .returned (.int .i64 1) ∧ Below W.heap.size W w') := fun W hb => by
      have := line_good fv fs k m m.base W (hf.below hb) hk hs (by omega) (by omega) (by omega)
      rw [hl1] at this
      exact this
    have HG : Hid (∀ W, Below w.heap.size w W → Calls Tryf.prog 22 #[fv] W (LeavesGiven fs W)) := fun W hb => given_any fv fs W (hf.below hb)
    have HM : Hid (∀ v W, Files W v fs → Calls Tryf.prog 21 #[v] W (LeavesMade fs W)) := fun v W h => made_any v fs W h hk.1
    obtain ⟨kn, rfl⟩ : ∃ n : Nat, k = n := ⟨k.toNat, by have := hk.2.1; omega⟩
    have hkk := hk.2.2
    simp only [Int.toNat_natCast] at hkk
    have HK := Lib.hid hkk
    have hkl : kn < fs.length := by have := (List.getElem?_eq_some_iff.1 hkk).1; rwa [madeL_length] at this
    have q1 : (kn : Int) < (fs.length : Int) := by omega
    have q2 : (0 : Int) ≤ (kn : Int) := by omega
    obtain ⟨fa, fc, rfl, _⟩ := hf.cell
    clear hf hk hkk hg hl1
    go_enter Tryf.func5, Tryf.ntmps5
    go_wp2_with fail
    refine HC.out.mono ?_
    rintro e w1 ⟨la, lc, ya, yc, rfl, _, _, hl, hb1⟩
    clear HC
    go_wp2_with fail
    have hb2 : Below w.heap.size w ((w1.alloc (.cells #[.string m.name, .int .i64 m.base, .int .i64 m.size, .slice la m.lines.length lc, .slice ya m.yes.length yc] 35)).alloc (.cells #[.string ⟨#[]⟩, .int .i64 0, .int .i64 0, .int .i64 0] 23)) := (hb1.alloc hb1.size _).alloc (by have := hb1.size; simp; omega) _
    have hN := heap_new (w1.alloc (.cells #[.string m.name, .int .i64 m.base, .int .i64 m.size, .slice la m.lines.length lc, .slice ya m.yes.length yc] 35)) (.cells #[.string ⟨#[]⟩, .int .i64 0, .int .i64 0, .int .i64 0] 23)
    rw [World.size_alloc] at hN
    generalize ((w1.alloc (.cells #[.string m.name, .int .i64 m.base, .int .i64 m.size, .slice la m.lines.length lc, .slice ya m.yes.length yc] 35)).alloc (.cells #[.string ⟨#[]⟩, .int .i64 0, .int .i64 0, .int .i64 0] 23)) = w2 at *
    generalize w1.heap.size + 1 = x at *
    have f0 := cell_of hN 0
    have f1 := cell_of hN 1
    have f2 := cell_of hN 2
    have f3 := cell_of hN 3
    simp only [List.getElem?_toArray, List.getElem?_cons_zero, List.getElem?_cons_succ] at f0 f1 f2 f3
    have hlt := lt_of_heap hN
    clear hN hb1
    go_region_with (first
      | (go_at_call 18
         refine (HP.out _ hb2.drew).mono ?_
         rintro e w3 ⟨rfl, hb3⟩
         have hc3 : Below w.heap.size w w3 := hb2.drew.trans (hb3.mono hb2.size)
         have g0 := (hb3.cell (p := ⟨x, 0, none⟩) hlt).trans f0
         have g1 := (hb3.cell (p := ⟨x, 1, none⟩) hlt).trans f1
         have g2 := (hb3.cell (p := ⟨x, 2, none⟩) hlt).trans f2
         have g3 := (hb3.cell (p := ⟨x, 3, none⟩) hlt).trans f3
         have hlt3 := Nat.lt_of_lt_of_le hlt hb3.size)
      | (go_at_call 19
         refine (HS.out _ hc3).mono ?_
         rintro e w4 ⟨rfl, hb4⟩
         have hc4 : Below w.heap.size w w4 := hc3.trans (hb4.mono hc3.size)
         have i0 := (hb4.cell (p := ⟨x, 0, none⟩) hlt3).trans g0
         have i1 := (hb4.cell (p := ⟨x, 1, none⟩) hlt3).trans g1
         have i2 := (hb4.cell (p := ⟨x, 2, none⟩) hlt3).trans g2
         have i3 := (hb4.cell (p := ⟨x, 3, none⟩) hlt3).trans g3)
      | (go_at_call 20
         ((with_reducible refine (HL0.out _ hc4).mono ?_)
          rintro e w5 ⟨rfl, hb5⟩
          have hc5 : Below w.heap.size w w5 := hc4.trans (hb5.mono hc4.size)))
      | (go_at_call 22
         refine (HG.out _ hc5).mono ?_
         rintro e w6 ⟨gv, rfl, hG, hb6⟩
         have hc6 : Below w.heap.size w w6 := hc5.trans (hb6.mono hc5.size)
         have HGG := Lib.hid hG
         clear hG)
      | (go_at_call 21
         refine (HM.out _ _ HGG.out).mono ?_
         rintro e w7 ⟨mv, rfl, hM, hb7⟩
         have hc7 : Below w.heap.size w w7 := hc6.trans (hb7.mono hc6.size)
         obtain ⟨ma, mc, hmv, hcell⟩ := hM.cell
         rw [madeL_length] at hmv
         subst hmv
         obtain ⟨g, o, _, _, _, _, rfl, _, c1, _, _, _, _, _, _, _⟩ := hcell kn m HK.out
         clear hcell hM)
      | (go_at_call 20
         refine (HL1.out _ hc7).mono ?_
         rintro e w8 ⟨rfl, hb8⟩
         have hc8 : Below w.heap.size w w8 := hc7.trans (hb8.mono hc7.size)))
    all_goals
      go_wp2
      go_ret
      exact ⟨rfl, hc8⟩
  · have HC := Lib.hid (lined_no fv fs k w hf hk)
    obtain ⟨fa, fc, rfl, _⟩ := hf.cell
    clear hf hk
    go_enter Tryf.func5, Tryf.ntmps5
    go_wp2_with fail
    refine HC.out.mono ?_
    rintro e w1 ⟨nm, b, s, la, ln, lc, ya, yn, yc, rfl, hb1⟩
    clear HC
    have hb2 : Below w.heap.size w (w1.alloc (.cells #[.string nm, .int .i64 b, .int .i64 s, .slice la ln lc, .slice ya yn yc] 35)) := hb1.alloc hb1.size _
    go_wp2
    go_ret
    exact ⟨rfl, hb2⟩
end Go.Proofs.YtboccjnlfehgoaaFmt

-- FRAME (gen_fn.py)
namespace Go.Proofs.YtboccjnlfehgoaaFmt.fnNoPosition
open Go.ChangeShapes Go.WideShapes Go.ChangeAt Go.RowKit
open Go.Extern.Stop Go.Stop Go.Extern

set_option maxRecDepth 100000 in
theorem lifted (os : Os) (started : os.Started) (H : Type) (enc : TypeId × Value → H) :
    ReturnsInTold none {} Tryf.checked os 5 .any Input.okWide ((OpenSpec.ofChange Rows.fnNoPositionSpec).preRow enc Tryf.prog Tryf.f5 [] false []) (fun F => ((OpenSpec.ofChange Rows.fnNoPositionSpec).at F).post enc Tryf.prog Tryf.f5 false true false false) (aloneAtReturn Tryf.prog) nothingAlways := by
  refine returnsInTold_of_row (C := Tryf.checked) (s := OpenSpec.ofChange Rows.fnNoPositionSpec) (by kernel_rfl) own started (by kernel_rfl) Tryf.func5
    (OpenSpec.witness_stopped (enc := enc) (C := Tryf.checked) false ⟨#[], #[.slice none 0 0, .int .i64 0], []⟩ 8 (by kernel_rfl) (by kernel_rfl) (by kernel_rfl) (by kernel_rfl)) ?_
  intro F W base args ds gs before _ hF hval0 hW _ _ hsz _ _
  have hval : ∀ (j : Nat) t v, Tryf.f5.params[j]? = some t → args[j]? = some v → Value.okWide Tryf.prog W .any base t v := hval0
  have hW' := hW
  obtain ⟨p, q, hA0, hV, rfl, hfz, hnd⟩ := hW
  have hA : DataW.TrodAll enc Tryf.prog W 0 (fun _ => true) true Tryf.f5.params.toList args.toList ds p := hA0
  rw [Tryf.params5] at hA hval
  obtain ⟨v0, vs0, d0, ds0, p0, q0, hargs, rfl, rfl, h0, r0⟩ := trodAll_cons hA
  obtain ⟨v1, vs1, d1, ds1, p1, q1, rfl, rfl, rfl, h1, r1⟩ := trodAll_cons r0
  obtain ⟨rfl, rfl, rfl⟩ := trodAll_nil r1
  obtain rfl : args = #[v0, v1] := by cases args; simp_all
  obtain ⟨rfl, rfl⟩ := trodVars_none hV
  clear hA0
  obtain ⟨fs0, hf0, hn0, hr0⟩ := open_arg_files (hval 0 32 v0 rfl rfl) h0 (weights_arg hsz (j := 0) rfl rfl)
  obtain ⟨x1, rfl, rfl, rfl, wx1⟩ := open_int Tryf.underlying3 (hval 1 3 v1 rfl rfl) h1
  refine (fnNoPosition_walk v0 fs0 x1 W hf0).mono fun e W' ⟨he, hb⟩ => ?_
  subst he
  exact ⟨_, rfl, law_post (tb := 4) laidOut (by rw [Tryf.params5]; intro t ht; simp at ht; first | (subst ht; exact rd_iFiles) | (rcases ht with rfl | rfl <;> first | exact rd_iFiles | exact rd_int)) rfl rfl Tryf.underlying4 rfl hW' hb⟩

theorem proved : Rows.FnNoPositionToldSaid :=
  Claim7.holds_of_told_any 5 Tryf.f5 "fmt.Sprintf" [] [] _ _ _ (by kernel_rfl) rfl rfl rfl laidOut (by kernel_rfl) rfl ⟨rfl, rfl, rfl, rfl, rfl, rfl, rfl⟩ rfl rfl (by kernel_rfl) (by kernel_rfl) Tryf.func5 (by kernel_rfl)
    (of_decide_eq_true (by kernel_rfl)) (by unfold Func.isWrapper; first | (rw [if_pos (by decide +kernel)]; kernel_rfl) | (rw [if_neg (by decide +kernel)]; exact ⟨rfl, rfl⟩)) stopNames.symm rfl stopKnobs.symm (by kernel_rfl)
    (by kernel_rfl) (by kernel_rfl) (by kernel_rfl) (by kernel_rfl) (by kernel_rfl) (by kernel_rfl) (by kernel_rfl) (by kernel_rfl) (by kernel_rfl) rfl (by kernel_rfl) rfl rfl
    rfl rfl
    rfl (by kernel_rfl) (by kernel_rfl) (by kernel_rfl) (by decide) (by kernel_rfl)
    (OpenClaim.moreEntering_of (by kernel_rfl) (by kernel_rfl) (by kernel_rfl) (by kernel_rfl) (by kernel_rfl) (by kernel_rfl) (by kernel_rfl) (by kernel_rfl) (by kernel_rfl) (by kernel_rfl))
    ⟨_, WideRow.started_initial, quiet _⟩
    (fun os started _ H enc _ => lifted os started H enc)

end Go.Proofs.YtboccjnlfehgoaaFmt.fnNoPosition
