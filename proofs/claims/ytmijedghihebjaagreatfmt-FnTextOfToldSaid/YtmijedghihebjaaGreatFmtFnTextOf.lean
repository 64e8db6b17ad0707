/- FnTextOf: for every script of files, every index and every position the law returns true (the tables that it lists as the program's text lays them; fmt's text told by the kit's own function); no condition. -/
import Derived.Test.YtmijedghihebjaaGreatFmtOpenF
import Derived.Test.YtmijedghihebjaaGreatFmtPlace
import Derived.Test.YtmijedghihebjaaGreatFmtTextS
import Derived.Test.YtmijedghihebjaaGreatFmtTie
import Derived.Test.YtmijedghihebjaaGreatFmtCards
import Derived.SevenTiedAt
import Derived.Deep.DeepWitnessRef
import Derived.LaidMore
import Derived.Stop.LaidErr
import Derived.Deep.RegionHeld3
namespace Go.Proofs.YtmijedghihebjaaGreatFmt
open Go.RowKit Go.Extern.Stop Go.Stop Go.Extern Go.Kit

theorem madeFrom_name {m : MFile} : ∀ (gs : List GFile) (n : Int) (k : Nat), (madeFrom n gs)[k]? = some m → ∃ g ∈ gs, m.name = g.name := by
  intro gs
  induction gs with
  | nil => intro n k h; simp [madeFrom] at h
  | cons g gs ih =>
    intro n k h
    rw [madeFrom] at h
    cases k with
    | zero =>
      simp at h
      subst h
      exact ⟨g, by simp, rfl⟩
    | succ k =>
      simp at h
      obtain ⟨x, hx, e⟩ := ih _ _ h
      exact ⟨x, by simp [hx], e⟩
/-- What the law says that is due. -/
def dueS (nm : ByteArray) (l c : Int) : ByteArray := if nm = ⟨#[]⟩ then numS l ++ colS ++ numS c else nm ++ colS ++ (numS l ++ colS ++ numS c)
theorem text_due (nm : ByteArray) (l c : Int) (hl : 1 ≤ l) (hc : 1 ≤ c) : textS nm l c = dueS nm l c := by
  unfold textS dueS headS
  rw [if_pos (by omega), if_neg (by omega)]
  by_cases h : nm = ⟨#[]⟩
  · rw [if_pos h, if_pos h, ByteArray.append_assoc]
  · rw [if_neg h, if_neg h]
    simp only [ByteArray.append_assoc]

set_option maxRecDepth 100000 in
set_option maxHeartbeats 2000000 in
theorem fnTextOf_walk (F : Interp) (fv : Value) (fs : List GFile) (k p : Int) (w : World) (hf : Files w fv fs) (hnm : NamesOk fs) (hF : F.told.answers w.tape) (ht : Tab w) : Calls Tryz.prog 3 #[fv, .int .i64 k, .int .i64 p] w fun e w' => e = .returned (.bool true) ∧ Below w.heap.size w w' := by
  rcases lines_or fs k with ⟨m, hk, hs⟩ | hk
  · obtain ⟨v1, v2, v3, v4⟩ := hasK_bd hk
    have hg := Lib.hid (good_of hk.1 hk.2.2 hs)
    have HC := Lib.hid (lined_yes fv fs k m w hf hk hs)
    have HP : Hid (∀ W q, Below w.heap.size w W → q ≠ 0 → -4398046511104 ≤ q → q ≤ 4398046511104 → Calls Tryz.prog 5 #[fv, .int .i64 k, .int .i64 q] W fun e w' => e = .returned (.agg #[.string m.name, .int .i64 (offP m q), .int .i64 (lnP m q), .int .i64 (clP m q)]) ∧ Below W.heap.size W w') := fun W q hb h1 h2 h3 => pos_good fv fs k m q W (hf.below hb) hk hs h1 h2 h3
    have hns : m.name.size ≤ 1152921504606846976 := by
      obtain ⟨g, hgm, e⟩ := madeFrom_name _ _ _ hk.2.2
      have := hnm g hgm
      rw [e]
      omega
    have HX : Hid (∀ W l c, Below w.heap.size w W → 1 ≤ l → l ≤ 9223372036854775807 → 1 ≤ c → c ≤ 9223372036854775807 → Calls Tryz.prog 7 #[.agg #[.string m.name, .int .i64 (offP m p), .int .i64 l, .int .i64 c]] W fun e w' => e = .returned (.string (dueS m.name l c)) ∧ Below W.heap.size W w') :=
      fun W l c hb h1 h2 h3 h4 => by
        rw [← text_due m.name l c h1 h3]
        exact implText_any F m.name (offP m p) l c W (by rw [hb.tape]; exact hF) (tab_below ht hb) h2 (by omega) h4 hns
    have HV : Hid (∀ W l c, 1 ≤ l → Calls Tryz.prog 8 #[.agg #[.string m.name, .int .i64 (offP m p), .int .i64 l, .int .i64 c]] W fun e w' => e = .returned (.bool true) ∧ Below W.heap.size W w') :=
      fun W l c h1 => by
        have := implIsValid_any m.name (offP m p) l c W
        rwa [show decide (0 < l) = true by simp; omega] at this
    obtain ⟨fa, fc, rfl, _⟩ := hf.cell
    clear hf hk hF ht hnm
    go_enter Tryz.func3, Tryz.ntmps3
    go_wp2_with fail
    refine HC.out.mono ?_
    rintro e w1 ⟨la, lc, ya, yc, rfl, oL, _, hl, hb1⟩
    clear HC
    have hNN := heap_new w1 (.cells #[.string m.name, .int .i64 m.base, .int .i64 m.size, .slice la m.lines.length lc, .slice ya m.yes.length yc] 26)
    have hb2 : Below w.heap.size w (w1.alloc (.cells #[.string m.name, .int .i64 m.base, .int .i64 m.size, .slice la m.lines.length lc, .slice ya m.yes.length yc] 26)) := hb1.alloc hb1.size _
    by_cases h1 : m.base ≤ p
    · by_cases h2 : p ≤ m.base + m.size
      · have lb := lnP_bd hg.out v2 p
        have sb := stP_bd hg.out v2 p
        have ob := offP_bd v2 p
        have ce := clP_eq m p
        have HA := Lib.hid (fun W hb => HP.out W p hb (by omega) (by omega) (by omega))
        have hl1 : lnP m p ≤ 9223372036854775807 := by have := lb.2; omega
        have hc1 : 1 ≤ clP m p := by omega
        have hc2 : clP m p ≤ 9223372036854775807 := by omega
        have hl0 := lb.1
        generalize offP m p = of at *
        generalize lnP m p = l at *
        generalize clP m p = c at *
        have HXX := Lib.hid (fun W hb => HX.out W l c hb hl0 hl1 hc1 hc2)
        have HVV := Lib.hid (fun W => HV.out W l c hl0)
        have HD := Lib.hid (fun W => decimal_any l (by omega) hl1 W)
        have HE := Lib.hid (fun W => decimal_any c (by omega) hc2 W)
        have z1 := numS_size l (by omega) hl1
        have z2 := numS_size c (by omega) hc2
        generalize hD : dueS m.name l c = due at HXX
        have HDue := Lib.hid hD
        clear hD
        unfold dueS colS at HDue
        generalize numS l = n at *
        generalize numS c = q at *
        have f0 := cell_of hNN 0
        simp only [List.getElem?_toArray, List.getElem?_cons_zero] at f0
        have tf := lt_of_heap hNN
        clear HP hg HX HV lb sb ob ce
        go_wp2_with fail
        refine (HA.out _ hb2).mono ?_
        rintro e w3 ⟨rfl, hb3⟩
        have hb4 : Below w.heap.size w (w3.alloc (.cells #[.string m.name, .int .i64 of, .int .i64 l, .int .i64 c] 30)) := (hb2.trans (hb3.mono hb2.size)).alloc (by have := hb2.size; have := hb3.size; omega) _
        have hA := heap_new w3 (.cells #[.string m.name, .int .i64 of, .int .i64 l, .int .i64 c] 30)
        have f1 := (hb3.cell (p := ⟨w1.heap.size, 0, none⟩) tf).trans f0
        have tf1 := Nat.lt_of_lt_of_le tf hb3.size
        have f2 : (w3.alloc (.cells #[.string m.name, .int .i64 of, .int .i64 l, .int .i64 c] 30)).cell? ⟨w1.heap.size, 0, none⟩ = some (.string m.name) := by
          rw [((Below.refl w3.heap.size w3).alloc (Nat.le_refl _) _).cell (p := ⟨w1.heap.size, 0, none⟩) tf1]
          exact f1
        have tf2 : w1.heap.size < (w3.alloc (.cells #[.string m.name, .int .i64 of, .int .i64 l, .int .i64 c] 30)).heap.size := by simp; omega
        clear HA hb3 hNN hb1 hb2 f0 f1 tf tf1 oL hl
        go_wp2_with fail
        generalize (w3.alloc (.cells #[.string m.name, .int .i64 of, .int .i64 l, .int .i64 c] 30)) = w4 at *
        generalize w3.heap.size = xa at *
        generalize w1.heap.size = fb at *
        have a0 := cell_of hA 0
        have a1 := cell_of hA 1
        have a2 := cell_of hA 2
        have a3 := cell_of hA 3
        simp only [List.getElem?_toArray, List.getElem?_cons_zero, List.getElem?_cons_succ] at a0 a1 a2 a3
        have ta := lt_of_heap hA
        clear hA
        have hk1 : ∀ W, (Op.stringOp .add n ⟨#[58]⟩).run Tryz.prog W = .ok (.string (n ++ ⟨#[58]⟩)) W := fun W => run_string_add_sum W n ⟨#[58]⟩ (by have : (⟨#[58]⟩ : ByteArray).size = 1 := rfl; omega)
        have hk2 : ∀ W, (Op.stringOp .add (n ++ ⟨#[58]⟩) q).run Tryz.prog W = .ok (.string (n ++ ⟨#[58]⟩ ++ q)) W := fun W => run_string_add_sum W (n ++ ⟨#[58]⟩) q (by rw [ByteArray.size_append]; have : (⟨#[58]⟩ : ByteArray).size = 1 := rfl; omega)
        go_region_held3 (fun w' => w'.cell? ⟨xa, 2, none⟩ = some (.int .i64 l) ∧ w'.cell? ⟨xa, 3, none⟩ = some (.int .i64 c))
          (first | exact ⟨a2, a3⟩ | exact ⟨b2, b3⟩ | exact ⟨c2, c3⟩)
          (first
            | (go_at_call 6
               refine (HD.out _).mono ?_
               rintro e w5 ⟨rfl, hb5⟩
               clear HD
               have b2 := (hb5.cell (p := ⟨xa, 2, none⟩) ta).trans a2
               have b3 := (hb5.cell (p := ⟨xa, 3, none⟩) ta).trans a3
               have tb := Nat.lt_of_lt_of_le ta hb5.size
               have tg := Nat.lt_of_lt_of_le tf2 hb5.size
               have hb6 : Below w.heap.size w w5 := hb4.drew.trans (hb5.mono hb4.size))
            | (go_at_call 6
               refine (HE.out _).mono ?_
               rintro e w7 ⟨rfl, hb7⟩
               have c2 := (hb7.cell (p := ⟨xa, 2, none⟩) tb).trans b2
               have c3 := (hb7.cell (p := ⟨xa, 3, none⟩) tb).trans b3
               have hb8 : Below w.heap.size w w7 := hb6.trans (hb7.mono hb6.size)))
        have g0 := (hb7.cell (p := ⟨xa, 0, none⟩) tb).trans ((hb5.cell (p := ⟨xa, 0, none⟩) ta).trans a0)
        have g1 := (hb7.cell (p := ⟨xa, 1, none⟩) tb).trans ((hb5.cell (p := ⟨xa, 1, none⟩) ta).trans a1)
        have f3 := (hb7.cell (p := ⟨fb, 0, none⟩) tg).trans ((hb5.cell (p := ⟨fb, 0, none⟩) tf2).trans f2)
        have tc := Nat.lt_of_lt_of_le tb hb7.size
        clear a0 a1 a2 a3 b2 b3 f2 hb4 hb5 hb6 hb7 HE ta tb tg tf2 hk1 hk2
        by_cases hm : m.name = ⟨#[]⟩
        · have hme : m.name.toList.isEmpty = true := by rw [hm, ByteArray.toList_eq]; rfl
          have hdue : n ++ ⟨#[58]⟩ ++ q = due := by have := HDue.out; rwa [if_pos hm] at this
          clear HDue hm
          subst hdue
          go_wp2_with fail
          refine (HXX.out _ hb8).mono ?_
          rintro e w9 ⟨rfl, hb9⟩
          have x0 := (hb9.cell (p := ⟨xa, 0, none⟩) tc).trans g0
          have x1 := (hb9.cell (p := ⟨xa, 1, none⟩) tc).trans g1
          have x2 := (hb9.cell (p := ⟨xa, 2, none⟩) tc).trans c2
          have x3 := (hb9.cell (p := ⟨xa, 3, none⟩) tc).trans c3
          have hb10 : Below w.heap.size w w9 := hb8.trans (hb9.mono hb8.size)
          clear HXX g0 g1 c2 c3 f3 hb8 hb9 tc
          go_wp2_with fail
          refine (HVV.out _).mono ?_
          rintro e w11 ⟨rfl, hb11⟩
          have hb12 : Below w.heap.size w w11 := hb10.trans (hb11.mono hb10.size)
          clear HVV x0 x1 x2 x3 hb10 hb11
          go_wp2
          go_ret
          exact ⟨rfl, hb12⟩
        · have hme := isEmpty_ne hm
          have hdue : m.name ++ ⟨#[58]⟩ ++ (n ++ ⟨#[58]⟩ ++ q) = due := by have := HDue.out; rwa [if_neg hm] at this
          clear HDue hm
          subst hdue
          go_wp2_with fail
          refine (HXX.out _ hb8).mono ?_
          rintro e w9 ⟨rfl, hb9⟩
          have x0 := (hb9.cell (p := ⟨xa, 0, none⟩) tc).trans g0
          have x1 := (hb9.cell (p := ⟨xa, 1, none⟩) tc).trans g1
          have x2 := (hb9.cell (p := ⟨xa, 2, none⟩) tc).trans c2
          have x3 := (hb9.cell (p := ⟨xa, 3, none⟩) tc).trans c3
          have hb10 : Below w.heap.size w w9 := hb8.trans (hb9.mono hb8.size)
          clear HXX g0 g1 c2 c3 f3 hb8 hb9 tc
          go_wp2_with fail
          refine (HVV.out _).mono ?_
          rintro e w11 ⟨rfl, hb11⟩
          have hb12 : Below w.heap.size w w11 := hb10.trans (hb11.mono hb10.size)
          clear HVV x0 x1 x2 x3 hb10 hb11
          go_wp2
          go_ret
          exact ⟨rfl, hb12⟩
      · have h2' : m.base + m.size < p := by omega
        clear HP hg hNN h2
        go_wp2
        go_ret
        exact ⟨rfl, hb2⟩
    · have h1' : p < m.base := by omega
      clear HP hg hNN h1
      go_wp2
      go_ret
      exact ⟨rfl, hb2⟩
  · have HC := Lib.hid (lined_no fv fs k w hf hk)
    obtain ⟨fa, fc, rfl, _⟩ := hf.cell
    clear hf hk
    go_enter Tryz.func3, Tryz.ntmps3
    go_wp2_with fail
    refine HC.out.mono ?_
    rintro e w1 ⟨nm, b, s, la, ln, lc, ya, yn, yc, rfl, hb1⟩
    clear HC
    have hb2 : Below w.heap.size w (w1.alloc (.cells #[.string nm, .int .i64 b, .int .i64 s, .slice la ln lc, .slice ya yn yc] 26)) := hb1.alloc hb1.size _
    go_wp2
    go_ret
    exact ⟨rfl, hb2⟩

-- THE LISTED TABLES
/-- The door's own heap meets the condition. -/
theorem door_met (os : Os) (args : Array Value) : laidMetH Tryz.prog Rows.fnTextOfRow.laid ((World.doorLaid Tryz.prog 400 os).forCall (fun _ _ => 0) ⟨#[], args, []⟩).memory :=
  laidMetH_of_parts3 (fuel := 8) (laidMet_of_run' 8 (by kernel_rfl) (by kernel_rfl)) (by kernel_rfl) (by kernel_rfl)
theorem tab_of_laid {W : World} (h : laidMetH Tryz.prog Rows.fnTextOfRow.laid W) : Tab W := by
  intro name hg
  rw [MakeChecks.laidMetH_plain _ _ _ (by kernel_rfl)] at h
  have h' : laidMet Tryz.prog [(_, Rows.laid_math_bits_deBruijn32tab), (_, Rows.laid_math_bits_deBruijn64tab), (_, Lib.tabData .u64 Lib.pow10Tab)] W := h
  exact tabIs_name (hg.trans (by kernel_rfl)) (Lib.tabIs_of_head (g := 0) (t := 153) (by kernel_rfl) (by kernel_rfl) Tryz.underlying153 (by kernel_rfl) (by kernel_rfl) (by kernel_rfl) h'.tail.tail)
end Go.Proofs.YtmijedghihebjaaGreatFmt

namespace Go.Proofs.YtmijedghihebjaaGreatFmt.fnTextOf
open Go.ChangeShapes Go.WideShapes Go.ChangeAt Go.RowKit
open Go.Extern.Stop Go.Stop Go.Extern

set_option maxRecDepth 100000 in
theorem lifted (os : Os) (started : os.Started) (H : Type) (enc : TypeId × Value → H) :
    ReturnsInTold none {} Tryz.checked os 3 .any Input.okWide ((OpenSpec.ofChange Rows.fnTextOfSpec).preRow enc Tryz.prog Tryz.f3 [] false Rows.fnTextOfRow.laid) (fun F => ((OpenSpec.ofChange Rows.fnTextOfSpec).at F).post enc Tryz.prog Tryz.f3 false true false false) (aloneAtReturn Tryz.prog) nothingAlways := by
  refine returnsInTold_of_row (C := Tryz.checked) (s := OpenSpec.ofChange Rows.fnTextOfSpec) (by kernel_rfl) own started (by kernel_rfl) Tryz.func3
    (OpenSpec.witness_stopped_atRef (enc := enc) (C := Tryz.checked) false (World.doorLaid Tryz.prog 400 os) #[.slice none 0 0, .int .i64 0, .int .i64 0] rfl (by kernel_rfl) (by kernel_rfl) (by kernel_rfl)
      (OpenSpec.preRow_of_B rfl 8 (by kernel_rfl) (by kernel_rfl) (door_met os _))) ?_
  intro F W base args ds gs before _ hF hval0 hW _ _ hsz hL _
  have hval : ∀ (j : Nat) t v, Tryz.f3.params[j]? = some t → args[j]? = some v → Value.okWide Tryz.prog W .any base t v := hval0
  have hW' := hW
  obtain ⟨p, q, hA0, hV, rfl, hfz, hnd⟩ := hW
  have hA : DataW.TrodAll enc Tryz.prog W 0 (fun _ => true) true Tryz.f3.params.toList args.toList ds p := hA0
  rw [Tryz.params3] at hA hval
  obtain ⟨v0, vs0, d0, ds0, p0, q0, hargs, rfl, rfl, h0, r0⟩ := trodAll_cons hA
  obtain ⟨v1, vs1, d1, ds1, p1, q1, rfl, rfl, rfl, h1, r1⟩ := trodAll_cons r0
  obtain ⟨v2, vs2, d2, ds2, p2, q2, rfl, rfl, rfl, h2, r2⟩ := trodAll_cons r1
  obtain ⟨rfl, rfl, rfl⟩ := trodAll_nil r2
  obtain rfl : args = #[v0, v1, v2] := by cases args; simp_all
  obtain ⟨rfl, rfl⟩ := trodVars_none hV
  clear hA0
  obtain ⟨fs0, hf0, hn0, hr0⟩ := open_arg_files (hval 0 22 v0 rfl rfl) h0 (weights_arg hsz (j := 0) rfl rfl)
  obtain ⟨x1, rfl, rfl, rfl, wx1⟩ := open_int Tryz.underlying3 (hval 1 3 v1 rfl rfl) h1
  obtain ⟨x2, rfl, rfl, rfl, wx2⟩ := open_int Tryz.underlying3 (hval 2 3 v2 rfl rfl) h2
  refine (fnTextOf_walk F v0 fs0 x1 x2 W hf0 hn0 hF (tab_of_laid hL)).mono fun e W' ⟨he, hb⟩ => ?_
  subst he
  exact ⟨_, rfl, law_post (tb := 4) laidOut (by rw [Tryz.params3]; intro t ht; simp at ht; first | (subst ht; exact rd_iFiles) | (rcases ht with rfl | rfl | rfl <;> first | exact rd_iFiles | exact rd_int)) rfl rfl Tryz.underlying4 rfl hW' hb⟩

theorem proved : Rows.FnTextOfToldSaid :=
  Claim7.holds_of_told_tied_any_at .later 3 Tryz.f3 "fmt.Sprintf" [] [] _ _ _ _ _ (by kernel_rfl) rfl rfl rfl laidOut (by kernel_rfl) rfl ⟨rfl, rfl, rfl, rfl, rfl, rfl, rfl⟩ rfl rfl (by kernel_rfl) (by kernel_rfl) Tryz.func3 (by kernel_rfl)
    (of_decide_eq_true (by kernel_rfl)) (by unfold Func.isWrapper; first | (rw [if_pos (by decide +kernel)]; kernel_rfl) | (rw [if_neg (by decide +kernel)]; exact ⟨rfl, rfl⟩)) stopNames.symm rfl stopKnobs.symm (by kernel_rfl)
    (by kernel_rfl) (by kernel_rfl) (by kernel_rfl) (by kernel_rfl) (by kernel_rfl) (by kernel_rfl) (by kernel_rfl) (by kernel_rfl) (by kernel_rfl) rfl (by kernel_rfl) rfl rfl
    rfl rfl
    rfl (by kernel_rfl) (by kernel_rfl) (by kernel_rfl) (by decide) (by kernel_rfl) fnTextOf_row_tie
    (OpenClaim.moreEntering_of (by kernel_rfl) (by kernel_rfl) (by kernel_rfl) (by kernel_rfl) (by kernel_rfl) (by kernel_rfl) (by kernel_rfl) (by kernel_rfl) (by kernel_rfl) (by kernel_rfl))
    ⟨_, WideRow.started_initial, quiet _⟩
    (fun os started _ H enc _ => lifted os started H enc)

end Go.Proofs.YtmijedghihebjaaGreatFmt.fnTextOf
