/- FnAnswers: for every script of files the law returns true (fmt's texts told by the kit's own function); no condition. -/
import Derived.Test.YtboccjnlfehgoaaFmtOpenF
import Derived.Test.YtboccjnlfehgoaaFmtHeads
import Derived.Test.YtboccjnlfehgoaaFmtBools
import Derived.Test.YtboccjnlfehgoaaFmtCards
import Derived.Deep.QuietTactic
import Derived.BigQuiet
namespace Go.Proofs.YtboccjnlfehgoaaFmt
open Go.RowKit

theorem Tolds.below {w w' : World} {v : Value} {ms : List MFile} (h : Tolds w v ms) (hb : Below w.heap.size w w') : Tolds w' v ms := by
  obtain ⟨yvs, h1, h2, h3⟩ := h
  refine ⟨yvs, h1, h2.below hb, fun k m hk => ?_⟩
  obtain ⟨yv, h4, h5⟩ := h3 k m hk
  exact ⟨yv, h4, h5.below hb⟩

set_option maxRecDepth 100000 in
set_option maxHeartbeats 1000000 in
theorem fnAnswers_walk (fv : Value) (fs : List GFile) (w : World) (hf : Files w fv fs) : Calls Tryf.prog 7 #[fv] w fun e w' => e = .returned (.bool true) ∧ Below w.heap.size w w' := by
  by_cases hv : validL fs
  · have HC := Lib.hid (lawsMade_yes fv fs w hf hv)
    have HA : Hid (∀ W, Below w.heap.size w W → Calls Tryf.prog 26 #[fv] W fun e w' => ∃ v, e = .returned v ∧ Tolds w' v (madeL fs) ∧ Below W.heap.size W w') := fun W hb => answers_any fv fs W (hf.below hb) hv
    have hlen := hf.1
    obtain ⟨fa, fc, rfl, _⟩ := hf.cell
    clear hf hv
    go_enter Tryf.func7, Tryf.ntmps7
    go_wp2_with fail
    refine HC.out.mono ?_
    rintro e w1 ⟨mv, rfl, hM, hb1⟩
    have hml : (madeL fs).length = fs.length := madeL_length fs
    obtain ⟨ma, mc, hmv, _⟩ := hM.cell
    rw [hml] at hmv
    subst hmv
    have HM := Lib.hid (hM.mades (by rw [hml]; exact hlen))
    clear HC hM
    go_wp2_with fail
    refine (HA.out w1 hb1).mono ?_
    rintro e w2 ⟨tv, rfl, hT, hb2⟩
    obtain ⟨ta, tc, rfl⟩ : ∃ a c, tv = .slice a fs.length c := by
      obtain ⟨yvs, h1, ⟨a, c, h2, _⟩, _⟩ := hT
      exact ⟨a, c, by rw [h2, h1, hml]⟩
    have hb3 : Below w.heap.size w w2 := hb1.trans (hb2.mono hb1.size)
    have HT : Hid (∀ W, Below w2.heap.size w2 W → Tolds W (.slice ta fs.length tc) (madeL fs) ∧ Mades W (.slice ma fs.length mc) (madeL fs)) := fun W hb => ⟨hT.below hb, (HM.out.below hb2).below hb⟩
    have HML := Lib.hid hml
    have hbne : ((fs.length : Int) != (fs.length : Int)) = false := by simp
    clear hT HM HA hb1 hb2 hml
    go_wp2_with fail
    go_loopg [24] fs.length (fun k v wr => ∃ i : Nat, v = .int .i64 i ∧ i ≤ fs.length ∧ k = fs.length - i ∧ Below w2.heap.size w2 wr)
    case atStart => exact ⟨0, rfl, by omega, by omega, Below.refl _ _⟩
    case round =>
      rename World => wr
      obtain ⟨i, rfl, hi, rfl, hbr⟩ := hrel
      by_cases hlt : i < fs.length
      · obtain ⟨m, hm⟩ : ∃ m, (madeL fs)[i]? = some m := ⟨_, List.getElem?_eq_getElem (by rw [HML.out]; exact hlt)⟩
        obtain ⟨hT, hM⟩ := HT.out wr hbr
        obtain ⟨_, _, hcv, hcell⟩ := hM.cell
        simp only [Value.slice.injEq] at hcv
        obtain ⟨rfl, -, rfl⟩ := hcv
        obtain ⟨g, o, lv, yv, rfl, c0, c1, c2, c3, c4, hI, hR, hl, hyl⟩ := hcell i m hm
        obtain ⟨la, lc, rfl⟩ : ∃ la lc, lv = .slice la m.lines.length lc := by obtain ⟨a, c, h, _⟩ := hI; exact ⟨a, c, by simpa using h⟩
        obtain ⟨ya, yc, rfl⟩ : ∃ la lc, yv = .slice la m.yes.length lc := by obtain ⟨a, c, h, _⟩ := hR; exact ⟨a, c, by simpa using h⟩
        obtain ⟨yvs, t1, ⟨ta', tc', t2, t3⟩, t4⟩ := hT
        simp only [Value.slice.injEq] at t2
        obtain ⟨rfl, -, rfl⟩ := t2
        obtain ⟨yv, t5, t6⟩ := t4 i m hm
        have hyne : ¬ yvs = [] := fun e => by rw [e] at t5; simp at t5
        obtain ⟨tg, tq, rfl, t7⟩ := t3.resolve_left hyne
        have c5 := t7 i yv t5
        obtain ⟨xa, xc, rfl⟩ : ∃ la lc, yv = .slice la m.yes.length lc := by obtain ⟨a, c, h, _⟩ := t6; exact ⟨a, c, by simpa using h⟩
        have hbx : Below wr.heap.size wr (wr.alloc (.cells #[.string m.name, .int .i64 m.base, .int .i64 m.size, .slice la m.lines.length lc, .slice ya m.yes.length yc] 35)) := (Below.refl _ _).alloc (Nat.le_refl _) _
        have d5 := (hbx.cell (p := ⟨tg, tq + i, none⟩) (World.block_lt_of_cell? wr _ c5)).trans c5
        have d6 := cell_of (heap_new wr (.cells #[.string m.name, .int .i64 m.base, .int .i64 m.size, .slice la m.lines.length lc, .slice ya m.yes.length yc] 35)) 4
        simp only [List.getElem?_toArray, List.getElem?_cons_zero, List.getElem?_cons_succ] at d6
        have HBS : Hid (∀ W, Below wr.heap.size wr W → Calls Tryf.prog 27 #[.slice xa m.yes.length xc, .slice ya m.yes.length yc] W fun e w' => e = .returned (.bool true) ∧ ∃ n, w' = W.drewN n) := fun W hb => bools_same _ _ m.yes W (t6.below hb) (hR.below hb) (by omega)
        have hbq : Below w2.heap.size w2 (wr.alloc (.cells #[.string m.name, .int .i64 m.base, .int .i64 m.size, .slice la m.lines.length lc, .slice ya m.yes.length yc] 35)) := hbr.trans (hbx.mono hbr.size)
        have q1 : (i : Int) < (fs.length : Int) := by omega
        clear hM hcell hI hR t1 t3 t4 t5 t6 t7 hyne hm c5
        go_wp2_with fail
        generalize (wr.alloc (.cells #[.string m.name, .int .i64 m.base, .int .i64 m.size, .slice la m.lines.length lc, .slice ya m.yes.length yc] 35)) = wq at *
        clear c0 c1 c2 c3 c4
        go_quiet ((go_at_call 27; exact Calls.quiet_of (HBS.out _ (below_drewN hbx _))))
        go_wp2
        go_roundg (fs.length - (i + 1))
        case measure => omega
        case rel => exact ⟨i + 1, by go_num, by omega, rfl, below_drewN hbq _⟩
      · have hi2 : i = fs.length := by omega
        subst hi2
        have hns : ¬ ((fs.length : Int) < (fs.length : Int)) := by omega
        have hb5 : Below w.heap.size w wr := hb3.trans (hbr.mono hb3.size)
        clear hlt HT hbr
        go_wp2
        go_ret
        exact ⟨rfl, hb5⟩
  · have HC := Lib.hid (lawsMade_no fv fs w hf hv)
    obtain ⟨fa, fc, rfl, _⟩ := hf.cell
    clear hf hv
    go_enter Tryf.func7, Tryf.ntmps7
    go_wp2_with fail
    refine HC.out.mono ?_
    rintro e w1 ⟨rfl, hb1⟩
    clear HC
    go_wp2
    go_ret
    exact ⟨rfl, hb1⟩
end Go.Proofs.YtboccjnlfehgoaaFmt

-- FRAME (gen_fn.py)
namespace Go.Proofs.YtboccjnlfehgoaaFmt.fnAnswers
open Go.ChangeShapes Go.WideShapes Go.ChangeAt Go.RowKit
open Go.Extern.Stop Go.Stop Go.Extern

set_option maxRecDepth 100000 in
theorem lifted (os : Os) (started : os.Started) (H : Type) (enc : TypeId × Value → H) :
    ReturnsInTold none {} Tryf.checked os 7 .any Input.okWide ((OpenSpec.ofChange Rows.fnAnswersSpec).preRow enc Tryf.prog Tryf.f7 [] false []) (fun F => ((OpenSpec.ofChange Rows.fnAnswersSpec).at F).post enc Tryf.prog Tryf.f7 false true false false) (aloneAtReturn Tryf.prog) nothingAlways := by
  refine returnsInTold_of_row (C := Tryf.checked) (s := OpenSpec.ofChange Rows.fnAnswersSpec) (by kernel_rfl) own started (by kernel_rfl) Tryf.func7
    (OpenSpec.witness_stopped (enc := enc) (C := Tryf.checked) false ⟨#[], #[.slice none 0 0], []⟩ 8 (by kernel_rfl) (by kernel_rfl) (by kernel_rfl) (by kernel_rfl)) ?_
  intro F W base args ds gs before _ hF hval0 hW _ _ hsz _ _
  have hval : ∀ (j : Nat) t v, Tryf.f7.params[j]? = some t → args[j]? = some v → Value.okWide Tryf.prog W .any base t v := hval0
  have hW' := hW
  obtain ⟨p, q, hA0, hV, rfl, hfz, hnd⟩ := hW
  have hA : DataW.TrodAll enc Tryf.prog W 0 (fun _ => true) true Tryf.f7.params.toList args.toList ds p := hA0
  rw [Tryf.params7] at hA hval
  obtain ⟨v0, vs0, d0, ds0, p0, q0, hargs, rfl, rfl, h0, r0⟩ := trodAll_cons hA
  obtain ⟨rfl, rfl, rfl⟩ := trodAll_nil r0
  obtain rfl : args = #[v0] := by cases args; simp_all
  obtain ⟨rfl, rfl⟩ := trodVars_none hV
  clear hA0
  obtain ⟨fs0, hf0, hn0, hr0⟩ := open_arg_files (hval 0 32 v0 rfl rfl) h0 (weights_arg hsz (j := 0) rfl rfl)
  refine (fnAnswers_walk v0 fs0 W hf0).mono fun e W' ⟨he, hb⟩ => ?_
  subst he
  exact ⟨_, rfl, law_post (tb := 4) laidOut (by rw [Tryf.params7]; intro t ht; simp at ht; first | (subst ht; exact rd_iFiles) | (rcases ht with rfl <;> first | exact rd_iFiles)) rfl rfl Tryf.underlying4 rfl hW' hb⟩

theorem proved : Rows.FnAnswersToldSaid :=
  Claim7.holds_of_told_any 7 Tryf.f7 "fmt.Sprintf" [] [] _ _ _ (by kernel_rfl) rfl rfl rfl laidOut (by kernel_rfl) rfl ⟨rfl, rfl, rfl, rfl, rfl, rfl, rfl⟩ rfl rfl (by kernel_rfl) (by kernel_rfl) Tryf.func7 (by kernel_rfl)
    (of_decide_eq_true (by kernel_rfl)) (by unfold Func.isWrapper; first | (rw [if_pos (by decide +kernel)]; kernel_rfl) | (rw [if_neg (by decide +kernel)]; exact ⟨rfl, rfl⟩)) stopNames.symm rfl stopKnobs.symm (by kernel_rfl)
    (by kernel_rfl) (by kernel_rfl) (by kernel_rfl) (by kernel_rfl) (by kernel_rfl) (by kernel_rfl) (by kernel_rfl) (by kernel_rfl) (by kernel_rfl) rfl (by kernel_rfl) rfl rfl
    rfl rfl
    rfl (by kernel_rfl) (by kernel_rfl) (by kernel_rfl) (by decide) (by kernel_rfl)
    (OpenClaim.moreEntering_of (by kernel_rfl) (by kernel_rfl) (by kernel_rfl) (by kernel_rfl) (by kernel_rfl) (by kernel_rfl) (by kernel_rfl) (by kernel_rfl) (by kernel_rfl) (by kernel_rfl))
    ⟨_, WideRow.started_initial, quiet _⟩
    (fun os started _ H enc _ => lifted os started H enc)

end Go.Proofs.YtboccjnlfehgoaaFmt.fnAnswers
