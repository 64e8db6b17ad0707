/- FnLineStart: for every script of files, every index and every line the law returns true (fmt's texts told by the kit's own function); no condition. -/
import Derived.Test.YtboccjnlfehgoaaFmtOpenF
import Derived.Test.YtboccjnlfehgoaaFmtPlace
import Derived.Test.YtboccjnlfehgoaaFmtStart
import Derived.Test.YtboccjnlfehgoaaFmtCards
import Derived.Deep.QuietTactic
import Derived.BigQuiet
namespace Go.Proofs.YtboccjnlfehgoaaFmt
open Go.RowKit

theorem start_good (fv : Value) (fs : List GFile) (k : Int) (m : MFile) (line : Int) (w : World) (hf : Files w fv fs) (hk : HasK fs k m) (hs : 0 < m.size) :
    Calls Tryf.prog 35 #[fv, .int .i64 k, .int .i64 line] w fun e w' => e = .returned (.tuple #[.int .i64 (if 1 ≤ line ∧ line ≤ m.lines.length then m.base + m.lines.getD (line - 1).toNat 0 else 0), .bool (decide (1 ≤ line ∧ line ≤ m.lines.length))]) ∧ Below w.heap.size w w' := by
  have hg := good_of hk.1 hk.2.2 hs
  have hb := hasK_bd hk
  have := implLineStart_any fv fs k.toNat m line w hf hk.1 hk.2.2 (fun y hy => by have := hg.lt y hy; omega)
  rw [Int.toNat_of_nonneg hk.2.1] at this
  exact this

set_option maxRecDepth 100000 in
set_option maxHeartbeats 1000000 in
theorem fnLineStart_walk (fv : Value) (fs : List GFile) (k line : Int) (w : World) (hf : Files w fv fs) : Calls Tryf.prog 11 #[fv, .int .i64 k, .int .i64 line] w fun e w' => e = .returned (.bool true) ∧ Below w.heap.size w w' := by
  rcases lines_or fs k with ⟨m, hk, hs⟩ | hk
  · obtain ⟨v1, v2, v3, v4⟩ := hasK_bd hk
    have hg := Lib.hid (good_of hk.1 hk.2.2 hs)
    have HC := Lib.hid (lined_yes fv fs k m w hf hk hs)
    have HS : Hid (∀ W, Below w.heap.size w W → Calls Tryf.prog 35 #[fv, .int .i64 k, .int .i64 line] W fun e w' => e = .returned (.tuple #[.int .i64 (if 1 ≤ line ∧ line ≤ m.lines.length then m.base + m.lines.getD (line - 1).toNat 0 else 0), .bool (decide (1 ≤ line ∧ line ≤ m.lines.length))]) ∧ Below W.heap.size W w') := fun W hb => start_good fv fs k m line W (hf.below hb) hk hs
    obtain ⟨fa, fc, rfl, _⟩ := hf.cell
    clear hf hk
    go_enter Tryf.func11, Tryf.ntmps11
    go_wp2_with fail
    refine HC.out.mono ?_
    rintro e w1 ⟨la, lc, ya, yc, rfl, oL, _, hl, hb1⟩
    clear HC
    go_wp2_with fail
    have hNN := heap_new w1 (.cells #[.string m.name, .int .i64 m.base, .int .i64 m.size, .slice la m.lines.length lc, .slice ya m.yes.length yc] 35)
    have hb2 : Below w.heap.size w (w1.alloc (.cells #[.string m.name, .int .i64 m.base, .int .i64 m.size, .slice la m.lines.length lc, .slice ya m.yes.length yc] 35)) := hb1.alloc hb1.size _
    have hIn : Ints (w1.alloc (.cells #[.string m.name, .int .i64 m.base, .int .i64 m.size, .slice la m.lines.length lc, .slice ya m.yes.length yc] 35)) (.slice la m.lines.length lc) m.lines := Reads.below (owns_reads oL) ((Below.refl _ _).alloc (Nat.le_refl _) _)
    generalize (w1.alloc (.cells #[.string m.name, .int .i64 m.base, .int .i64 m.size, .slice la m.lines.length lc, .slice ya m.yes.length yc] 35)) = w2 at *
    generalize hx : w1.heap.size = x at *
    clear hx hb1 oL
    refine (HS.out w2 hb2).mono ?_
    rintro e w3 ⟨rfl, hb3⟩
    have hN3 := (hb3.block x (lt_of_heap hNN)).trans hNN
    have hI3 := Reads.below hIn hb3
    have hb4 : Below w.heap.size w w3 := hb2.trans (hb3.mono hb2.size)
    have f1 := cell_of hN3 1
    have f3 := cell_of hN3 3
    simp only [List.getElem?_toArray, List.getElem?_cons_zero, List.getElem?_cons_succ] at f1 f3
    clear HS hNN hIn hN3 hb2 hb3
    by_cases hok : 1 ≤ line ∧ line ≤ m.lines.length
    · rw [if_pos hok, decide_eq_true hok]
      obtain ⟨j, rfl⟩ : ∃ j : Nat, line = (j : Int) + 1 := ⟨(line - 1).toNat, by omega⟩
      have hj : j < m.lines.length := by omega
      rw [show ((j : Int) + 1 - 1).toNat = j by omega]
      obtain ⟨a, cap, hav, hcell⟩ := Ints.cell hI3
      simp only [Value.slice.injEq] at hav
      obtain ⟨rfl, -, rfl⟩ := hav
      obtain ⟨g, o, rfl, hcl⟩ := hcell.resolve_left (fun e => by rw [e] at hj; simp at hj)
      have hcj := hcl j hj
      have b1 := hg.out.nneg hj
      have b2 := hg.out.ltk hj
      generalize m.lines.getD j 0 = y at *
      have q1 : ¬ ((j : Int) + 1 < 1) := by omega
      have q2 : ¬ ((m.lines.length : Int) < (j : Int) + 1) := by omega
      have q3 : (j : Int) < (m.lines.length : Int) := by omega
      have q4 : (0 : Int) ≤ (j : Int) := by omega
      clear hI3 hcell hcl hok hg
      have e1 : IntKind.i64.wrap (m.base + y) = m.base + y := IntWalk.i64_in _ (by omega)
      have e2 : IntKind.i64.wrap ((j : Int) + 1 - 1) = (j : Int) := by rw [IntWalk.i64_in _ (by omega)]; omega
      have e3 : ((j : Int) + 1 - 1) = (j : Int) := by omega
      go_wp2_with fail
      go_quiet (fail)
      go_wp2
      go_ret
      exact ⟨rfl, below_drewN hb4 _⟩
    · rw [if_neg hok, decide_eq_false hok]
      by_cases h1 : line < 1
      · clear hok hI3 hg
        go_wp2
        go_ret
        exact ⟨rfl, hb4⟩
      · have h2 : (m.lines.length : Int) < line := by omega
        have h3 : 1 ≤ line := by omega
        clear hok hI3 hg h1
        go_wp2
        go_ret
        exact ⟨rfl, hb4⟩
  · have HC := Lib.hid (lined_no fv fs k w hf hk)
    obtain ⟨fa, fc, rfl, _⟩ := hf.cell
    clear hf hk
    go_enter Tryf.func11, Tryf.ntmps11
    go_wp2_with fail
    refine HC.out.mono ?_
    rintro e w1 ⟨nm, b, s, la, ln, lc, ya, yn, yc, rfl, hb1⟩
    clear HC
    have hb2 : Below w.heap.size w (w1.alloc (.cells #[.string nm, .int .i64 b, .int .i64 s, .slice la ln lc, .slice ya yn yc] 35)) := hb1.alloc hb1.size _
    go_wp2
    go_ret
    exact ⟨rfl, hb2⟩
end Go.Proofs.YtboccjnlfehgoaaFmt

-- FRAME (gen_fn.py)
namespace Go.Proofs.YtboccjnlfehgoaaFmt.fnLineStart
open Go.ChangeShapes Go.WideShapes Go.ChangeAt Go.RowKit
open Go.Extern.Stop Go.Stop Go.Extern

set_option maxRecDepth 100000 in
theorem lifted (os : Os) (started : os.Started) (H : Type) (enc : TypeId × Value → H) :
    ReturnsInTold none {} Tryf.checked os 11 .any Input.okWide ((OpenSpec.ofChange Rows.fnLineStartSpec).preRow enc Tryf.prog Tryf.f11 [] false []) (fun F => ((OpenSpec.ofChange Rows.fnLineStartSpec).at F).post enc Tryf.prog Tryf.f11 false true false false) (aloneAtReturn Tryf.prog) nothingAlways := by
  refine returnsInTold_of_row (C := Tryf.checked) (s := OpenSpec.ofChange Rows.fnLineStartSpec) (by kernel_rfl) own started (by kernel_rfl) Tryf.func11
    (OpenSpec.witness_stopped (enc := enc) (C := Tryf.checked) false ⟨#[], #[.slice none 0 0, .int .i64 0, .int .i64 0], []⟩ 8 (by kernel_rfl) (by kernel_rfl) (by kernel_rfl) (by kernel_rfl)) ?_
  intro F W base args ds gs before _ hF hval0 hW _ _ hsz _ _
  have hval : ∀ (j : Nat) t v, Tryf.f11.params[j]? = some t → args[j]? = some v → Value.okWide Tryf.prog W .any base t v := hval0
  have hW' := hW
  obtain ⟨p, q, hA0, hV, rfl, hfz, hnd⟩ := hW
  have hA : DataW.TrodAll enc Tryf.prog W 0 (fun _ => true) true Tryf.f11.params.toList args.toList ds p := hA0
  rw [Tryf.params11] at hA hval
  obtain ⟨v0, vs0, d0, ds0, p0, q0, hargs, rfl, rfl, h0, r0⟩ := trodAll_cons hA
  obtain ⟨v1, vs1, d1, ds1, p1, q1, rfl, rfl, rfl, h1, r1⟩ := trodAll_cons r0
  obtain ⟨v2, vs2, d2, ds2, p2, q2, rfl, rfl, rfl, h2, r2⟩ := trodAll_cons r1
  obtain ⟨rfl, rfl, rfl⟩ := trodAll_nil r2
  obtain rfl : args = #[v0, v1, v2] := by cases args; simp_all
  obtain ⟨rfl, rfl⟩ := trodVars_none hV
  clear hA0
  obtain ⟨fs0, hf0, hn0, hr0⟩ := open_arg_files (hval 0 32 v0 rfl rfl) h0 (weights_arg hsz (j := 0) rfl rfl)
  obtain ⟨x1, rfl, rfl, rfl, wx1⟩ := open_int Tryf.underlying3 (hval 1 3 v1 rfl rfl) h1
  obtain ⟨x2, rfl, rfl, rfl, wx2⟩ := open_int Tryf.underlying3 (hval 2 3 v2 rfl rfl) h2
  refine (fnLineStart_walk v0 fs0 x1 x2 W hf0).mono fun e W' ⟨he, hb⟩ => ?_
  subst he
  exact ⟨_, rfl, law_post (tb := 4) laidOut (by rw [Tryf.params11]; intro t ht; simp at ht; first | (subst ht; exact rd_iFiles) | (rcases ht with rfl | rfl | rfl <;> first | exact rd_iFiles | exact rd_int)) rfl rfl Tryf.underlying4 rfl hW' hb⟩

theorem proved : Rows.FnLineStartToldSaid :=
  Claim7.holds_of_told_any 11 Tryf.f11 "fmt.Sprintf" [] [] _ _ _ (by kernel_rfl) rfl rfl rfl laidOut (by kernel_rfl) rfl ⟨rfl, rfl, rfl, rfl, rfl, rfl, rfl⟩ rfl rfl (by kernel_rfl) (by kernel_rfl) Tryf.func11 (by kernel_rfl)
    (of_decide_eq_true (by kernel_rfl)) (by unfold Func.isWrapper; first | (rw [if_pos (by decide +kernel)]; kernel_rfl) | (rw [if_neg (by decide +kernel)]; exact ⟨rfl, rfl⟩)) stopNames.symm rfl stopKnobs.symm (by kernel_rfl)
    (by kernel_rfl) (by kernel_rfl) (by kernel_rfl) (by kernel_rfl) (by kernel_rfl) (by kernel_rfl) (by kernel_rfl) (by kernel_rfl) (by kernel_rfl) rfl (by kernel_rfl) rfl rfl
    rfl rfl
    rfl (by kernel_rfl) (by kernel_rfl) (by kernel_rfl) (by decide) (by kernel_rfl)
    (OpenClaim.moreEntering_of (by kernel_rfl) (by kernel_rfl) (by kernel_rfl) (by kernel_rfl) (by kernel_rfl) (by kernel_rfl) (by kernel_rfl) (by kernel_rfl) (by kernel_rfl) (by kernel_rfl))
    ⟨_, WideRow.started_initial, quiet _⟩
    (fun os started _ H enc _ => lifted os started H enc)

end Go.Proofs.YtboccjnlfehgoaaFmt.fnLineStart
