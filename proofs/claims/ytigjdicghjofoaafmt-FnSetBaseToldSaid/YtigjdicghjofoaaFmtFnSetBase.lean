/- FnSetBase: for every script of files the law returns true (fmt's texts told by the kit's own function); no condition. -/
import Derived.Test.YtigjdicghjofoaaFmtOpenF
import Derived.Test.YtigjdicghjofoaaFmtPlace
import Derived.Test.YtigjdicghjofoaaFmtCards
namespace Go.Proofs.YtigjdicghjofoaaFmt
open Go.RowKit

set_option maxRecDepth 100000 in
set_option maxHeartbeats 1000000 in
theorem fnSetBase_walk (fv : Value) (fs : List GFile) (w : World) (hf : Files w fv fs) : Calls Tryf.prog 4 #[fv] w fun e w' => e = .returned (.bool true) ∧ Below w.heap.size w w' := by
  by_cases hv : validL fs
  · have HC := Lib.hid (lawsMade_yes fv fs w hf hv)
    obtain ⟨n, hn⟩ : ∃ n, n = baseOf fs := ⟨_, rfl⟩
    have HA : Hid (∀ W, Below w.heap.size w W → Calls Tryf.prog 19 #[fv] W fun e w' => e = .returned (.int .i64 n) ∧ Below W.heap.size W w') := fun W hb => by
      have := implSetBase_any fv fs W (hf.below hb) hv
      rw [← hn] at this
      exact this
    have HN : Hid (∀ v W, Mades W v (madeL fs) → Calls Tryf.prog 20 #[v] W fun e w' => e = .returned (.int .i64 n) ∧ Below W.heap.size W w') := fun v W hM => by
      have := next_any v (madeL fs) W hM (valid_mem hv)
      rw [show nextOf (madeL fs) 1 = n by rw [hn]; rfl] at this
      exact this
    have hlen := hf.1
    obtain ⟨fa, fc, rfl, _⟩ := hf.cell
    clear hf hv hn
    go_enter Tryf.func4, Tryf.ntmps4
    go_wp2_with fail
    refine HC.out.mono ?_
    rintro e w1 ⟨mv, rfl, hM, hb1⟩
    have hml : (madeL fs).length = fs.length := madeL_length fs
    obtain ⟨ma, mc, hmv, _⟩ := hM.cell
    rw [hml] at hmv
    subst hmv
    have HM := Lib.hid (hM.mades (by rw [hml]; exact hlen))
    clear HC hM hml
    have s1 : ((n : Int) == n) = true := by simp
    go_wp2_with fail
    refine (HA.out w1 hb1).mono ?_
    rintro e w2 ⟨rfl, hb2⟩
    have hb3 : Below w.heap.size w w2 := hb1.trans (hb2.mono hb1.size)
    have HNN := Lib.hid (HN.out _ w2 (HM.out.below hb2))
    clear HA HN HM hb1 hb2
    go_wp2_with fail
    refine HNN.out.mono ?_
    rintro e w3 ⟨rfl, hb4⟩
    have hb5 : Below w.heap.size w w3 := hb3.trans (hb4.mono hb3.size)
    clear HNN hb3 hb4
    go_wp2
    go_ret
    exact ⟨rfl, hb5⟩
  · have HC := Lib.hid (lawsMade_no fv fs w hf hv)
    obtain ⟨fa, fc, rfl, _⟩ := hf.cell
    clear hf hv
    go_enter Tryf.func4, Tryf.ntmps4
    go_wp2_with fail
    refine HC.out.mono ?_
    rintro e w1 ⟨rfl, hb1⟩
    clear HC
    go_wp2
    go_ret
    exact ⟨rfl, hb1⟩
end Go.Proofs.YtigjdicghjofoaaFmt

-- FRAME (gen_fn.py)
namespace Go.Proofs.YtigjdicghjofoaaFmt.fnSetBase
open Go.ChangeShapes Go.WideShapes Go.ChangeAt Go.RowKit
open Go.Extern.Stop Go.Stop Go.Extern

set_option maxRecDepth 100000 in
theorem lifted (os : Os) (started : os.Started) (H : Type) (enc : TypeId × Value → H) :
    ReturnsInTold none {} Tryf.checked os 4 .any Input.okWide ((OpenSpec.ofChange Rows.fnSetBaseSpec).preRow enc Tryf.prog Tryf.f4 [] false []) (fun F => ((OpenSpec.ofChange Rows.fnSetBaseSpec).at F).post enc Tryf.prog Tryf.f4 false true false false) (aloneAtReturn Tryf.prog) nothingAlways := by
  refine returnsInTold_of_row (C := Tryf.checked) (s := OpenSpec.ofChange Rows.fnSetBaseSpec) (by kernel_rfl) own started (by kernel_rfl) Tryf.func4
    (OpenSpec.witness_stopped (enc := enc) (C := Tryf.checked) false ⟨#[], #[.slice none 0 0], []⟩ 8 (by kernel_rfl) (by kernel_rfl) (by kernel_rfl) (by kernel_rfl)) ?_
  intro F W base args ds gs before _ hF hval0 hW _ _ hsz _ _
  have hval : ∀ (j : Nat) t v, Tryf.f4.params[j]? = some t → args[j]? = some v → Value.okWide Tryf.prog W .any base t v := hval0
  have hW' := hW
  obtain ⟨p, q, hA0, hV, rfl, hfz, hnd⟩ := hW
  have hA : DataW.TrodAll enc Tryf.prog W 0 (fun _ => true) true Tryf.f4.params.toList args.toList ds p := hA0
  rw [Tryf.params4] at hA hval
  obtain ⟨v0, vs0, d0, ds0, p0, q0, hargs, rfl, rfl, h0, r0⟩ := trodAll_cons hA
  obtain ⟨rfl, rfl, rfl⟩ := trodAll_nil r0
  obtain rfl : args = #[v0] := by cases args; simp_all
  obtain ⟨rfl, rfl⟩ := trodVars_none hV
  clear hA0
  obtain ⟨fs0, hf0, hn0, hr0⟩ := open_arg_files (hval 0 22 v0 rfl rfl) h0 (weights_arg hsz (j := 0) rfl rfl)
  refine (fnSetBase_walk v0 fs0 W hf0).mono fun e W' ⟨he, hb⟩ => ?_
  subst he
  exact ⟨_, rfl, law_post (tb := 4) laidOut (by rw [Tryf.params4]; intro t ht; simp at ht; first | (subst ht; exact rd_iFiles) | (rcases ht with rfl <;> first | exact rd_iFiles)) rfl rfl Tryf.underlying4 rfl hW' hb⟩

theorem proved : Rows.FnSetBaseToldSaid :=
  Claim7.holds_of_told_any 4 Tryf.f4 "fmt.Sprintf" [] [] _ _ _ (by kernel_rfl) rfl rfl rfl laidOut (by kernel_rfl) rfl ⟨rfl, rfl, rfl, rfl, rfl, rfl, rfl⟩ rfl rfl (by kernel_rfl) (by kernel_rfl) Tryf.func4 (by kernel_rfl)
    (of_decide_eq_true (by kernel_rfl)) (by unfold Func.isWrapper; first | (rw [if_pos (by decide +kernel)]; kernel_rfl) | (rw [if_neg (by decide +kernel)]; exact ⟨rfl, rfl⟩)) stopNames.symm rfl stopKnobs.symm (by kernel_rfl)
    (by kernel_rfl) (by kernel_rfl) (by kernel_rfl) (by kernel_rfl) (by kernel_rfl) (by kernel_rfl) (by kernel_rfl) (by kernel_rfl) (by kernel_rfl) rfl (by kernel_rfl) rfl rfl
    rfl rfl
    rfl (by kernel_rfl) (by kernel_rfl) (by kernel_rfl) (by decide) (by kernel_rfl)
    (OpenClaim.moreEntering_of (by kernel_rfl) (by kernel_rfl) (by kernel_rfl) (by kernel_rfl) (by kernel_rfl) (by kernel_rfl) (by kernel_rfl) (by kernel_rfl) (by kernel_rfl) (by kernel_rfl))
    ⟨_, WideRow.started_initial, quiet _⟩
    (fun os started _ H enc _ => lifted os started H enc)

end Go.Proofs.YtigjdicghjofoaaFmt.fnSetBase
