/- FnFileAt: for every script of files and every position the law returns true (fmt's texts told by the kit's own function); no condition. -/
import Derived.Test.YtigjdicghjofoaaFmtOpenF
import Derived.Test.YtigjdicghjofoaaFmtFileAt
import Derived.Test.YtigjdicghjofoaaFmtCards
namespace Go.Proofs.YtigjdicghjofoaaFmt
open Go.RowKit

/-- The index is one alone. -/
theorem idx_one {fs : List GFile} (hv : validL fs) {p a b : Int} (ha : FileIdx (madeL fs) p a) (hb : FileIdx (madeL fs) p b) : a = b := by
  rcases ha with ⟨rfl, h1⟩ | ⟨i, m, rfl, h2, h3, h4⟩ <;> rcases hb with ⟨rfl, h5⟩ | ⟨j, n, rfl, h6, h7, h8⟩
  · rfl
  · have := h1 n (List.mem_of_getElem? h6); omega
  · have := h5 m (List.mem_of_getElem? h2); omega
  · rw [one_file2 hv h2 h6 h3 h4 h7 h8]

set_option maxRecDepth 100000 in
set_option maxHeartbeats 1000000 in
theorem fnFileAt_walk (fv : Value) (fs : List GFile) (p : Int) (w : World) (hf : Files w fv fs) : Calls Tryf.prog 5 #[fv, .int .i64 p] w fun e w' => e = .returned (.bool true) ∧ Below w.heap.size w w' := by
  by_cases hv : validL fs
  · have HC := Lib.hid (lawsMade_yes fv fs w hf hv)
    have HFA : Hid (∀ v W, Mades W v (madeL fs) → Calls Tryf.prog 23 #[v, .int .i64 p] W (LeavesIdx (madeL fs) p W)) := fun v W h => specFileAt_any v (madeL fs) p W h (valid_mem hv)
    have HIA : Hid (∀ W, Below w.heap.size w W → Calls Tryf.prog 22 #[fv, .int .i64 p] W (LeavesIdx (madeL fs) p W)) := fun W hb => implFileAt_any fv fs p W (hf.below hb) hv
    have ONE : Hid (∀ a b : Int, FileIdx (madeL fs) p a → FileIdx (madeL fs) p b → a = b) := fun a b h1 h2 => idx_one hv h1 h2
    have hlen := hf.1
    have hml : (madeL fs).length = fs.length := madeL_length fs
    obtain ⟨fa, fc, rfl, _⟩ := hf.cell
    clear hf hv
    go_enter Tryf.func5, Tryf.ntmps5
    go_wp2_with fail
    refine HC.out.mono ?_
    rintro e w1 ⟨mv, rfl, hM, hb1⟩
    obtain ⟨ma, mc, hmv, _⟩ := hM.cell
    rw [hml] at hmv
    subst hmv
    have HM := Lib.hid (hM.mades (by rw [hml]; exact hlen))
    clear HC hM hml
    by_cases hn : -2199023255552 ≤ p ∧ p ≤ 2199023255552
    · obtain ⟨n1, n2⟩ := hn
      go_wp2_with fail
      refine (near_yes p _ n1 n2).mono ?_
      rintro e w' ⟨rfl, rfl⟩
      go_wp2_with fail
      refine (HIA.out w1 hb1).mono ?_
      rintro e w2 ⟨r, rfl, res, hb2⟩
      have HR := Lib.hid res
      have HM2 := Lib.hid (HM.out.below hb2)
      have hb3 : Below w.heap.size w w2 := hb1.trans (hb2.mono hb1.size)
      clear res HM HIA hb1 hb2
      go_wp2_with fail
      refine (HFA.out _ w2 HM2.out).mono ?_
      rintro e w3 ⟨r', rfl, res', hb4⟩
      have hrr := ONE.out r r' HR.out res'
      subst hrr
      have hb5 : Below w.heap.size w w3 := hb3.trans (hb4.mono hb3.size)
      have s1 : ((r : Int) == r) = true := by simp
      clear res' HR HM2 HFA ONE hb3 hb4
      go_wp2
      go_ret
      exact ⟨rfl, hb5⟩
    · have hn' : p < -2199023255552 ∨ 2199023255552 < p := by omega
      have HN := Lib.hid (fun W => near_no p W hn')
      clear hn hn' HFA HIA ONE HM
      go_wp2_with fail
      refine (HN.out _).mono ?_
      rintro e w' ⟨rfl, rfl⟩
      go_wp2
      go_ret
      exact ⟨rfl, hb1⟩
  · have HC := Lib.hid (lawsMade_no fv fs w hf hv)
    obtain ⟨fa, fc, rfl, _⟩ := hf.cell
    clear hf hv
    go_enter Tryf.func5, Tryf.ntmps5
    go_wp2_with fail
    refine HC.out.mono ?_
    rintro e w1 ⟨rfl, hb1⟩
    clear HC
    go_wp2
    go_ret
    exact ⟨rfl, hb1⟩
end Go.Proofs.YtigjdicghjofoaaFmt

-- FRAME (gen_fn.py)
namespace Go.Proofs.YtigjdicghjofoaaFmt.fnFileAt
open Go.ChangeShapes Go.WideShapes Go.ChangeAt Go.RowKit
open Go.Extern.Stop Go.Stop Go.Extern

set_option maxRecDepth 100000 in
theorem lifted (os : Os) (started : os.Started) (H : Type) (enc : TypeId × Value → H) :
    ReturnsInTold none {} Tryf.checked os 5 .any Input.okWide ((OpenSpec.ofChange Rows.fnFileAtSpec).preRow enc Tryf.prog Tryf.f5 [] false []) (fun F => ((OpenSpec.ofChange Rows.fnFileAtSpec).at F).post enc Tryf.prog Tryf.f5 false true false false) (aloneAtReturn Tryf.prog) nothingAlways := by
  refine returnsInTold_of_row (C := Tryf.checked) (s := OpenSpec.ofChange Rows.fnFileAtSpec) (by kernel_rfl) own started (by kernel_rfl) Tryf.func5
    (OpenSpec.witness_stopped (enc := enc) (C := Tryf.checked) false ⟨#[], #[.slice none 0 0, .int .i64 0], []⟩ 8 (by kernel_rfl) (by kernel_rfl) (by kernel_rfl) (by kernel_rfl)) ?_
  intro F W base args ds gs before _ hF hval0 hW _ _ hsz _ _
  have hval : ∀ (j : Nat) t v, Tryf.f5.params[j]? = some t → args[j]? = some v → Value.okWide Tryf.prog W .any base t v := hval0
  have hW' := hW
  obtain ⟨p, q, hA0, hV, rfl, hfz, hnd⟩ := hW
  have hA : DataW.TrodAll enc Tryf.prog W 0 (fun _ => true) true Tryf.f5.params.toList args.toList ds p := hA0
  rw [Tryf.params5] at hA hval
  obtain ⟨v0, vs0, d0, ds0, p0, q0, hargs, rfl, rfl, h0, r0⟩ := trodAll_cons hA
  obtain ⟨v1, vs1, d1, ds1, p1, q1, rfl, rfl, rfl, h1, r1⟩ := trodAll_cons r0
  obtain ⟨rfl, rfl, rfl⟩ := trodAll_nil r1
  obtain rfl : args = #[v0, v1] := by cases args; simp_all
  obtain ⟨rfl, rfl⟩ := trodVars_none hV
  clear hA0
  obtain ⟨fs0, hf0, hn0, hr0⟩ := open_arg_files (hval 0 22 v0 rfl rfl) h0 (weights_arg hsz (j := 0) rfl rfl)
  obtain ⟨x1, rfl, rfl, rfl, wx1⟩ := open_int Tryf.underlying3 (hval 1 3 v1 rfl rfl) h1
  refine (fnFileAt_walk v0 fs0 x1 W hf0).mono fun e W' ⟨he, hb⟩ => ?_
  subst he
  exact ⟨_, rfl, law_post (tb := 4) laidOut (by rw [Tryf.params5]; intro t ht; simp at ht; first | (subst ht; exact rd_iFiles) | (rcases ht with rfl | rfl <;> first | exact rd_iFiles | exact rd_int)) rfl rfl Tryf.underlying4 rfl hW' hb⟩

theorem proved : Rows.FnFileAtToldSaid :=
  Claim7.holds_of_told_any 5 Tryf.f5 "fmt.Sprintf" [] [] _ _ _ (by kernel_rfl) rfl rfl rfl laidOut (by kernel_rfl) rfl ⟨rfl, rfl, rfl, rfl, rfl, rfl, rfl⟩ rfl rfl (by kernel_rfl) (by kernel_rfl) Tryf.func5 (by kernel_rfl)
    (of_decide_eq_true (by kernel_rfl)) (by unfold Func.isWrapper; first | (rw [if_pos (by decide +kernel)]; kernel_rfl) | (rw [if_neg (by decide +kernel)]; exact ⟨rfl, rfl⟩)) stopNames.symm rfl stopKnobs.symm (by kernel_rfl)
    (by kernel_rfl) (by kernel_rfl) (by kernel_rfl) (by kernel_rfl) (by kernel_rfl) (by kernel_rfl) (by kernel_rfl) (by kernel_rfl) (by kernel_rfl) rfl (by kernel_rfl) rfl rfl
    rfl rfl
    rfl (by kernel_rfl) (by kernel_rfl) (by kernel_rfl) (by decide) (by kernel_rfl)
    (OpenClaim.moreEntering_of (by kernel_rfl) (by kernel_rfl) (by kernel_rfl) (by kernel_rfl) (by kernel_rfl) (by kernel_rfl) (by kernel_rfl) (by kernel_rfl) (by kernel_rfl) (by kernel_rfl))
    ⟨_, WideRow.started_initial, quiet _⟩
    (fun os started _ H enc _ => lifted os started H enc)

end Go.Proofs.YtigjdicghjofoaaFmt.fnFileAt
