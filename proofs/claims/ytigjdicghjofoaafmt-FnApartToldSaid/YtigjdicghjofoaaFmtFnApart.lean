/- FnApart: for every script of files the law returns true (fmt's texts told by the kit's own function); no condition. -/
import Derived.Test.YtigjdicghjofoaaFmtOpenF
import Derived.Test.YtigjdicghjofoaaFmtFileAt
import Derived.Test.YtigjdicghjofoaaFmtCards
namespace Go.Proofs.YtigjdicghjofoaaFmt
open Go.RowKit

set_option maxRecDepth 100000 in
set_option maxHeartbeats 1000000 in
theorem fnApart_walk (fv : Value) (fs : List GFile) (w : World) (hf : Files w fv fs) : Calls Tryf.prog 6 #[fv] w fun e w' => e = .returned (.bool true) ∧ Below w.heap.size w w' := by
  by_cases hv : validL fs
  · have HC := Lib.hid (lawsMade_yes fv fs w hf hv)
    have HIN : Hid (∀ W q (i : Nat) (m : MFile), Below w.heap.size w W → (madeL fs)[i]? = some m → m.base ≤ q → q ≤ m.base + m.size → Calls Tryf.prog 22 #[fv, .int .i64 q] W fun e w' => e = .returned (.int .i64 i) ∧ Below W.heap.size W w') := fun W q i m hb hm h1 h2 => by
      refine (implFileAt_any fv fs q W (hf.below hb) hv).mono ?_
      rintro e w' ⟨r, rfl, res, hb'⟩
      refine ⟨?_, hb'⟩
      rcases res with ⟨rfl, h⟩ | ⟨k, n, rfl, h3, h4, h5⟩
      · have := h m (List.mem_of_getElem? hm); omega
      · rw [one_file2 hv h3 hm h4 h5 h1 h2]
    have HOUT : Hid (∀ W q, Below w.heap.size w W → (∀ m ∈ madeL fs, q < m.base ∨ m.base + m.size < q) → Calls Tryf.prog 22 #[fv, .int .i64 q] W fun e w' => e = .returned (.int .i64 (-1)) ∧ Below W.heap.size W w') := fun W q hb h => by
      refine (implFileAt_any fv fs q W (hf.below hb) hv).mono ?_
      rintro e w' ⟨r, rfl, res, hb'⟩
      refine ⟨?_, hb'⟩
      rcases res with ⟨rfl, _⟩ | ⟨k, n, rfl, h3, h4, h5⟩
      · rfl
      · have := h n (List.mem_of_getElem? h3); omega
    have HSB : Hid (∀ W, Below w.heap.size w W → Calls Tryf.prog 19 #[fv] W fun e w' => e = .returned (.int .i64 (baseOf fs)) ∧ Below W.heap.size W w') := fun W hb => implSetBase_any fv fs W (hf.below hb) hv
    have HVB := Lib.hid (valid_bounds hv).2
    have hlen := hf.1
    have hml : (madeL fs).length = fs.length := madeL_length fs
    obtain ⟨fa, fc, rfl, _⟩ := hf.cell
    clear hf hv
    go_enter Tryf.func6, Tryf.ntmps6
    go_wp2_with fail
    refine HC.out.mono ?_
    rintro e w1 ⟨mv, rfl, hM, hb1⟩
    obtain ⟨ma, mc, hmv, _⟩ := hM.cell
    rw [hml] at hmv
    subst hmv
    have HM := Lib.hid (hM.mades (by rw [hml]; exact hlen))
    have HML := Lib.hid hml
    clear HC hM hml
    go_wp2_with fail
    go_loopg [16] fs.length (fun k v wr => ∃ i : Nat, v = .int .i64 i ∧ i ≤ fs.length ∧ k = fs.length - i ∧ Below w1.heap.size w1 wr)
    case atStart => exact ⟨0, rfl, by omega, by omega, Below.refl _ _⟩
    case round =>
      rename World => wr
      obtain ⟨i, rfl, hi, rfl, hbr⟩ := hrel
      have hbw : Below w.heap.size w wr := hb1.trans (hbr.mono hb1.size)
      by_cases hlt : i < fs.length
      · obtain ⟨m, hm⟩ : ∃ m, (madeL fs)[i]? = some m := ⟨_, List.getElem?_eq_getElem (by rw [HML.out]; exact hlt)⟩
        obtain ⟨b1, b2, b3, b4, _⟩ := HVB.out m (List.mem_of_getElem? hm)
        obtain ⟨_, _, hcv, hcell⟩ := (HM.out.below hbr).cell
        rw [HML.out] at hcv
        simp only [Value.slice.injEq] at hcv
        obtain ⟨rfl, -, rfl⟩ := hcv
        obtain ⟨g, o, lv, yv, rfl, c0, c1, c2, c3, c4, hI, hR, hl, hyl⟩ := hcell i m hm
        obtain ⟨la, lc, rfl⟩ : ∃ la lc, lv = .slice la m.lines.length lc := by obtain ⟨a, c, h, _⟩ := hI; exact ⟨a, c, by simpa using h⟩
        obtain ⟨ya, yc, rfl⟩ : ∃ la lc, yv = .slice la m.yes.length lc := by obtain ⟨a, c, h, _⟩ := hR; exact ⟨a, c, by simpa using h⟩
        have hbx : Below w1.heap.size w1 (wr.alloc (.cells #[.string m.name, .int .i64 m.base, .int .i64 m.size, .slice la m.lines.length lc, .slice ya m.yes.length yc] 26)) := hbr.alloc hbr.size _
        have hbX : Below w.heap.size w (wr.alloc (.cells #[.string m.name, .int .i64 m.base, .int .i64 m.size, .slice la m.lines.length lc, .slice ya m.yes.length yc] 26)) := hb1.trans (hbx.mono hb1.size)
        have hN := heap_new wr (.cells #[.string m.name, .int .i64 m.base, .int .i64 m.size, .slice la m.lines.length lc, .slice ya m.yes.length yc] 26)
        have I1 := Lib.hid (fun W hb => HIN.out W m.base i m hb hm (by omega) (by omega))
        have I2 := Lib.hid (fun W hb => HIN.out W (m.base + m.size) i m hb hm (by omega) (by omega))
        have s1 : ((i : Int) != (i : Int)) = false := by simp
        have q1 : (i : Int) < (fs.length : Int) := by omega
        clear hcell hI hR hm
        go_wp2_with fail
        refine (I1.out _ hbX).mono ?_
        rintro e w3 ⟨rfl, hb3⟩
        have hN3 := (hb3.block wr.heap.size (by simp)).trans hN
        have f1 := cell_of hN3 1
        have f2 := cell_of hN3 2
        simp only [List.getElem?_toArray, List.getElem?_cons_zero, List.getElem?_cons_succ] at f1 f2
        have hc3 : Below w.heap.size w w3 := hbX.trans (hb3.mono hbX.size)
        have hd3 : Below w1.heap.size w1 w3 := hbx.trans (hb3.mono hbx.size)
        clear hN hN3 I1 hb3 hbX hbx c0 c1 c2 c3 c4
        go_wp2_with fail
        refine (I2.out _ hc3).mono ?_
        rintro e w5 ⟨rfl, hb5⟩
        have hd5 : Below w1.heap.size w1 w5 := hd3.trans (hb5.mono hd3.size)
        clear I2 hb5 hd3 hc3 f1 f2
        go_wp2
        go_roundg (fs.length - (i + 1))
        case measure => omega
        case rel => exact ⟨i + 1, by go_num, by omega, rfl, hd5⟩
      · have hi2 : i = fs.length := by omega
        subst hi2
        have hns : ¬ ((fs.length : Int) < (fs.length : Int)) := by omega
        have O1 := Lib.hid (fun W hb => HOUT.out W 0 hb (fun m hm => by have := HVB.out m hm; omega))
        have O2 := Lib.hid (fun W hb => HOUT.out W (baseOf fs) hb (fun m hm => by have := HVB.out m hm; omega))
        obtain ⟨n, hn⟩ : ∃ n, n = baseOf fs := ⟨_, rfl⟩
        rw [← hn] at O2 HSB
        clear hlt hn HOUT HIN HM hbr
        go_wp2_with fail
        refine (O1.out _ hbw).mono ?_
        rintro e w3 ⟨rfl, hb3⟩
        have hc3 : Below w.heap.size w w3 := hbw.trans (hb3.mono hbw.size)
        clear O1 hb3 hbw
        go_wp2_with fail
        refine (HSB.out _ hc3).mono ?_
        rintro e w4 ⟨rfl, hb4⟩
        have hc4 : Below w.heap.size w w4 := hc3.trans (hb4.mono hc3.size)
        clear HSB hb4 hc3
        go_wp2_with fail
        refine (O2.out _ hc4).mono ?_
        rintro e w5 ⟨rfl, hb5⟩
        have hc5 : Below w.heap.size w w5 := hc4.trans (hb5.mono hc4.size)
        clear O2 hb5 hc4
        go_wp2
        go_ret
        exact ⟨rfl, hc5⟩
  · have HC := Lib.hid (lawsMade_no fv fs w hf hv)
    obtain ⟨fa, fc, rfl, _⟩ := hf.cell
    clear hf hv
    go_enter Tryf.func6, Tryf.ntmps6
    go_wp2_with fail
    refine HC.out.mono ?_
    rintro e w1 ⟨rfl, hb1⟩
    clear HC
    go_wp2
    go_ret
    exact ⟨rfl, hb1⟩
end Go.Proofs.YtigjdicghjofoaaFmt

-- FRAME (gen_fn.py)
namespace Go.Proofs.YtigjdicghjofoaaFmt.fnApart
open Go.ChangeShapes Go.WideShapes Go.ChangeAt Go.RowKit
open Go.Extern.Stop Go.Stop Go.Extern

set_option maxRecDepth 100000 in
theorem lifted (os : Os) (started : os.Started) (H : Type) (enc : TypeId × Value → H) :
    ReturnsInTold none {} Tryf.checked os 6 .any Input.okWide ((OpenSpec.ofChange Rows.fnApartSpec).preRow enc Tryf.prog Tryf.f6 [] false []) (fun F => ((OpenSpec.ofChange Rows.fnApartSpec).at F).post enc Tryf.prog Tryf.f6 false true false false) (aloneAtReturn Tryf.prog) nothingAlways := by
  refine returnsInTold_of_row (C := Tryf.checked) (s := OpenSpec.ofChange Rows.fnApartSpec) (by kernel_rfl) own started (by kernel_rfl) Tryf.func6
    (OpenSpec.witness_stopped (enc := enc) (C := Tryf.checked) false ⟨#[], #[.slice none 0 0], []⟩ 8 (by kernel_rfl) (by kernel_rfl) (by kernel_rfl) (by kernel_rfl)) ?_
  intro F W base args ds gs before _ hF hval0 hW _ _ hsz _ _
  have hval : ∀ (j : Nat) t v, Tryf.f6.params[j]? = some t → args[j]? = some v → Value.okWide Tryf.prog W .any base t v := hval0
  have hW' := hW
  obtain ⟨p, q, hA0, hV, rfl, hfz, hnd⟩ := hW
  have hA : DataW.TrodAll enc Tryf.prog W 0 (fun _ => true) true Tryf.f6.params.toList args.toList ds p := hA0
  rw [Tryf.params6] at hA hval
  obtain ⟨v0, vs0, d0, ds0, p0, q0, hargs, rfl, rfl, h0, r0⟩ := trodAll_cons hA
  obtain ⟨rfl, rfl, rfl⟩ := trodAll_nil r0
  obtain rfl : args = #[v0] := by cases args; simp_all
  obtain ⟨rfl, rfl⟩ := trodVars_none hV
  clear hA0
  obtain ⟨fs0, hf0, hn0, hr0⟩ := open_arg_files (hval 0 22 v0 rfl rfl) h0 (weights_arg hsz (j := 0) rfl rfl)
  refine (fnApart_walk v0 fs0 W hf0).mono fun e W' ⟨he, hb⟩ => ?_
  subst he
  exact ⟨_, rfl, law_post (tb := 4) laidOut (by rw [Tryf.params6]; intro t ht; simp at ht; first | (subst ht; exact rd_iFiles) | (rcases ht with rfl <;> first | exact rd_iFiles)) rfl rfl Tryf.underlying4 rfl hW' hb⟩

theorem proved : Rows.FnApartToldSaid :=
  Claim7.holds_of_told_any 6 Tryf.f6 "fmt.Sprintf" [] [] _ _ _ (by kernel_rfl) rfl rfl rfl laidOut (by kernel_rfl) rfl ⟨rfl, rfl, rfl, rfl, rfl, rfl, rfl⟩ rfl rfl (by kernel_rfl) (by kernel_rfl) Tryf.func6 (by kernel_rfl)
    (of_decide_eq_true (by kernel_rfl)) (by unfold Func.isWrapper; first | (rw [if_pos (by decide +kernel)]; kernel_rfl) | (rw [if_neg (by decide +kernel)]; exact ⟨rfl, rfl⟩)) stopNames.symm rfl stopKnobs.symm (by kernel_rfl)
    (by kernel_rfl) (by kernel_rfl) (by kernel_rfl) (by kernel_rfl) (by kernel_rfl) (by kernel_rfl) (by kernel_rfl) (by kernel_rfl) (by kernel_rfl) rfl (by kernel_rfl) rfl rfl
    rfl rfl
    rfl (by kernel_rfl) (by kernel_rfl) (by kernel_rfl) (by decide) (by kernel_rfl)
    (OpenClaim.moreEntering_of (by kernel_rfl) (by kernel_rfl) (by kernel_rfl) (by kernel_rfl) (by kernel_rfl) (by kernel_rfl) (by kernel_rfl) (by kernel_rfl) (by kernel_rfl) (by kernel_rfl))
    ⟨_, WideRow.started_initial, quiet _⟩
    (fun os started _ H enc _ => lifted os started H enc)

end Go.Proofs.YtigjdicghjofoaaFmt.fnApart
