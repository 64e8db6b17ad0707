/- FnFiles: for every script of files the law returns true (fmt's texts told by the kit's own function); no condition. -/
import Derived.Test.YtboccjnlfehgoaaFmtOpenF
import Derived.Test.YtboccjnlfehgoaaFmtHeads
import Derived.Test.YtboccjnlfehgoaaFmtBools
import Derived.Test.YtboccjnlfehgoaaFmtFiles
import Derived.Test.YtboccjnlfehgoaaFmtCards
namespace Go.Proofs.YtboccjnlfehgoaaFmt
open Go.RowKit

theorem OwnTolds.below {w w' : World} {B : Nat} {v : Value} {ms : List MFile} (h : OwnTolds w B v ms) (hb : Below w.heap.size w w') : OwnTolds w' B v ms := by
  have hc : Chg (fun _ => False) w w' := Chg.of_below hb
  obtain ⟨rs, h1, h2, h3⟩ := h
  refine ⟨rs, ⟨h1.1, owns_chg h1.2 hc (fun _ _ => id)⟩, h2, fun k m hk => ?_⟩
  obtain ⟨r, hr, he⟩ := h3 k m hk
  exact ⟨r, hr, he.off hc (fun _ _ _ _ h => h.elim)⟩
theorem OwnTolds.cell {w : World} {B : Nat} {v : Value} {ms : List MFile} (h : OwnTolds w B v ms) : ∃ a c, v = .slice a ms.length c ∧
    ∀ (k : Nat) (m : MFile), ms[k]? = some m → ∃ g o la lc ya yc, a = some ⟨g, o, none⟩ ∧ w.cell? ⟨g, o + k * 6, none⟩ = some (.string m.name) ∧ w.cell? ⟨g, o + k * 6 + 1, none⟩ = some (.int .i64 m.base) ∧ w.cell? ⟨g, o + k * 6 + 2, none⟩ = some (.int .i64 m.size) ∧ w.cell? ⟨g, o + k * 6 + 3, none⟩ = some (.int .i64 m.lines.length) ∧
      w.cell? ⟨g, o + k * 6 + 4, none⟩ = some (.slice la m.lines.length lc) ∧ w.cell? ⟨g, o + k * 6 + 5, none⟩ = some (.slice ya m.yes.length yc) ∧ Ints w (.slice la m.lines.length lc) m.lines ∧ Reads w (.slice ya m.yes.length yc) (m.yes.map Value.bool) ∧ m.lines.length ≤ 17592186044416 := by
  obtain ⟨rs, hr, hn, h⟩ := h
  obtain ⟨a, c, rfl, hc⟩ := hr.rows.cell
  refine ⟨a, c, by rw [hn], fun k e hk => ?_⟩
  obtain ⟨r, hrk, lv, yv, rfl, h1, h2, h3⟩ := h k e hk
  obtain ⟨la, lc, rfl⟩ := owns_form h1
  obtain ⟨ya, yc, rfl⟩ := owns_form h2
  rcases hc with rfl | ⟨g, o, rfl, hc⟩
  · simp at hrk
  · have := hc k _ hrk
    exact ⟨g, o, la, lc, ya, yc, rfl, this 0 _ rfl, this 1 _ rfl, this 2 _ rfl, this 3 _ rfl, this 4 _ rfl, this 5 _ rfl, owns_reads h1, owns_reads h2, h3⟩

set_option maxRecDepth 100000 in
set_option maxHeartbeats 2000000 in
theorem fnFiles_walk (fv : Value) (fs : List GFile) (w : World) (hf : Files w fv fs) : Calls Tryf.prog 8 #[fv] w fun e w' => e = .returned (.bool true) ∧ Below w.heap.size w w' := by
  by_cases hv : validL fs
  · have HC := Lib.hid (lawsMade_yes fv fs w hf hv)
    have HA : Hid (∀ W, Below w.heap.size w W → Calls Tryf.prog 28 #[fv] W (LeavesTold fs W)) := fun W hb => implFiles_any fv fs W (hf.below hb) hv
    have hlen := hf.1
    obtain ⟨fa, fc, rfl, _⟩ := hf.cell
    clear hf hv
    go_enter Tryf.func8, Tryf.ntmps8
    go_wp2_with fail
    refine HC.out.mono ?_
    rintro e w1 ⟨mv, rfl, hM, hb1⟩
    have hml : (madeL fs).length = fs.length := madeL_length fs
    obtain ⟨ma, mc, hmv, _⟩ := hM.cell
    rw [hml] at hmv
    subst hmv
    have HM := Lib.hid (hM.mades (by rw [hml]; exact hlen))
    clear HC hM
    go_wp2_with fail
    refine (HA.out w1 hb1).mono ?_
    rintro e w2 ⟨tv, rfl, hT, hb2⟩
    obtain ⟨ta, tc, htv, _⟩ := hT.cell
    rw [hml] at htv
    subst htv
    have hb3 : Below w.heap.size w w2 := hb1.trans (hb2.mono hb1.size)
    have HT : Hid (∀ W, Below w2.heap.size w2 W → OwnTolds W w1.heap.size (.slice ta fs.length tc) (madeL fs) ∧ Mades W (.slice ma fs.length mc) (madeL fs)) := fun W hb => ⟨hT.below hb, (HM.out.below hb2).below hb⟩
    have HML := Lib.hid hml
    have hbne : ((fs.length : Int) != (fs.length : Int)) = false := by simp
    clear hT HM HA hb1 hb2 hml
    go_wp2_with fail
    go_loopg [25] fs.length (fun k v wr => ∃ i : Nat, v = .int .i64 i ∧ i ≤ fs.length ∧ k = fs.length - i ∧ Below w2.heap.size w2 wr)
    case atStart => exact ⟨0, rfl, by omega, by omega, Below.refl _ _⟩
    case round =>
      rename World => wr
      obtain ⟨i, rfl, hi, rfl, hbr⟩ := hrel
      by_cases hlt : i < fs.length
      · obtain ⟨m, hm⟩ : ∃ m, (madeL fs)[i]? = some m := ⟨_, List.getElem?_eq_getElem (by rw [HML.out]; exact hlt)⟩
        obtain ⟨hT, hM⟩ := HT.out wr hbr
        obtain ⟨_, _, hcv, hcell⟩ := hM.cell
        rw [HML.out] at hcv
        simp only [Value.slice.injEq] at hcv
        obtain ⟨rfl, -, rfl⟩ := hcv
        obtain ⟨g, o, lv, yv, rfl, c0, c1, c2, c3, c4, hI, hR, hl, hyl⟩ := hcell i m hm
        obtain ⟨la, lc, rfl⟩ : ∃ la lc, lv = .slice la m.lines.length lc := by obtain ⟨a, c, h, _⟩ := hI; exact ⟨a, c, by simpa using h⟩
        obtain ⟨ya, yc, rfl⟩ : ∃ la lc, yv = .slice la m.yes.length lc := by obtain ⟨a, c, h, _⟩ := hR; exact ⟨a, c, by simpa using h⟩
        obtain ⟨_, _, hcv, hcell2⟩ := hT.cell
        rw [HML.out] at hcv
        simp only [Value.slice.injEq] at hcv
        obtain ⟨rfl, -, rfl⟩ := hcv
        obtain ⟨tg, tq, va, vc, xa, xc, rfl, d0, d1, d2, d3, d4, d5, hI2, hR2, hl2⟩ := hcell2 i m hm
        have hbx : Below wr.heap.size wr (wr.alloc (.cells #[.string m.name, .int .i64 m.base, .int .i64 m.size, .slice la m.lines.length lc, .slice ya m.yes.length yc] 35)) := (Below.refl _ _).alloc (Nat.le_refl _) _
        have k0 := (hbx.cell (p := ⟨tg, tq + i * 6, none⟩) (World.block_lt_of_cell? wr _ d0)).trans d0
        have k1 := (hbx.cell (p := ⟨tg, tq + i * 6 + 1, none⟩) (World.block_lt_of_cell? wr _ d1)).trans d1
        have k2 := (hbx.cell (p := ⟨tg, tq + i * 6 + 2, none⟩) (World.block_lt_of_cell? wr _ d2)).trans d2
        have k3 := (hbx.cell (p := ⟨tg, tq + i * 6 + 3, none⟩) (World.block_lt_of_cell? wr _ d3)).trans d3
        have k4 := (hbx.cell (p := ⟨tg, tq + i * 6 + 4, none⟩) (World.block_lt_of_cell? wr _ d4)).trans d4
        have k5 := (hbx.cell (p := ⟨tg, tq + i * 6 + 5, none⟩) (World.block_lt_of_cell? wr _ d5)).trans d5
        obtain ⟨B2, N0, N1⟩ : Below wr.heap.size wr ((wr.alloc (.cells #[.string m.name, .int .i64 m.base, .int .i64 m.size, .slice la m.lines.length lc, .slice ya m.yes.length yc] 35)).alloc (.cells #[.string m.name, .int .i64 m.base, .int .i64 m.size, .int .i64 m.lines.length, .slice va m.lines.length vc, .slice xa m.yes.length xc] 58)) ∧ ((wr.alloc (.cells #[.string m.name, .int .i64 m.base, .int .i64 m.size, .slice la m.lines.length lc, .slice ya m.yes.length yc] 35)).alloc (.cells #[.string m.name, .int .i64 m.base, .int .i64 m.size, .int .i64 m.lines.length, .slice va m.lines.length vc, .slice xa m.yes.length xc] 58)).heap[wr.heap.size]? = some (.cells #[.string m.name, .int .i64 m.base, .int .i64 m.size, .slice la m.lines.length lc, .slice ya m.yes.length yc] 35 (0, 0)) ∧ ((wr.alloc (.cells #[.string m.name, .int .i64 m.base, .int .i64 m.size, .slice la m.lines.length lc, .slice ya m.yes.length yc] 35)).alloc (.cells #[.string m.name, .int .i64 m.base, .int .i64 m.size, .int .i64 m.lines.length, .slice va m.lines.length vc, .slice xa m.yes.length xc] 58)).heap[wr.heap.size + 1]? = some (.cells #[.string m.name, .int .i64 m.base, .int .i64 m.size, .int .i64 m.lines.length, .slice va m.lines.length vc, .slice xa m.yes.length xc] 58 (0, 0)) := by
          refine ⟨hbx.alloc (by simp) _, ?_, ?_⟩
          · rw [heap_new_ne _ (by simp)]; exact heap_new _ _
          · have := heap_new (wr.alloc (.cells #[.string m.name, .int .i64 m.base, .int .i64 m.size, .slice la m.lines.length lc, .slice ya m.yes.length yc] 35)) (.cells #[.string m.name, .int .i64 m.base, .int .i64 m.size, .int .i64 m.lines.length, .slice va m.lines.length vc, .slice xa m.yes.length xc] 58)
            rwa [World.size_alloc] at this
        have HBS : Hid (∀ W, Below wr.heap.size wr W → Calls Tryf.prog 27 #[.slice xa m.yes.length xc, .slice ya m.yes.length yc] W fun e w' => e = .returned (.bool true) ∧ ∃ n, w' = W.drewN n) := fun W hb => bools_same _ _ m.yes W (hR2.below hb) (hR.below hb) (by omega)
        have HIS : Hid (∀ W, Below wr.heap.size wr W → Calls Tryf.prog 14 #[.slice va m.lines.length vc, .slice la m.lines.length lc] W fun e w' => e = .returned (.bool true) ∧ ∃ n, w' = W.drewN n) := fun W hb => ints_same _ _ m.lines W (Reads.below hI2 hb) (Reads.below hI hb) (by omega)
        have q1 : (i : Int) < (fs.length : Int) := by omega
        have s1 : ((m.base : Int) != m.base) = false := by simp
        have s2 : ((m.size : Int) != m.size) = false := by simp
        have s3 : (((m.lines.length : Nat) : Int) != ((m.lines.length : Nat) : Int)) = false := by simp
        clear hM hT hcell hcell2 hI hR hI2 hR2 hm hbx d0 d1 d2 d3 d4 d5
        go_wp2_with fail
        generalize ((wr.alloc (.cells #[.string m.name, .int .i64 m.base, .int .i64 m.size, .slice la m.lines.length lc, .slice ya m.yes.length yc] 35)).alloc (.cells #[.string m.name, .int .i64 m.base, .int .i64 m.size, .int .i64 m.lines.length, .slice va m.lines.length vc, .slice xa m.yes.length xc] 58)) = w3 at *
        refine (HBS.out _ B2).mono ?_
        rintro e w4 ⟨rfl, n4, hw4⟩
        subst hw4
        have f2 : (w3.drewN n4).cell? ⟨wr.heap.size, 2, none⟩ = some (.int .i64 m.size) := by show w3.cell? _ = _; rw [cell_of N0]; rfl
        have f3 : (w3.drewN n4).cell? ⟨wr.heap.size, 3, none⟩ = some (.slice la m.lines.length lc) := by show w3.cell? _ = _; rw [cell_of N0]; rfl
        have t3 : (w3.drewN n4).cell? ⟨wr.heap.size + 1, 3, none⟩ = some (.int .i64 m.lines.length) := by show w3.cell? _ = _; rw [cell_of N1]; rfl
        have t4 : (w3.drewN n4).cell? ⟨wr.heap.size + 1, 4, none⟩ = some (.slice va m.lines.length vc) := by show w3.cell? _ = _; rw [cell_of N1]; rfl
        have B4 : Below wr.heap.size wr (w3.drewN n4) := below_drewN B2 n4
        generalize w3.drewN n4 = w5 at *
        have hbq : Below w2.heap.size w2 w5 := hbr.trans (B4.mono hbr.size)
        clear N0 N1 B2 HBS c0 c1 c2 c3 c4 k0 k1 k2 k3 k4 k5
        by_cases hs : 0 < m.size
        · go_wp2_with fail
          refine (HIS.out _ B4).mono ?_
          rintro e w6 ⟨rfl, n6, hw6⟩
          have hbq6 : Below w2.heap.size w2 w6 := by rw [hw6]; exact below_drewN hbq n6
          clear hw6 HIS B4 f2 f3 t3 t4
          go_wp2
          go_roundg (fs.length - (i + 1))
          case measure => omega
          case rel => exact ⟨i + 1, by go_num, by omega, rfl, hbq6⟩
        · have hs' : m.size ≤ 0 := by omega
          clear HIS B4 hs
          go_wp2
          go_roundg (fs.length - (i + 1))
          case measure => omega
          case rel => exact ⟨i + 1, by go_num, by omega, rfl, hbq⟩
      · have hi2 : i = fs.length := by omega
        subst hi2
        have hns : ¬ ((fs.length : Int) < (fs.length : Int)) := by omega
        have hb5 : Below w.heap.size w wr := hb3.trans (hbr.mono hb3.size)
        clear hlt HT hbr
        go_wp2
        go_ret
        exact ⟨rfl, hb5⟩
  · have HC := Lib.hid (lawsMade_no fv fs w hf hv)
    obtain ⟨fa, fc, rfl, _⟩ := hf.cell
    clear hf hv
    go_enter Tryf.func8, Tryf.ntmps8
    go_wp2_with fail
    refine HC.out.mono ?_
    rintro e w1 ⟨rfl, hb1⟩
    clear HC
    go_wp2
    go_ret
    exact ⟨rfl, hb1⟩
end Go.Proofs.YtboccjnlfehgoaaFmt

-- FRAME (gen_fn.py)
namespace Go.Proofs.YtboccjnlfehgoaaFmt.fnFiles
open Go.ChangeShapes Go.WideShapes Go.ChangeAt Go.RowKit
open Go.Extern.Stop Go.Stop Go.Extern

set_option maxRecDepth 100000 in
theorem lifted (os : Os) (started : os.Started) (H : Type) (enc : TypeId × Value → H) :
    ReturnsInTold none {} Tryf.checked os 8 .any Input.okWide ((OpenSpec.ofChange Rows.fnFilesSpec).preRow enc Tryf.prog Tryf.f8 [] false []) (fun F => ((OpenSpec.ofChange Rows.fnFilesSpec).at F).post enc Tryf.prog Tryf.f8 false true false false) (aloneAtReturn Tryf.prog) nothingAlways := by
  refine returnsInTold_of_row (C := Tryf.checked) (s := OpenSpec.ofChange Rows.fnFilesSpec) (by kernel_rfl) own started (by kernel_rfl) Tryf.func8
    (OpenSpec.witness_stopped (enc := enc) (C := Tryf.checked) false ⟨#[], #[.slice none 0 0], []⟩ 8 (by kernel_rfl) (by kernel_rfl) (by kernel_rfl) (by kernel_rfl)) ?_
  intro F W base args ds gs before _ hF hval0 hW _ _ hsz _ _
  have hval : ∀ (j : Nat) t v, Tryf.f8.params[j]? = some t → args[j]? = some v → Value.okWide Tryf.prog W .any base t v := hval0
  have hW' := hW
  obtain ⟨p, q, hA0, hV, rfl, hfz, hnd⟩ := hW
  have hA : DataW.TrodAll enc Tryf.prog W 0 (fun _ => true) true Tryf.f8.params.toList args.toList ds p := hA0
  rw [Tryf.params8] at hA hval
  obtain ⟨v0, vs0, d0, ds0, p0, q0, hargs, rfl, rfl, h0, r0⟩ := trodAll_cons hA
  obtain ⟨rfl, rfl, rfl⟩ := trodAll_nil r0
  obtain rfl : args = #[v0] := by cases args; simp_all
  obtain ⟨rfl, rfl⟩ := trodVars_none hV
  clear hA0
  obtain ⟨fs0, hf0, hn0, hr0⟩ := open_arg_files (hval 0 32 v0 rfl rfl) h0 (weights_arg hsz (j := 0) rfl rfl)
  refine (fnFiles_walk v0 fs0 W hf0).mono fun e W' ⟨he, hb⟩ => ?_
  subst he
  exact ⟨_, rfl, law_post (tb := 4) laidOut (by rw [Tryf.params8]; intro t ht; simp at ht; first | (subst ht; exact rd_iFiles) | (rcases ht with rfl <;> first | exact rd_iFiles)) rfl rfl Tryf.underlying4 rfl hW' hb⟩

theorem proved : Rows.FnFilesToldSaid :=
  Claim7.holds_of_told_any 8 Tryf.f8 "fmt.Sprintf" [] [] _ _ _ (by kernel_rfl) rfl rfl rfl laidOut (by kernel_rfl) rfl ⟨rfl, rfl, rfl, rfl, rfl, rfl, rfl⟩ rfl rfl (by kernel_rfl) (by kernel_rfl) Tryf.func8 (by kernel_rfl)
    (of_decide_eq_true (by kernel_rfl)) (by unfold Func.isWrapper; first | (rw [if_pos (by decide +kernel)]; kernel_rfl) | (rw [if_neg (by decide +kernel)]; exact ⟨rfl, rfl⟩)) stopNames.symm rfl stopKnobs.symm (by kernel_rfl)
    (by kernel_rfl) (by kernel_rfl) (by kernel_rfl) (by kernel_rfl) (by kernel_rfl) (by kernel_rfl) (by kernel_rfl) (by kernel_rfl) (by kernel_rfl) rfl (by kernel_rfl) rfl rfl
    rfl rfl
    rfl (by kernel_rfl) (by kernel_rfl) (by kernel_rfl) (by decide) (by kernel_rfl)
    (OpenClaim.moreEntering_of (by kernel_rfl) (by kernel_rfl) (by kernel_rfl) (by kernel_rfl) (by kernel_rfl) (by kernel_rfl) (by kernel_rfl) (by kernel_rfl) (by kernel_rfl) (by kernel_rfl))
    ⟨_, WideRow.started_initial, quiet _⟩
    (fun os started _ H enc _ => lifted os started H enc)

end Go.Proofs.YtboccjnlfehgoaaFmt.fnFiles
