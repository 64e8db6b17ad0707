/- FnAddedSet: for every size, every list of offsets and every position the law returns true (fmt's texts told by the kit's own function); no condition. -/
import Derived.Test.YtgehgiafhfgacaaFmtOpenF
import Derived.Test.YtgehgiafhfgacaaFmtAddedP
import Derived.Test.YtgehgiafhfgacaaFmtStart
import Derived.Test.YtgehgiafhfgacaaFmtBools
import Derived.Test.YtgehgiafhfgacaaFmtCards
namespace Go.Proofs.YtgehgiafhfgacaaFmt
open Go.RowKit

set_option maxRecDepth 100000 in
set_option maxHeartbeats 2000000 in
theorem fnAddedSet_walk (size : Int) (ov : Value) (os : List Int) (p : Int) (w : World) (ho : Ints w ov os) (hlen : (os.length + 1) * 8 ≤ 140737488351240) : Calls Tryf.prog 7 #[.int .i64 size, ov, .int .i64 p] w fun e w' => e = .returned (.bool true) ∧ Below w.heap.size w w' := by
  obtain ⟨oa, oc, rfl, _⟩ := ho.cell
  have hb0 := Below.refl w.heap.size w
  by_cases g1 : 1 ≤ size
  · by_cases g2 : size ≤ 1099511627776
    · by_cases hn : -2199023255552 ≤ p ∧ p ≤ 2199023255552
      · obtain ⟨n1, n2⟩ := hn
        have hg := good_added (show 0 < size by omega) os
        have hal := (addedL_len size os).1
        have HA := Lib.hid (implAdded_any _ os size w ho hlen g1 g2)
        have hm := one_made hg
        have hk := one_hasK g1 g2 hg
        generalize addedL size os = ls at *
        have HV := Lib.hid hk.1
        have HK := Lib.hid hk
        have HM := Lib.hid hm
        have HG := Lib.hid hg
        have hll : ls.length * 8 ≤ 140737488355328 := by omega
        clear ho hg hm hk
        go_enter Tryf.func7, Tryf.ntmps7
        go_wp2_with fail
        refine (near_yes p _ n1 n2).mono ?_
        rintro e w' ⟨rfl, rfl⟩
        go_wp2_with fail
        refine HA.out.mono ?_
        rintro e w1 ⟨v, rfl, own, hb1⟩
        obtain ⟨la, lc, rfl⟩ := owns_form own
        obtain ⟨B0, N0, N1⟩ := alloc2 w1 (.cells #[.int .i64 1, .slice la ls.length lc, .int .i64 0] 39) (.cells #[.string ⟨#[]⟩, .int .i64 (-1), .int .i64 size, .slice (some ⟨w1.heap.size, 0, none⟩) 1 1] 42)
        have hF := one_files (size := size) (Reads.below (owns_reads own) B0) hll N0 N1
        have hb2 : Below w.heap.size w ((w1.alloc (.cells #[.int .i64 1, .slice la ls.length lc, .int .i64 0] 39)).alloc (.cells #[.string ⟨#[]⟩, .int .i64 (-1), .int .i64 size, .slice (some ⟨w1.heap.size, 0, none⟩) 1 1] 42)) := hb1.trans (B0.mono hb1.size)
        have HAN := Lib.hid (answers_any _ _ _ hF HV.out)
        have HF := Lib.hid hF
        clear HA own hF B0 N0 N1 hb1
        go_wp2_with fail
        generalize ((w1.alloc (.cells #[.int .i64 1, .slice la ls.length lc, .int .i64 0] 39)).alloc (.cells #[.string ⟨#[]⟩, .int .i64 (-1), .int .i64 size, .slice (some ⟨w1.heap.size, 0, none⟩) 1 1] 42)) = w2 at *
        refine HAN.out.mono ?_
        rintro e w3 ⟨tv, rfl, hT, hb3⟩
        rw [HM.out] at hT
        obtain ⟨yvs, t1, ⟨ta, tc, rfl, t2⟩, t3⟩ := hT
        obtain ⟨yv, t4, t5⟩ := t3 0 _ rfl
        obtain ⟨tg, tq, rfl, t6⟩ := t2.resolve_left (fun e => by rw [e] at t4; simp at t4)
        have c0 := t6 0 yv t4
        rw [Nat.add_zero] at c0
        simp only [List.length_singleton] at t1
        rw [t1]
        obtain ⟨xa, xc, rfl⟩ : ∃ a c, yv = .slice a 1 c := by obtain ⟨a, c, h, _⟩ := t5; exact ⟨a, c, by simpa [oneM] using h⟩
        have hc3 : Below w.heap.size w w3 := hb2.trans (hb3.mono hb2.size)
        have HF3 := Lib.hid (HF.out.below hb3)
        have HB : Hid (∀ W bb, Below w3.heap.size w3 W → W.heap[bb]? = some (.cells #[.bool true] 4 (0, 0)) → Calls Tryf.prog 17 #[.slice xa 1 xc, .slice (some ⟨bb, 0, none⟩) 1 1] W fun e w' => e = .returned (.bool true) ∧ ∃ n, w' = W.drewN n) := fun W bb hb h => by
          refine bools_same _ _ [true] W (t5.below hb) ⟨some ⟨bb, 0, none⟩, 1, rfl, .inr ⟨bb, 0, rfl, fun k u hk => ?_⟩⟩ (by simp)
          match k, hk with
          | 0, hk => simp at hk; subst hk; rw [cell_of h]; rfl
        have htl := World.block_lt_of_cell? w3 _ c0
        clear HAN HF t1 t2 t3 t4 t5 t6 hb2 hb3
        by_cases hp : p = 0
        · subst hp
          have PP := Lib.hid (pos_zero _ _ 0 _ w3 HF3.out HK.out)
          clear HF3 HK
          go_wp2_with fail
          refine PP.out.mono ?_
          rintro e w4 ⟨rfl, hb4⟩
          have hc4 : Below w.heap.size w (w4.alloc (.cells #[.string ⟨#[]⟩, .int .i64 0, .int .i64 0, .int .i64 0] 30)) := (hc3.trans (hb4.mono hc3.size)).alloc (by have := hc3.size; have := hb4.size; omega) _
          have h4l := Nat.lt_of_lt_of_le htl hb4.size
          have c5 : (w4.alloc (.cells #[.string ⟨#[]⟩, .int .i64 0, .int .i64 0, .int .i64 0] 30)).cell? ⟨tg, tq, none⟩ = some (.slice xa 1 xc) := (World.cell?_alloc_lt w4 _ ⟨tg, tq, none⟩ h4l).trans ((hb4.cell (p := ⟨tg, tq, none⟩) htl).trans c0)
          have hbW : Below w3.heap.size w3 ((w4.alloc (.cells #[.string ⟨#[]⟩, .int .i64 0, .int .i64 0, .int .i64 0] 30)).alloc (.cells #[.bool true] 4)) := (hb4.alloc hb4.size _).alloc (by have := hb4.size; simp; omega) _
          have hcW : Below w.heap.size w ((w4.alloc (.cells #[.string ⟨#[]⟩, .int .i64 0, .int .i64 0, .int .i64 0] 30)).alloc (.cells #[.bool true] 4)) := hc4.alloc hc4.size _
          have hNB := heap_new (w4.alloc (.cells #[.string ⟨#[]⟩, .int .i64 0, .int .i64 0, .int .i64 0] 30)) (.cells #[.bool true] 4)
          rw [World.size_alloc] at hNB
          have hNA : ((w4.alloc (.cells #[.string ⟨#[]⟩, .int .i64 0, .int .i64 0, .int .i64 0] 30)).alloc (.cells #[.bool true] 4)).heap[w4.heap.size]? = some (.cells #[.string ⟨#[]⟩, .int .i64 0, .int .i64 0, .int .i64 0] 30 (0, 0)) := by rw [heap_new_ne _ (by simp)]; exact heap_new _ _
          have a2 := cell_of hNA 2
          simp only [List.getElem?_toArray, List.getElem?_cons_zero, List.getElem?_cons_succ] at a2
          have BB := Lib.hid (HB.out _ _ hbW hNB)
          clear HB hNB hNA hbW PP hc3 hc4 hb4
          go_wp2_with fail
          generalize ((w4.alloc (.cells #[.string ⟨#[]⟩, .int .i64 0, .int .i64 0, .int .i64 0] 30)).alloc (.cells #[.bool true] 4)) = w6 at *
          refine BB.out.mono ?_
          rintro e w7 ⟨rfl, n7, hw7⟩
          have a7 : w7.cell? ⟨w4.heap.size, 2, none⟩ = some (.int .i64 0) := by rw [hw7]; exact a2
          have hc7 : Below w.heap.size w w7 := by rw [hw7]; exact below_drewN hcW n7
          clear hw7 BB a2 c5 hcW
          go_wp2
          go_ret
          exact ⟨rfl, hc7⟩
        · have lb := lnP_bd (m := oneM size ls) HG.out (show 0 ≤ size by omega) p
          have PP := Lib.hid (pos_good _ _ 0 _ p w3 HF3.out HK.out (show 0 < size by omega) hp (by omega) (by omega))
          rw [show (oneM size ls).name = ⟨#[]⟩ from rfl] at PP
          obtain ⟨lb1, lb2⟩ := lb
          rw [show (oneM size ls).lines.length = ls.length from rfl] at lb2
          generalize offP (oneM size ls) p = of at *
          generalize lnP (oneM size ls) p = l at *
          generalize clP (oneM size ls) p = c at *
          have s4 : (p == 0) = false := by simpa using hp
          clear HF3 HK hp
          go_wp2_with fail
          refine PP.out.mono ?_
          rintro e w4 ⟨rfl, hb4⟩
          have hc4 : Below w.heap.size w (w4.alloc (.cells #[.string ⟨#[]⟩, .int .i64 of, .int .i64 l, .int .i64 c] 30)) := (hc3.trans (hb4.mono hc3.size)).alloc (by have := hc3.size; have := hb4.size; omega) _
          have h4l := Nat.lt_of_lt_of_le htl hb4.size
          have c5 : (w4.alloc (.cells #[.string ⟨#[]⟩, .int .i64 of, .int .i64 l, .int .i64 c] 30)).cell? ⟨tg, tq, none⟩ = some (.slice xa 1 xc) := (World.cell?_alloc_lt w4 _ ⟨tg, tq, none⟩ h4l).trans ((hb4.cell (p := ⟨tg, tq, none⟩) htl).trans c0)
          have hbW : Below w3.heap.size w3 ((w4.alloc (.cells #[.string ⟨#[]⟩, .int .i64 of, .int .i64 l, .int .i64 c] 30)).alloc (.cells #[.bool true] 4)) := (hb4.alloc hb4.size _).alloc (by have := hb4.size; simp; omega) _
          have hcW : Below w.heap.size w ((w4.alloc (.cells #[.string ⟨#[]⟩, .int .i64 of, .int .i64 l, .int .i64 c] 30)).alloc (.cells #[.bool true] 4)) := hc4.alloc hc4.size _
          have hNB := heap_new (w4.alloc (.cells #[.string ⟨#[]⟩, .int .i64 of, .int .i64 l, .int .i64 c] 30)) (.cells #[.bool true] 4)
          rw [World.size_alloc] at hNB
          have hNA : ((w4.alloc (.cells #[.string ⟨#[]⟩, .int .i64 of, .int .i64 l, .int .i64 c] 30)).alloc (.cells #[.bool true] 4)).heap[w4.heap.size]? = some (.cells #[.string ⟨#[]⟩, .int .i64 of, .int .i64 l, .int .i64 c] 30 (0, 0)) := by rw [heap_new_ne _ (by simp)]; exact heap_new _ _
          have a2 := cell_of hNA 2
          simp only [List.getElem?_toArray, List.getElem?_cons_zero, List.getElem?_cons_succ] at a2
          have BB := Lib.hid (HB.out _ _ hbW hNB)
          clear HB hNB hNA hbW PP hc3 hc4 hb4
          go_wp2_with fail
          generalize ((w4.alloc (.cells #[.string ⟨#[]⟩, .int .i64 of, .int .i64 l, .int .i64 c] 30)).alloc (.cells #[.bool true] 4)) = w6 at *
          refine BB.out.mono ?_
          rintro e w7 ⟨rfl, n7, hw7⟩
          have a7 : w7.cell? ⟨w4.heap.size, 2, none⟩ = some (.int .i64 l) := by rw [hw7]; exact a2
          have hc7 : Below w.heap.size w w7 := by rw [hw7]; exact below_drewN hcW n7
          clear hw7 BB a2 c5 hcW
          go_wp2
          go_ret
          exact ⟨rfl, hc7⟩
      · have hn' : p < -2199023255552 ∨ 2199023255552 < p := by omega
        have HN := Lib.hid (fun W => near_no p W hn')
        clear hn hn' ho
        go_enter Tryf.func7, Tryf.ntmps7
        go_wp2_with fail
        refine (HN.out _).mono ?_
        rintro e w' ⟨rfl, rfl⟩
        go_wp2
        go_ret
        exact ⟨rfl, hb0⟩
    · have g2' : 1099511627776 < size := by omega
      clear ho g2
      go_enter Tryf.func7, Tryf.ntmps7
      go_wp2
      go_ret
      exact ⟨rfl, hb0⟩
  · have g1' : size < 1 := by omega
    clear ho g1
    go_enter Tryf.func7, Tryf.ntmps7
    go_wp2
    go_ret
    exact ⟨rfl, hb0⟩
end Go.Proofs.YtgehgiafhfgacaaFmt

-- FRAME (gen_fn.py)
namespace Go.Proofs.YtgehgiafhfgacaaFmt.fnAddedSet
open Go.ChangeShapes Go.WideShapes Go.ChangeAt Go.RowKit
open Go.Extern.Stop Go.Stop Go.Extern

set_option maxRecDepth 100000 in
theorem lifted (os : Os) (started : os.Started) (H : Type) (enc : TypeId × Value → H) :
    ReturnsInTold none {} Tryf.checked os 7 .any Input.okWide ((OpenSpec.ofChange Rows.fnAddedSetSpec).preRow enc Tryf.prog Tryf.f7 [] false []) (fun F => ((OpenSpec.ofChange Rows.fnAddedSetSpec).at F).post enc Tryf.prog Tryf.f7 false true false false) (aloneAtReturn Tryf.prog) nothingAlways := by
  refine returnsInTold_of_row (C := Tryf.checked) (s := OpenSpec.ofChange Rows.fnAddedSetSpec) (by kernel_rfl) own started (by kernel_rfl) Tryf.func7
    (OpenSpec.witness_stopped (enc := enc) (C := Tryf.checked) false ⟨#[], #[.int .i64 0, .slice none 0 0, .int .i64 0], []⟩ 8 (by kernel_rfl) (by kernel_rfl) (by kernel_rfl) (by kernel_rfl)) ?_
  intro F W base args ds gs before _ hF hval0 hW _ _ hsz _ _
  have hval : ∀ (j : Nat) t v, Tryf.f7.params[j]? = some t → args[j]? = some v → Value.okWide Tryf.prog W .any base t v := hval0
  have hW' := hW
  obtain ⟨p, q, hA0, hV, rfl, hfz, hnd⟩ := hW
  have hA : DataW.TrodAll enc Tryf.prog W 0 (fun _ => true) true Tryf.f7.params.toList args.toList ds p := hA0
  rw [Tryf.params7] at hA hval
  obtain ⟨v0, vs0, d0, ds0, p0, q0, hargs, rfl, rfl, h0, r0⟩ := trodAll_cons hA
  obtain ⟨v1, vs1, d1, ds1, p1, q1, rfl, rfl, rfl, h1, r1⟩ := trodAll_cons r0
  obtain ⟨v2, vs2, d2, ds2, p2, q2, rfl, rfl, rfl, h2, r2⟩ := trodAll_cons r1
  obtain ⟨rfl, rfl, rfl⟩ := trodAll_nil r2
  obtain rfl : args = #[v0, v1, v2] := by cases args; simp_all
  obtain ⟨rfl, rfl⟩ := trodVars_none hV
  clear hA0
  obtain ⟨x0, rfl, rfl, rfl, wx0⟩ := open_int Tryf.underlying3 (hval 0 3 v0 rfl rfl) h0
  obtain ⟨ls1, hi1, _, hd1⟩ := open_arg_ints (hval 1 23 v1 rfl rfl) h1
  have hlen1 := sized_ints hsz (j := 1) rfl rfl hd1
  obtain ⟨x2, rfl, rfl, rfl, wx2⟩ := open_int Tryf.underlying3 (hval 2 3 v2 rfl rfl) h2
  refine (fnAddedSet_walk x0 v1 ls1 x2 W hi1 (by omega)).mono fun e W' ⟨he, hb⟩ => ?_
  subst he
  exact ⟨_, rfl, law_post (tb := 4) laidOut (by rw [Tryf.params7]; intro t ht; simp at ht; first | (subst ht; exact rd_int) | (rcases ht with rfl | rfl | rfl <;> first | exact rd_int | exact rd_ints)) rfl rfl Tryf.underlying4 rfl hW' hb⟩

theorem proved : Rows.FnAddedSetToldSaid :=
  Claim7.holds_of_told_any 7 Tryf.f7 "fmt.Sprintf" [] [] _ _ _ (by kernel_rfl) rfl rfl rfl laidOut (by kernel_rfl) rfl ⟨rfl, rfl, rfl, rfl, rfl, rfl, rfl⟩ rfl rfl (by kernel_rfl) (by kernel_rfl) Tryf.func7 (by kernel_rfl)
    (of_decide_eq_true (by kernel_rfl)) (by unfold Func.isWrapper; first | (rw [if_pos (by decide +kernel)]; kernel_rfl) | (rw [if_neg (by decide +kernel)]; exact ⟨rfl, rfl⟩)) stopNames.symm rfl stopKnobs.symm (by kernel_rfl)
    (by kernel_rfl) (by kernel_rfl) (by kernel_rfl) (by kernel_rfl) (by kernel_rfl) (by kernel_rfl) (by kernel_rfl) (by kernel_rfl) (by kernel_rfl) rfl (by kernel_rfl) rfl rfl
    rfl rfl
    rfl (by kernel_rfl) (by kernel_rfl) (by kernel_rfl) (by decide) (by kernel_rfl)
    (OpenClaim.moreEntering_of (by kernel_rfl) (by kernel_rfl) (by kernel_rfl) (by kernel_rfl) (by kernel_rfl) (by kernel_rfl) (by kernel_rfl) (by kernel_rfl) (by kernel_rfl) (by kernel_rfl))
    ⟨_, WideRow.started_initial, quiet _⟩
    (fun os started _ H enc _ => lifted os started H enc)

end Go.Proofs.YtgehgiafhfgacaaFmt.fnAddedSet
