/- FileSet.PositionFor, FileSet.Position, impl.SetPosition. -/
import Derived.Test.YtgehgiafhfgacaaFmtSetFile
namespace Go.Proofs.YtgehgiafhfgacaaFmt
open Go.RowKit Go.MuLone Go.RwLone

/-- The place of a position of a set. -/
def PosRes (ms : List MFile) (p : Int) (v : Value) : Prop :=
  (v = placeV ⟨#[]⟩ 0 0 0 ∧ (p = 0 ∨ ∀ m ∈ ms, p < m.base ∨ m.base + m.size < p)) ∨ ∃ (k : Nat) (m : MFile), ms[k]? = some m ∧ m.base ≤ p ∧ p ≤ m.base + m.size ∧ v = placeOf m.name m.base m.size m.lines p
theorem PosRes.form {ms : List MFile} {p : Int} {v : Value} (h : PosRes ms p v) : ∃ nm o ln cl, v = placeV nm o ln cl := by
  rcases h with ⟨rfl, _⟩ | ⟨k, m, _, _, _, rfl⟩
  · exact ⟨_, _, _, _, rfl⟩
  · exact placeOf_form _ _ _ _ _

def LeavesPos (S : Nat) (ms : List MFile) (p : Int) (w : World) (e : Ending) (w' : World) : Prop := ∃ v, e = .returned v ∧ PosRes ms p v ∧ Chg (fun k => k = S) w w'

set_option maxRecDepth 100000 in
set_option maxHeartbeats 1000000 in
theorem setPositionFor_any (B S : Nat) (lv tv : Value) (gs : List GFile) (t : T) (fbs : List Nat) (yvs : List Value) (p : Int) (w : World) (H : Built B w S lv tv gs t fbs yvs) (hv : validL gs) :
    Calls Tryf.prog 54 #[.pointer (some ⟨S, 0, none⟩), .int .i64 p, .bool true] w (LeavesPos S (madeL gs) p w) := by
  have HB : Below w.heap.size w (w.alloc (.cells #[.string ⟨#[]⟩, .int .i64 0, .int .i64 0, .int .i64 0] 58)) := (Below.refl _ _).alloc (Nat.le_refl _) _
  have hSl : S < w.heap.size := lt_of_heap H.set.set
  have HN := heap_new w (.cells #[.string ⟨#[]⟩, .int .i64 0, .int .i64 0, .int .i64 0] 58)
  have K0 : Chg (fun k => k = S) w (w.alloc (.cells #[.string ⟨#[]⟩, .int .i64 0, .int .i64 0, .int .i64 0] 58)) := (Chg.refl _ _).alloc _
  by_cases hp : p = 0
  · subst hp
    have FIN : Hid (LeavesPos S (madeL gs) 0 w (.returned (placeV ⟨#[]⟩ 0 0 0)) (w.alloc (.cells #[.string ⟨#[]⟩, .int .i64 0, .int .i64 0, .int .i64 0] 58))) := ⟨_, rfl, .inl ⟨rfl, .inl rfl⟩, K0⟩
    clear H hv HB HN K0
    go_enter Tryf.func54, Tryf.ntmps54
    go_wp2
    refine bodyPost_ret (v := placeV ⟨#[]⟩ 0 0 0) (by simp [results, Tryf.results54, go_sem, placeV]) rfl ?_
    exact FIN.out
  · have hp1 : (p == 0) = false := by simpa using hp
    have hp2 : (p != 0) = true := by simpa using hp
    have HF := Lib.hid (setFile_any B S lv tv gs t fbs yvs p _ (H.below HB) hv)
    have H1 := H.below HB
    have SS := H1.set.set
    have EACH := Lib.hid H1.each
    have VB := Lib.hid (valid_bounds hv).2
    clear H hv H1 hp
    go_enter Tryf.func54, Tryf.ntmps54
    go_wp2_with fail
    refine HF.out.mono ?_
    rintro e w2 ⟨r, rfl, res, K2⟩
    have HN2 := K2.at HN (by omega)
    have hl2 := lt_of_heap HN2
    rcases res with ⟨rfl, hno⟩ | ⟨k, m, fb, rfl, h1, h2, h3, h4⟩
    · have d0 : w2.cell? ⟨w.heap.size, 0, none⟩ = some (.string ⟨#[]⟩) := by rw [cell_of HN2]; rfl
      have d1 : w2.cell? ⟨w.heap.size, 1, none⟩ = some (.int .i64 0) := by rw [cell_of HN2]; rfl
      have d2 : w2.cell? ⟨w.heap.size, 2, none⟩ = some (.int .i64 0) := by rw [cell_of HN2]; rfl
      have d3 : w2.cell? ⟨w.heap.size, 3, none⟩ = some (.int .i64 0) := by rw [cell_of HN2]; rfl
      have FIN : Hid (LeavesPos S (madeL gs) p w (.returned (placeV ⟨#[]⟩ 0 0 0)) w2) := ⟨_, rfl, .inl ⟨rfl, .inr hno⟩, K0.trans K2⟩
      rw [ptr_none]
      clear HF HN HN2 hno K2 K0 EACH VB SS
      go_wp2
      refine bodyPost_ret (v := placeV ⟨#[]⟩ 0 0 0) (by simp [results, Tryf.results54, go_sem, placeV, d0, d1, d2, d3]) rfl ?_
      exact FIN.out
    · obtain ⟨fb', yv, lvl, e1, e2, e3, e4, e5⟩ := EACH.out k m h2
      rw [h1] at e1
      obtain rfl := Option.some.inj e1
      obtain ⟨b1, b2, b3, b4, _⟩ := VB.out m (List.mem_of_getElem? h2)
      have F2 : FileSt w2 B fb m.name m.base m.size lvl m.lines := e4.off K2 (by
        rintro g c ty fr rfl hh
        rw [show _ = _ from SS] at hh
        simp at hh
        rw [← hh.2.1]
        decide)
      have PP := Lib.hid (position_any B fb m.name m.base m.size lvl m.lines p w2 F2 (by omega) b4 b2 b3 (by omega) (by omega))
      have hv1 : placeOf m.name m.base m.size m.lines p = placeV m.name (fixOff m.size (p - m.base)) (lineCol m.lines (fixOff m.size (p - m.base))).1 (lineCol m.lines (fixOff m.size (p - m.base))).2 := by
        unfold placeOf
        rw [if_neg (by omega)]
      have HV1 := Lib.hid hv1
      generalize fixOff m.size (p - m.base) = of at *
      generalize (lineCol m.lines of).1 = ln at *
      generalize (lineCol m.lines of).2 = cl at *
      rw [ptr_some]
      have H2 := Lib.hid h2
      have KK := Lib.hid (K0.trans K2)
      clear HF HN K2 K0 EACH VB SS hv1 e2 e4 e5 F2 h1 h2
      go_wp2_with fail
      refine PP.out.mono ?_
      rintro e w3 ⟨rfl, hb3⟩
      have HN3 := (hb3.block _ hl2).trans HN2
      have d0 : w3.cell? ⟨w.heap.size, 0, none⟩ = some (.string ⟨#[]⟩) := by rw [cell_of HN3]; rfl
      have d1 : w3.cell? ⟨w.heap.size, 1, none⟩ = some (.int .i64 0) := by rw [cell_of HN3]; rfl
      have d2 : w3.cell? ⟨w.heap.size, 2, none⟩ = some (.int .i64 0) := by rw [cell_of HN3]; rfl
      have d3 : w3.cell? ⟨w.heap.size, 3, none⟩ = some (.int .i64 0) := by rw [cell_of HN3]; rfl
      have z0 := free_of HN3 0
      have z1 := free_of HN3 1
      have z2 := free_of HN3 2
      have z3 := free_of HN3 3
      have K3 : Chg (fun k => k = S) w w3 := KK.out.trans (Chg.of_below hb3)
      have FIN : Hid (∀ w', Chg (fun k => k = S) w w' → LeavesPos S (madeL gs) p w (.returned (placeV m.name of ln cl)) w') := fun w' K => ⟨_, rfl, .inr ⟨k, m, H2.out, h3, h4, HV1.out.symm⟩, K⟩
      clear PP HN2 HN3 hb3 HV1 H2 KK
      unfold placeV
      go_wp2
      refine bodyPost_ret (v := placeV m.name of ln cl) (by simp [results, Tryf.results54, go_sem, d0, d1, d2, d3, placeV]) rfl ?_
      refine FIN.out _ ?_
      repeat (first | with_reducible exact K3 | with_reducible refine Chg.set ?_ (by simp) _ | with_reducible refine Chg.drew ?_)

set_option maxRecDepth 100000 in
set_option maxHeartbeats 1000000 in
theorem setPosition_any (B S : Nat) (lv tv : Value) (gs : List GFile) (t : T) (fbs : List Nat) (yvs : List Value) (p : Int) (w : World) (H : Built B w S lv tv gs t fbs yvs) (hv : validL gs) :
    Calls Tryf.prog 38 #[.pointer (some ⟨S, 0, none⟩), .int .i64 p] w (LeavesPos S (madeL gs) p w) := by
  have HB : Below w.heap.size w (w.alloc (.cells #[.string ⟨#[]⟩, .int .i64 0, .int .i64 0, .int .i64 0] 58)) := (Below.refl _ _).alloc (Nat.le_refl _) _
  have hSl : S < w.heap.size := lt_of_heap H.set.set
  have HN := heap_new w (.cells #[.string ⟨#[]⟩, .int .i64 0, .int .i64 0, .int .i64 0] 58)
  have K0 : Chg (fun k => k = S) w (w.alloc (.cells #[.string ⟨#[]⟩, .int .i64 0, .int .i64 0, .int .i64 0] 58)) := (Chg.refl _ _).alloc _
  have HF := Lib.hid (setPositionFor_any B S lv tv gs t fbs yvs p _ (H.below HB) hv)
  clear H hv
  go_enter Tryf.func38, Tryf.ntmps38
  go_wp2_with fail
  refine HF.out.mono ?_
  rintro e w2 ⟨v, rfl, res, K2⟩
  obtain ⟨nm, of, ln, cl, rfl⟩ := res.form
  have HN2 := K2.at HN (by omega)
  have d0 : w2.cell? ⟨w.heap.size, 0, none⟩ = some (.string ⟨#[]⟩) := by rw [cell_of HN2]; rfl
  have d1 : w2.cell? ⟨w.heap.size, 1, none⟩ = some (.int .i64 0) := by rw [cell_of HN2]; rfl
  have d2 : w2.cell? ⟨w.heap.size, 2, none⟩ = some (.int .i64 0) := by rw [cell_of HN2]; rfl
  have d3 : w2.cell? ⟨w.heap.size, 3, none⟩ = some (.int .i64 0) := by rw [cell_of HN2]; rfl
  have z0 := free_of HN2 0
  have z1 := free_of HN2 1
  have z2 := free_of HN2 2
  have z3 := free_of HN2 3
  have K3 : Chg (fun k => k = S) w w2 := K0.trans K2
  have FIN : Hid (∀ w', Chg (fun k => k = S) w w' → LeavesPos S (madeL gs) p w (.returned (placeV nm of ln cl)) w') := fun w' K => ⟨_, rfl, res, K⟩
  clear HF HN HN2 K2 K0 res
  unfold placeV
  go_wp2
  refine bodyPost_ret (v := placeV nm of ln cl) (by simp [results, Tryf.results38, go_sem, d0, d1, d2, d3, placeV]) rfl ?_
  refine FIN.out _ ?_
  repeat (first | with_reducible exact K3 | with_reducible refine Chg.set ?_ (by simp) _ | with_reducible refine Chg.drew ?_)

set_option maxRecDepth 100000 in
set_option maxHeartbeats 1000000 in
theorem implSetPosition_any (fv : Value) (fs : List GFile) (p : Int) (w : World) (hf : Files w fv fs) (hv : validL fs) :
    Calls Tryf.prog 20 #[fv, .int .i64 p] w fun e w' => ∃ v, e = .returned v ∧ PosRes (madeL fs) p v ∧ Below w.heap.size w w' := by
  have HB : Below w.heap.size w (w.alloc (.cells #[.string ⟨#[]⟩, .int .i64 0, .int .i64 0, .int .i64 0] 30)) := (Below.refl _ _).alloc (Nat.le_refl _) _
  have HN := heap_new w (.cells #[.string ⟨#[]⟩, .int .i64 0, .int .i64 0, .int .i64 0] 30)
  have HC := Lib.hid (build_any fv fs _ (hf.below HB) hv)
  have HV := Lib.hid hv
  obtain ⟨fa, fc, rfl, _⟩ := hf.cell
  clear hf hv
  go_enter Tryf.func20, Tryf.ntmps20
  go_wp2_with fail
  refine HC.out.mono ?_
  rintro e w1 ⟨S, lv, tv, t, fbs, yvs, rfl, hB, hb1⟩
  have HP := Lib.hid (setPosition_any _ S lv tv fs t fbs yvs p w1 hB HV.out)
  have hS := hB.hS
  obtain ⟨la, lc, rfl⟩ := owns_form hB.own
  obtain ⟨ta, tc, rfl⟩ := owns_form hB.told
  have HN1 := (hb1.block w.heap.size (by simp)).trans HN
  have hb2 : Below w.heap.size w w1 := HB.trans (hb1.mono (by simp))
  simp only [World.size_alloc] at hS
  clear HC hB hb1 HN HB
  go_wp2_with fail
  refine HP.out.mono ?_
  rintro e w2 ⟨v, rfl, res, K2⟩
  obtain ⟨nm, of, ln, cl, rfl⟩ := res.form
  have HN2 := K2.at HN1 (by omega)
  have hb3 : Below w.heap.size w w2 := K2.below_of hb2 hb2.size (fun k h => by omega)
  have RES := Lib.hid res
  unfold placeV
  clear HP res K2 HN1 hb2
  go_wp2_with fail
  refine (place_any nm of ln cl w2).mono ?_
  rintro e w3 ⟨rfl, hb4⟩
  have HN3 := (hb4.block _ (lt_of_heap HN2)).trans HN2
  have d0 : w3.cell? ⟨w.heap.size, 0, none⟩ = some (.string ⟨#[]⟩) := by rw [cell_of HN3]; rfl
  have d1 : w3.cell? ⟨w.heap.size, 1, none⟩ = some (.int .i64 0) := by rw [cell_of HN3]; rfl
  have d2 : w3.cell? ⟨w.heap.size, 2, none⟩ = some (.int .i64 0) := by rw [cell_of HN3]; rfl
  have d3 : w3.cell? ⟨w.heap.size, 3, none⟩ = some (.int .i64 0) := by rw [cell_of HN3]; rfl
  have z0 := free_of HN3 0
  have z1 := free_of HN3 1
  have z2 := free_of HN3 2
  have z3 := free_of HN3 3
  have HB4 : Below w.heap.size w w3 := hb3.trans (hb4.mono hb3.size)
  clear HN2 HN3 hb3 hb4
  unfold placeV
  go_wp2
  refine bodyPost_ret (v := placeV nm of ln cl) (by simp [results, Tryf.results20, go_sem, d0, d1, d2, d3, placeV]) rfl ?_
  refine ⟨_, rfl, RES.out, ?_⟩
  repeat (first | exact HB4 | refine Below.drew ?_ | refine Below.setCell ?_ (by exact Nat.le_refl _) _)
end Go.Proofs.YtgehgiafhfgacaaFmt
