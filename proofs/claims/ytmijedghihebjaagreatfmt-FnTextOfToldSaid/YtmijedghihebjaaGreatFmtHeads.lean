/- laws.made, laws.at, laws.lined, laws.near; spec.Offset, spec.Pos. -/
import Derived.Test.YtmijedghihebjaaGreatFmtMade
import Derived.RegionTactic
import Derived.Deep.RegionHeld3
import Derived.BigRegion
namespace Go.Proofs.YtmijedghihebjaaGreatFmt
open Go.RowKit Go.MuLone Go.RwLone

theorem lawsMade_yes (fv : Value) (fs : List GFile) (w : World) (hf : Files w fv fs) (hv : validL fs) :
    Calls Tryz.prog 16 #[fv] w fun e w' => ∃ v, e = .returned (.tuple #[v, .bool true]) ∧ OwnMades w' w.heap.size v (madeL fs) ∧ Below w.heap.size w w' := by
  have HG := Lib.hid (given_any fv fs w hf)
  have HV := Lib.hid hv
  have hq : decide (validL fs) = true := decide_eq_true hv
  have HQ := Lib.hid hq
  clear hf hv hq
  go_enter Tryz.func16, Tryz.ntmps16
  go_wp2_with fail
  refine HG.out.mono ?_
  rintro e w1 ⟨gv, rfl, hG, hb1⟩
  have HV2 := Lib.hid (valid_any gv fs w1 hG)
  obtain ⟨ga, gc, rfl, _⟩ := hG.cell
  have HGG := Lib.hid hG
  clear hG HG
  go_wp2_with fail
  refine HV2.out.mono ?_
  rintro e w2 ⟨rfl, hb2⟩
  rw [HQ.out]
  have HM := Lib.hid (made_any _ fs w2 (HGG.out.below hb2) HV.out)
  clear HV2 HGG
  go_wp2_with fail
  refine HM.out.mono ?_
  rintro e w3 ⟨mv, rfl, hM, hb3⟩
  obtain ⟨ma, mc, rfl, _⟩ := hM.cell
  have HMM := Lib.hid (hM.mono (Nat.le_trans hb1.size hb2.size))
  have hb4 : Below w.heap.size w w3 := (hb1.trans (hb2.mono hb1.size)).trans (hb3.mono (Nat.le_trans hb1.size hb2.size))
  clear hM HM hb1 hb2 hb3
  go_wp2
  go_ret2
  exact ⟨_, rfl, HMM.out, hb4⟩

theorem lawsMade_no (fv : Value) (fs : List GFile) (w : World) (hf : Files w fv fs) (hv : ¬ validL fs) :
    Calls Tryz.prog 16 #[fv] w fun e w' => e = .returned (.tuple #[.slice none 0 0, .bool false]) ∧ Below w.heap.size w w' := by
  have HG := Lib.hid (given_any fv fs w hf)
  have hq : decide (validL fs) = false := decide_eq_false hv
  have HQ := Lib.hid hq
  clear hf hv hq
  go_enter Tryz.func16, Tryz.ntmps16
  go_wp2_with fail
  refine HG.out.mono ?_
  rintro e w1 ⟨gv, rfl, hG, hb1⟩
  have HV2 := Lib.hid (valid_any gv fs w1 hG)
  obtain ⟨ga, gc, rfl, _⟩ := hG.cell
  clear hG HG
  go_wp2_with fail
  refine HV2.out.mono ?_
  rintro e w2 ⟨rfl, hb2⟩
  rw [HQ.out]
  have hb4 : Below w.heap.size w w2 := hb1.trans (hb2.mono hb1.size)
  clear HV2 hb1 hb2
  go_wp2
  go_ret2
  exact ⟨rfl, hb4⟩

/-- There is file k. -/
def HasK (fs : List GFile) (k : Int) (m : MFile) : Prop := validL fs ∧ 0 ≤ k ∧ (madeL fs)[k.toNat]? = some m
/-- There is no file k. -/
def NoK (fs : List GFile) (k : Int) : Prop := ¬ validL fs ∨ k < 0 ∨ (fs.length : Int) ≤ k
theorem hasK_or (fs : List GFile) (k : Int) : (∃ m, HasK fs k m) ∨ NoK fs k := by
  by_cases hv : validL fs
  · by_cases h0 : 0 ≤ k
    · by_cases hl : k < fs.length
      · have : k.toNat < (madeL fs).length := by rw [madeL_length]; omega
        exact .inl ⟨_, hv, h0, List.getElem?_eq_getElem this⟩
      · exact .inr (.inr (.inr (by omega)))
    · exact .inr (.inr (.inl (by omega)))
  · exact .inr (.inl hv)

/-- What at and lined hand back where there is a file. -/
def GotK (m : MFile) (w : World) (e : Ending) (w' : World) : Prop :=
  ∃ la lc ya yc, e = .returned (.tuple #[.agg #[.string m.name, .int .i64 m.base, .int .i64 m.size, .slice la m.lines.length lc, .slice ya m.yes.length yc], .bool true]) ∧ w'.ownsRow w.heap.size 3 1 (.slice la m.lines.length lc) m.lines.length (m.lines.map (Value.int .i64)) ∧ w'.ownsRow w.heap.size 4 1 (.slice ya m.yes.length yc) m.yes.length (m.yes.map Value.bool) ∧ m.lines.length * 8 ≤ 140737488355328 ∧ Below w.heap.size w w'
def GotNo (w : World) (e : Ending) (w' : World) : Prop :=
  ∃ nm b s la ln lc ya yn yc, e = .returned (.tuple #[.agg #[.string nm, .int .i64 b, .int .i64 s, .slice la ln lc, .slice ya yn yc], .bool false]) ∧ Below w.heap.size w w'

set_option maxRecDepth 100000 in
theorem at_yes (fv : Value) (fs : List GFile) (k : Int) (m : MFile) (w : World) (hf : Files w fv fs) (hk : HasK fs k m) : Calls Tryz.prog 9 #[fv, .int .i64 k] w (GotK m w) := by
  obtain ⟨hv, h0, hk⟩ := hk
  obtain ⟨k, rfl⟩ : ∃ n : Nat, k = n := ⟨k.toNat, by omega⟩
  simp only [Int.toNat_natCast] at hk
  have hkl : k < fs.length := by have := (List.getElem?_eq_some_iff.1 hk).1; rwa [madeL_length] at this
  have hlen := hf.1
  have HB : Below w.heap.size w (w.alloc (.cells #[.string ⟨#[]⟩, .int .i64 0, .int .i64 0, .slice none 0 0, .slice none 0 0] 26)) := (Below.refl _ _).alloc (Nat.le_refl _) _
  have HC := Lib.hid (lawsMade_yes fv fs _ (hf.below HB) hv)
  have HK := Lib.hid hk
  clear hf hv hk
  go_enter Tryz.func9, Tryz.ntmps9
  go_wp2_with fail
  refine HC.out.mono ?_
  rintro e w1 ⟨mv, rfl, hM, hb1⟩
  obtain ⟨ma, mc, hmv, hcell⟩ := hM.cell
  rw [madeL_length] at hmv
  subst hmv
  obtain ⟨g, o, la, lc, ya, yc, rfl, c0, c1, c2, c3, c4, hI, hR, hl, _⟩ := hcell k m HK.out
  have hN := (hb1.block w.heap.size (by simp)).trans (heap_new w (.cells #[.string ⟨#[]⟩, .int .i64 0, .int .i64 0, .slice none 0 0, .slice none 0 0] 26))
  have hb2 : Below w.heap.size w w1 := HB.trans (hb1.mono (by simp))
  have hgl := World.block_lt_of_cell? w1 _ c0
  have s0 := cell_of hN 0
  have s1 := cell_of hN 1
  have s2 := cell_of hN 2
  have s3 := cell_of hN 3
  have s4 := cell_of hN 4
  simp only [List.getElem?_toArray, List.getElem?_cons_zero, List.getElem?_cons_succ] at s0 s1 s2 s3 s4
  have z0 := free_of hN 0
  have z1 := free_of hN 1
  have z2 := free_of hN 2
  have z3 := free_of hN 3
  have z4 := free_of hN 4
  have q1 : ¬ ((k : Int) < 0) := by omega
  have q2 : (k : Int) < (fs.length : Int) := by omega
  have hfl : ∃ nm b s ln yn, nm = m.name ∧ b = m.base ∧ s = m.size ∧ ln = m.lines.length ∧ yn = m.yes.length := ⟨_, _, _, _, _, rfl, rfl, rfl, rfl, rfl⟩
  obtain ⟨nm, b, s, ln, yn, h1, h2, h3, h4, h5⟩ := hfl
  rw [← h1] at c0; rw [← h2] at c1; rw [← h3] at c2; rw [← h4] at c3; rw [← h5] at c4
  have FIN : Hid (∀ w', Chg (fun k => k = w.heap.size) w1 w' → GotK m w (.returned (.tuple #[.agg #[.string nm, .int .i64 b, .int .i64 s, .slice la ln lc, .slice ya yn yc], .bool true])) w') := fun w' K => by
    refine ⟨la, lc, ya, yc, by rw [h1, h2, h3, h4, h5], ?_, ?_, hl, K.below_of hb2 hb2.size (fun k h => by omega)⟩
    · exact owns_mono (owns_chg hI K (fun g hg => by have := (hI.lt g hg).1; simp at this; omega)) (by simp)
    · exact owns_mono (owns_chg hR K (fun g hg => by have := (hR.lt g hg).1; simp at this; omega)) (by simp)
  clear hN HC HB hb1 hM hcell hI hR h1 h2 h3 h4 h5
  go_wp2
  refine bodyPost_ret (v := .tuple #[.agg #[.string nm, .int .i64 b, .int .i64 s, .slice la ln lc, .slice ya yn yc], .bool true]) (by simp [results, Tryz.results9, go_sem, s0, s1, s2, s3, s4]) rfl ?_
  refine FIN.out _ ?_
  repeat (first | with_reducible exact Chg.refl _ _ | with_reducible refine Chg.set ?_ (by simp) _ | with_reducible refine Chg.drew ?_)

set_option maxRecDepth 100000 in
theorem at_no (fv : Value) (fs : List GFile) (k : Int) (w : World) (hf : Files w fv fs) (hk : NoK fs k) : Calls Tryz.prog 9 #[fv, .int .i64 k] w (GotNo w) := by
  have hlen := hf.1
  have HB : Below w.heap.size w (w.alloc (.cells #[.string ⟨#[]⟩, .int .i64 0, .int .i64 0, .slice none 0 0, .slice none 0 0] 26)) := (Below.refl _ _).alloc (Nat.le_refl _) _
  have FINN : Hid (∀ w1 w', Below (w.heap.size + 1) (w.alloc (.cells #[.string ⟨#[]⟩, .int .i64 0, .int .i64 0, .slice none 0 0, .slice none 0 0] 26)) w1 → Chg (fun k => k = w.heap.size) w1 w' → GotNo w (.returned (.tuple #[.agg #[.string ⟨#[]⟩, .int .i64 0, .int .i64 0, .slice none 0 0, .slice none 0 0], .bool false])) w') := fun w1 w' hb1 K => by
    have hb2 : Below w.heap.size w w1 := HB.trans (hb1.mono (by omega))
    exact ⟨_, _, _, _, _, _, _, _, _, rfl, K.below_of hb2 hb2.size (fun k h => by omega)⟩
  by_cases hv : validL fs
  · have HC := Lib.hid (lawsMade_yes fv fs _ (hf.below HB) hv)
    have hkk : k < 0 ∨ (0 ≤ k ∧ (fs.length : Int) ≤ k) := by
      rcases hk with h | h | h
      · exact absurd hv h
      · exact .inl h
      · by_cases h0 : k < 0
        · exact .inl h0
        · exact .inr ⟨by omega, h⟩
    clear hf hv hk
    rcases hkk with h | ⟨h0, h⟩
    all_goals
      go_enter Tryz.func9, Tryz.ntmps9
      go_wp2_with fail
      refine HC.out.mono ?_
      rintro e w1 ⟨mv, rfl, hM, hb1⟩
      obtain ⟨ma, mc, hmv, _⟩ := hM.cell
      rw [madeL_length] at hmv
      subst hmv
      have hN := (hb1.block w.heap.size (by simp)).trans (heap_new w (.cells #[.string ⟨#[]⟩, .int .i64 0, .int .i64 0, .slice none 0 0, .slice none 0 0] 26))
      have FIN := Lib.hid (fun w' => FINN.out w1 w' (by simpa using hb1))
      have s0 := cell_of hN 0
      have s1 := cell_of hN 1
      have s2 := cell_of hN 2
      have s3 := cell_of hN 3
      have s4 := cell_of hN 4
      simp only [List.getElem?_toArray, List.getElem?_cons_zero, List.getElem?_cons_succ] at s0 s1 s2 s3 s4
      have z0 := free_of hN 0
      have z1 := free_of hN 1
      have z2 := free_of hN 2
      have z3 := free_of hN 3
      have z4 := free_of hN 4
      clear hN HC HB hb1 hM FINN
      go_wp2
      refine bodyPost_ret (v := .tuple #[.agg #[.string ⟨#[]⟩, .int .i64 0, .int .i64 0, .slice none 0 0, .slice none 0 0], .bool false]) (by simp [results, Tryz.results9, go_sem, s0, s1, s2, s3, s4]) rfl ?_
      refine FIN.out _ ?_
      repeat (first | with_reducible exact Chg.refl _ _ | with_reducible refine Chg.set ?_ (by simp) _ | with_reducible refine Chg.drew ?_)
  · have HC := Lib.hid (lawsMade_no fv fs _ (hf.below HB) hv)
    clear hf hv hk
    go_enter Tryz.func9, Tryz.ntmps9
    go_wp2_with fail
    refine HC.out.mono ?_
    rintro e w1 ⟨rfl, hb1⟩
    have hN := (hb1.block w.heap.size (by simp)).trans (heap_new w (.cells #[.string ⟨#[]⟩, .int .i64 0, .int .i64 0, .slice none 0 0, .slice none 0 0] 26))
    have FIN := Lib.hid (fun w' => FINN.out w1 w' (by simpa using hb1))
    have s0 := cell_of hN 0
    have s1 := cell_of hN 1
    have s2 := cell_of hN 2
    have s3 := cell_of hN 3
    have s4 := cell_of hN 4
    simp only [List.getElem?_toArray, List.getElem?_cons_zero, List.getElem?_cons_succ] at s0 s1 s2 s3 s4
    have z0 := free_of hN 0
    have z1 := free_of hN 1
    have z2 := free_of hN 2
    have z3 := free_of hN 3
    have z4 := free_of hN 4
    clear hN HC HB hb1 FINN
    go_wp2
    refine bodyPost_ret (v := .tuple #[.agg #[.string ⟨#[]⟩, .int .i64 0, .int .i64 0, .slice none 0 0, .slice none 0 0], .bool false]) (by simp [results, Tryz.results9, go_sem, s0, s1, s2, s3, s4]) rfl ?_
    refine FIN.out _ ?_
    repeat (first | with_reducible exact Chg.refl _ _ | with_reducible refine Chg.set ?_ (by simp) _ | with_reducible refine Chg.drew ?_)

/-- The walk of lined behind at: what it hands on, and whether the file is not empty. -/
theorem lined_yes (fv : Value) (fs : List GFile) (k : Int) (m : MFile) (w : World) (hf : Files w fv fs) (hk : HasK fs k m) (hs : 0 < m.size) : Calls Tryz.prog 4 #[fv, .int .i64 k] w (GotK m w) := by
  have HB : Below w.heap.size w (w.alloc (.cells #[.string ⟨#[]⟩, .int .i64 0, .int .i64 0, .slice none 0 0, .slice none 0 0] 26)) := (Below.refl _ _).alloc (Nat.le_refl _) _
  have HC := Lib.hid (at_yes fv fs k m _ (hf.below HB) hk)
  clear hf hk
  go_enter Tryz.func4, Tryz.ntmps4
  go_wp2_with fail
  refine HC.out.mono ?_
  rintro e w1 ⟨la, lc, ya, yc, rfl, hI, hR, hl, hb1⟩
  have hN := (hb1.block w.heap.size (by simp)).trans (heap_new w (.cells #[.string ⟨#[]⟩, .int .i64 0, .int .i64 0, .slice none 0 0, .slice none 0 0] 26))
  have hb2 : Below w.heap.size w w1 := HB.trans (hb1.mono (by simp))
  have hsz : w.heap.size < w1.heap.size := lt_of_heap hN
  have hfl : ∃ nm b s ln yn, nm = m.name ∧ b = m.base ∧ s = m.size ∧ ln = m.lines.length ∧ yn = m.yes.length := ⟨_, _, _, _, _, rfl, rfl, rfl, rfl, rfl⟩
  obtain ⟨nm, b, s, ln, yn, h1, h2, h3, h4, h5⟩ := hfl
  have FIN : Hid (∀ w', Chg (fun k => k = w.heap.size) w1 w' → GotK m w (.returned (.tuple #[.agg #[.string nm, .int .i64 b, .int .i64 s, .slice la ln lc, .slice ya yn yc], .bool true])) w') := fun w' K => by
    refine ⟨la, lc, ya, yc, by rw [h1, h2, h3, h4, h5], ?_, ?_, hl, K.below_of hb2 hb2.size (fun k h => by omega)⟩
    · exact owns_mono (owns_chg hI K (fun g hg => by have := (hI.lt g hg).1; simp at this; omega)) (by simp)
    · exact owns_mono (owns_chg hR K (fun g hg => by have := (hR.lt g hg).1; simp at this; omega)) (by simp)
  rw [← h1, ← h2, ← h3, ← h4, ← h5]
  have hs' : 0 < s := by rw [h3]; exact hs
  have HN := Lib.hid hN
  clear hI hR hb1 HC HB hb2 h1 h2 h3 h4 h5 hs hl hN
  go_wp2_with fail
  have hNN := heap_new w1 (.cells #[.string nm, .int .i64 b, .int .i64 s, .slice la ln lc, .slice ya yn yc] 26)
  have K1 : Chg (fun k => k = w.heap.size) w1 (w1.alloc (.cells #[.string nm, .int .i64 b, .int .i64 s, .slice la ln lc, .slice ya yn yc] 26)) := (Chg.refl _ _).alloc _
  have hRes := (Below.heap_alloc w1 (.cells #[.string nm, .int .i64 b, .int .i64 s, .slice la ln lc, .slice ya yn yc] 26) w.heap.size hsz).trans HN.out
  generalize (w1.alloc (.cells #[.string nm, .int .i64 b, .int .i64 s, .slice la ln lc, .slice ya yn yc] 26)) = w2 at *
  have f0 := cell_of hNN 0
  have f1 := cell_of hNN 1
  have f2 := cell_of hNN 2
  have f3 := cell_of hNN 3
  have f4 := cell_of hNN 4
  have s0 := cell_of hRes 0
  have s1 := cell_of hRes 1
  have s2 := cell_of hRes 2
  have s3 := cell_of hRes 3
  have s4 := cell_of hRes 4
  simp only [List.getElem?_toArray, List.getElem?_cons_zero, List.getElem?_cons_succ] at f0 f1 f2 f3 f4 s0 s1 s2 s3 s4
  have z0 := free_of hRes 0
  have z1 := free_of hRes 1
  have z2 := free_of hRes 2
  have z3 := free_of hRes 3
  have z4 := free_of hRes 4
  have hne : ¬ w1.heap.size = w.heap.size := by omega
  clear hNN hRes HN
  go_region
  go_wp2
  refine bodyPost_ret (v := .tuple #[.agg #[.string nm, .int .i64 b, .int .i64 s, .slice la ln lc, .slice ya yn yc], .bool true]) (by simp [results, Tryz.results4, go_sem, s0, s1, s2, s3, s4]) rfl ?_
  refine FIN.out _ ?_
  repeat (first | with_reducible exact K1 | with_reducible refine Chg.set ?_ (by simp) _ | with_reducible refine Chg.drew ?_)

/-- There is no file k, or it is empty. -/
def NoLines (fs : List GFile) (k : Int) : Prop := NoK fs k ∨ ∃ m, HasK fs k m ∧ m.size ≤ 0
theorem lines_or (fs : List GFile) (k : Int) : (∃ m, HasK fs k m ∧ 0 < m.size) ∨ NoLines fs k := by
  rcases hasK_or fs k with ⟨m, h⟩ | h
  · by_cases h0 : 0 < m.size
    · exact .inl ⟨m, h, h0⟩
    · exact .inr (.inr ⟨m, h, by omega⟩)
  · exact .inr (.inl h)
theorem lined_no (fv : Value) (fs : List GFile) (k : Int) (w : World) (hf : Files w fv fs) (hk : NoLines fs k) : Calls Tryz.prog 4 #[fv, .int .i64 k] w (GotNo w) := by
  have HB : Below w.heap.size w (w.alloc (.cells #[.string ⟨#[]⟩, .int .i64 0, .int .i64 0, .slice none 0 0, .slice none 0 0] 26)) := (Below.refl _ _).alloc (Nat.le_refl _) _
  have HC : Hid (Calls Tryz.prog 9 #[fv, .int .i64 k] (w.alloc (.cells #[.string ⟨#[]⟩, .int .i64 0, .int .i64 0, .slice none 0 0, .slice none 0 0] 26)) fun e w' => ∃ nm b s la ln lc ya yn yc q, e = .returned (.tuple #[.agg #[.string nm, .int .i64 b, .int .i64 s, .slice la ln lc, .slice ya yn yc], .bool q]) ∧ (q = true → s ≤ 0) ∧ Below (w.heap.size + 1) (w.alloc (.cells #[.string ⟨#[]⟩, .int .i64 0, .int .i64 0, .slice none 0 0, .slice none 0 0] 26)) w') := by
    rcases hk with hk | ⟨m, hk, hs⟩
    · refine (at_no fv fs k _ (hf.below HB) hk).mono ?_
      rintro e w' ⟨nm, b, s, la, ln, lc, ya, yn, yc, rfl, hb⟩
      exact ⟨_, _, _, _, _, _, _, _, _, false, rfl, (fun h => by cases h), by simpa using hb⟩
    · refine (at_yes fv fs k m _ (hf.below HB) hk).mono ?_
      rintro e w' ⟨la, lc, ya, yc, rfl, _, _, _, hb⟩
      exact ⟨_, _, _, _, _, _, _, _, _, true, rfl, fun _ => hs, by simpa using hb⟩
  clear hf hk
  go_enter Tryz.func4, Tryz.ntmps4
  go_wp2_with fail
  refine HC.out.mono ?_
  rintro e w1 ⟨nm, b, s, la, ln, lc, ya, yn, yc, q, rfl, hq, hb1⟩
  have hN := (hb1.block w.heap.size (by omega)).trans (heap_new w (.cells #[.string ⟨#[]⟩, .int .i64 0, .int .i64 0, .slice none 0 0, .slice none 0 0] 26))
  have hb2 : Below w.heap.size w w1 := HB.trans (hb1.mono (by omega))
  have hsz : w.heap.size < w1.heap.size := lt_of_heap hN
  have FIN : Hid (∀ w', Chg (fun k => k = w.heap.size) w1 w' → GotNo w (.returned (.tuple #[.agg #[.string nm, .int .i64 b, .int .i64 s, .slice la ln lc, .slice ya yn yc], .bool false])) w') := fun w' K =>
    ⟨_, _, _, _, _, _, _, _, _, rfl, K.below_of hb2 hb2.size (fun k h => by omega)⟩
  have HN := Lib.hid hN
  clear hb1 HC HB hb2 hN
  cases q
  all_goals
    first | (have hs' : ¬ 0 < s := by have := hq rfl; omega) | skip
    clear hq
    go_wp2_with fail
    have hNN := heap_new w1 (.cells #[.string nm, .int .i64 b, .int .i64 s, .slice la ln lc, .slice ya yn yc] 26)
    have K1 : Chg (fun k => k = w.heap.size) w1 (w1.alloc (.cells #[.string nm, .int .i64 b, .int .i64 s, .slice la ln lc, .slice ya yn yc] 26)) := (Chg.refl _ _).alloc _
    have hRes := (Below.heap_alloc w1 (.cells #[.string nm, .int .i64 b, .int .i64 s, .slice la ln lc, .slice ya yn yc] 26) w.heap.size hsz).trans HN.out
    generalize (w1.alloc (.cells #[.string nm, .int .i64 b, .int .i64 s, .slice la ln lc, .slice ya yn yc] 26)) = w2 at *
    have f0 := cell_of hNN 0
    have f1 := cell_of hNN 1
    have f2 := cell_of hNN 2
    have f3 := cell_of hNN 3
    have f4 := cell_of hNN 4
    have s0 := cell_of hRes 0
    have s1 := cell_of hRes 1
    have s2 := cell_of hRes 2
    have s3 := cell_of hRes 3
    have s4 := cell_of hRes 4
    simp only [List.getElem?_toArray, List.getElem?_cons_zero, List.getElem?_cons_succ] at f0 f1 f2 f3 f4 s0 s1 s2 s3 s4
    have z0 := free_of hRes 0
    have z1 := free_of hRes 1
    have z2 := free_of hRes 2
    have z3 := free_of hRes 3
    have z4 := free_of hRes 4
    have hne : ¬ w1.heap.size = w.heap.size := by omega
    clear hNN hRes HN
    go_region
    go_wp2
    refine bodyPost_ret (v := .tuple #[.agg #[.string nm, .int .i64 b, .int .i64 s, .slice la ln lc, .slice ya yn yc], .bool false]) (by first | (simp [results, Tryz.results4, go_sem, s0, s1, s2, s3, s4]; done) | (simp [results, Tryz.results4, go_sem, s0, s1, s2, s3, s4]; omega)) rfl ?_
    refine FIN.out _ ?_
    repeat (first | with_reducible exact K1 | with_reducible refine Chg.set ?_ (by simp) _ | with_reducible refine Chg.drew ?_)


theorem ret_int {k : IntKind} {a b : Int} (h : a = b) : Ending.returned (.int k a) = .returned (.int k b) := by rw [h]
end Go.Proofs.YtmijedghihebjaaGreatFmt
