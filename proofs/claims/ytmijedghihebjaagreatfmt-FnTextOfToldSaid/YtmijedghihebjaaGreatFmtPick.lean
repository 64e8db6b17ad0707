/- impl.pick and the functions that ask one file. -/
import Derived.Test.YtmijedghihebjaaGreatFmtBuild
namespace Go.Proofs.YtmijedghihebjaaGreatFmt
open Go.RowKit Go.MuLone Go.RwLone

/-- Behind pick: file k. -/
def LeavesPick (m : MFile) (w : World) (e : Ending) (w' : World) : Prop :=
  ∃ fb lv, e = .returned (.pointer (some ⟨fb, 0, none⟩)) ∧ Below w.heap.size w w' ∧ w.heap.size ≤ fb ∧ FileSt w' w.heap.size fb m.name m.base m.size lv m.lines

set_option maxRecDepth 100000 in
theorem pick_any (fv : Value) (fs : List GFile) (k : Nat) (m : MFile) (w : World) (hf : Files w fv fs) (hv : validL fs) (hk : (madeL fs)[k]? = some m) : Calls Tryz.prog 10 #[fv, .int .i64 k] w (LeavesPick m w) := by
  have hkl : k < fs.length := by have := (List.getElem?_eq_some_iff.1 hk).1; rwa [madeL_length] at this
  have hlen := hf.1
  have HK := Lib.hid hk
  have HC := Lib.hid (build_any fv fs w hf hv)
  clear hk hf hv
  go_enter Tryz.func10, Tryz.ntmps10
  go_wp2_with fail
  refine HC.out.mono ?_
  rintro e w2 ⟨S, lv, tv, t, fbs, yvs, rfl, hB, hb⟩
  obtain ⟨fb, yv, lvl, h1, h2, h3, h4, h5⟩ := hB.each k m HK.out
  have own := hB.own
  have hfv : (fbs.map fbV)[k]? = some (fbV fb) := by rw [List.getElem?_map, h1]; rfl
  obtain ⟨ta, tc, rfl⟩ := owns_form hB.told
  rcases own.2 with ⟨rfl, h0⟩ | ⟨g, cap, cur, rfl, _⟩
  · omega
  have hc := own.cells (g := g) rfl k _ hfv
  rw [Addr.add_lit, Nat.zero_add] at hc
  have q1 : ¬ ((k : Int) < 0) := by omega
  have q2 : (k : Int) < (fs.length : Int) := by omega
  unfold fbV at hc
  clear HC HK hB own h1 h2 hfv h5
  go_wp2
  go_ret
  exact ⟨fb, lvl, rfl, hb, h3, h4⟩




theorem up1 : wrap32 (0 + 1) = 1 := by first | decide | rfl | (unfold wrap32; rfl) | (simp [wrap32])
theorem down1 : wrap32 (1 + -1) = 0 := by first | decide | rfl | (unfold wrap32; rfl) | (simp [wrap32])


theorem place_any (nm : ByteArray) (o ln cl : Int) (w : World) : Calls Tryz.prog 11 #[placeV nm o ln cl] w fun e w' => e = .returned (placeV nm o ln cl) ∧ Below w.heap.size w w' := by
  have HB : Below w.heap.size w ((w.alloc (.cells #[.string nm, .int .i64 o, .int .i64 ln, .int .i64 cl] 39)).alloc (.cells #[.string nm, .int .i64 o, .int .i64 ln, .int .i64 cl] 30)) := ((Below.refl _ _).alloc (Nat.le_refl _) _).alloc (by simp) _
  unfold placeV
  go_enter Tryz.func11, Tryz.ntmps11
  go_wp2
  refine bodyPost_ret (v := placeV nm o ln cl) (by simp [results, Tryz.results11, go_sem, placeV]) rfl ?_
  exact ⟨rfl, HB⟩

set_option maxRecDepth 100000 in
theorem implPosition_at (fv : Value) (fs : List GFile) (k : Nat) (m : MFile) (p : Int) (w : World) (hf : Files w fv fs) (hv : validL fs) (hk : (madeL fs)[k]? = some m) (g5 : -4398046511104 ≤ p) (g6 : p ≤ 4398046511104) :
    Calls Tryz.prog 5 #[fv, .int .i64 k, .int .i64 p] w fun e w' => e = .returned (placeOf m.name m.base m.size m.lines p) ∧ Below w.heap.size w w' := by
  obtain ⟨v1, v2, v3, v4, v5⟩ := (valid_bounds hv).2 m (List.mem_of_getElem? hk)
  have HB : Below w.heap.size w (w.alloc (.cells #[.string ⟨#[]⟩, .int .i64 0, .int .i64 0, .int .i64 0] 30)) := (Below.refl _ _).alloc (Nat.le_refl _) _
  have HC := Lib.hid (pick_any fv fs k m _ (hf.below HB) hv hk)
  obtain ⟨nm, o, ln, cl, hpv⟩ := placeOf_form m.name m.base m.size m.lines p
  rw [hpv]
  have HPV := Lib.hid hpv
  clear hf hv hk hpv
  go_enter Tryz.func5, Tryz.ntmps5
  go_wp2_with fail
  refine HC.out.mono ?_
  rintro e w2 ⟨fb, lv, rfl, hb, hB, hF⟩
  clear HC
  go_wp2_with fail
  refine (filePosition_any _ fb m.name m.base m.size lv m.lines p w2 hF (by omega) v4 v2 v3 g5 g6).mono ?_
  rintro e w3 ⟨rfl, hb3⟩
  rw [HPV.out]
  unfold placeV
  go_wp2_with fail
  refine (place_any nm o ln cl w3).mono ?_
  rintro e w4 ⟨rfl, hb4⟩
  have hb5 : Below (w.alloc (.cells #[.string ⟨#[]⟩, .int .i64 0, .int .i64 0, .int .i64 0] 30)).heap.size (w.alloc (.cells #[.string ⟨#[]⟩, .int .i64 0, .int .i64 0, .int .i64 0] 30)) w4 := (hb.trans (hb3.mono hb.size)).trans (hb4.mono (Nat.le_trans hb.size hb3.size))
  have hn2 : w4.heap[w.heap.size]? = some (.cells #[.string ⟨#[]⟩, .int .i64 0, .int .i64 0, .int .i64 0] 30 (0, 0)) := (hb5.block w.heap.size (by simp)).trans (heap_new _ _)
  have HB4 : Below w.heap.size w w4 := HB.trans (hb5.mono (by simp))
  have d0 : w4.cell? ⟨w.heap.size, 0, none⟩ = some (.string ⟨#[]⟩) := by rw [cell_of hn2]; rfl
  have d1 : w4.cell? ⟨w.heap.size, 1, none⟩ = some (.int .i64 0) := by rw [cell_of hn2]; rfl
  have d2 : w4.cell? ⟨w.heap.size, 2, none⟩ = some (.int .i64 0) := by rw [cell_of hn2]; rfl
  have d3 : w4.cell? ⟨w.heap.size, 3, none⟩ = some (.int .i64 0) := by rw [cell_of hn2]; rfl
  have z0 := free_of hn2 0
  have z1 := free_of hn2 1
  have z2 := free_of hn2 2
  have z3 := free_of hn2 3
  clear hn2 hb hb3 hb4 hb5 HB HPV hF
  unfold placeV
  go_wp2
  refine bodyPost_ret (v := placeV nm o ln cl) (by simp [results, Tryz.results5, go_sem, d0, d1, d2, d3, placeV]) rfl ?_
  refine ⟨rfl, ?_⟩
  repeat (first | exact HB4 | refine Below.drew ?_ | refine Below.setCell ?_ (by exact Nat.le_refl _) _)

end Go.Proofs.YtmijedghihebjaaGreatFmt
