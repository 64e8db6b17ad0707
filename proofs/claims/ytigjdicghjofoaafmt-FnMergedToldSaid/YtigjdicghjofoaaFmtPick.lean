/- impl.pick and the functions that ask one file. -/
import Derived.Test.YtigjdicghjofoaaFmtBuild
namespace Go.Proofs.YtigjdicghjofoaaFmt
open Go.RowKit Go.MuLone Go.RwLone

/-- Behind pick: file k. -/
def LeavesPick (m : MFile) (w : World) (e : Ending) (w' : World) : Prop :=
  ∃ fb lv, e = .returned (.pointer (some ⟨fb, 0, none⟩)) ∧ Below w.heap.size w w' ∧ w.heap.size ≤ fb ∧ FileSt w' w.heap.size fb m.name m.base m.size lv m.lines

set_option maxRecDepth 100000 in
theorem pick_any (fv : Value) (fs : List GFile) (k : Nat) (m : MFile) (w : World) (hf : Files w fv fs) (hv : validL fs) (hk : (madeL fs)[k]? = some m) : Calls Tryf.prog 30 #[fv, .int .i64 k] w (LeavesPick m w) := by
  have hkl : k < fs.length := by have := (List.getElem?_eq_some_iff.1 hk).1; rwa [madeL_length] at this
  have hlen := hf.1
  have HK := Lib.hid hk
  have HC := Lib.hid (build_any fv fs w hf hv)
  clear hk hf hv
  go_enter Tryf.func30, Tryf.ntmps30
  go_wp2_with fail
  refine HC.out.mono ?_
  rintro e w2 ⟨S, lv, tv, t, fbs, yvs, rfl, hB, hb⟩
  obtain ⟨fb, yv, lvl, h1, h2, h3, h4, h5⟩ := hB.each k m HK.out
  have own := hB.own
  have hfv : (fbs.map fbV)[k]? = some (fbV fb) := by rw [List.getElem?_map, h1]; rfl
  obtain ⟨ta, tc, rfl⟩ := owns_form hB.told
  rcases own.2 with ⟨rfl, h0⟩ | ⟨g, cap, cur, rfl, _⟩
  · omega
  have hc := own.cells (g := g) rfl k _ hfv
  rw [Addr.add_lit, Nat.zero_add] at hc
  have q1 : ¬ ((k : Int) < 0) := by omega
  have q2 : (k : Int) < (fs.length : Int) := by omega
  unfold fbV at hc
  clear HC HK hB own h1 h2 hfv h5
  go_wp2
  go_ret
  exact ⟨fb, lvl, rfl, hb, h3, h4⟩

theorem implOffset_any (fv : Value) (fs : List GFile) (k : Nat) (m : MFile) (p : Int) (w : World) (hf : Files w fv fs) (hv : validL fs) (hk : (madeL fs)[k]? = some m) (g5 : -4398046511104 ≤ p) (g6 : p ≤ 4398046511104) :
    Calls Tryf.prog 17 #[fv, .int .i64 k, .int .i64 p] w fun e w' => e = .returned (.int .i64 (fixOff m.size (p - m.base))) ∧ Below w.heap.size w w' := by
  obtain ⟨v1, v2, v3, v4, v5⟩ := (valid_bounds hv).2 m (List.mem_of_getElem? hk)
  have HC := Lib.hid (pick_any fv fs k m w hf hv hk)
  clear hf hv hk
  go_enter Tryf.func17, Tryf.ntmps17
  go_wp2_with fail
  refine HC.out.mono ?_
  rintro e w2 ⟨fb, lv, rfl, hb, hB, hF⟩
  clear HC
  go_wp2_with fail
  refine (fileOffset_any fb m.name m.base m.size lv p w2 hF.file (by omega) v4 v2 g5 g6).mono ?_
  rintro e w3 ⟨rfl, rfl⟩
  go_wp2
  go_ret
  exact ⟨rfl, hb⟩

theorem implPos_any (fv : Value) (fs : List GFile) (k : Nat) (m : MFile) (p : Int) (w : World) (hf : Files w fv fs) (hv : validL fs) (hk : (madeL fs)[k]? = some m) :
    Calls Tryf.prog 16 #[fv, .int .i64 k, .int .i64 p] w fun e w' => e = .returned (.int .i64 (m.base + fixOff m.size p)) ∧ Below w.heap.size w w' := by
  obtain ⟨v1, v2, v3, v4, v5⟩ := (valid_bounds hv).2 m (List.mem_of_getElem? hk)
  have HC := Lib.hid (pick_any fv fs k m w hf hv hk)
  clear hf hv hk
  go_enter Tryf.func16, Tryf.ntmps16
  go_wp2_with fail
  refine HC.out.mono ?_
  rintro e w2 ⟨fb, lv, rfl, hb, hB, hF⟩
  clear HC
  go_wp2_with fail
  refine (filePos_any fb m.name m.base m.size lv p w2 hF.file (by omega) v4 v2 v3).mono ?_
  rintro e w3 ⟨rfl, n, rfl⟩
  go_wp2
  go_ret
  exact ⟨rfl, below_drewN hb n⟩

theorem implLine_any (fv : Value) (fs : List GFile) (k : Nat) (m : MFile) (p : Int) (w : World) (hf : Files w fv fs) (hv : validL fs) (hk : (madeL fs)[k]? = some m) (g5 : -4398046511104 ≤ p) (g6 : p ≤ 4398046511104) :
    Calls Tryf.prog 25 #[fv, .int .i64 k, .int .i64 p] w fun e w' => e = .returned (lineV (placeOf m.name m.base m.size m.lines p)) ∧ Below w.heap.size w w' := by
  obtain ⟨v1, v2, v3, v4, v5⟩ := (valid_bounds hv).2 m (List.mem_of_getElem? hk)
  have HC := Lib.hid (pick_any fv fs k m w hf hv hk)
  clear hf hv hk
  obtain ⟨lw, hlw⟩ : ∃ lw, lw = lineV (placeOf m.name m.base m.size m.lines p) := ⟨_, rfl⟩
  rw [← hlw]
  have HL := Lib.hid hlw
  clear hlw
  go_enter Tryf.func25, Tryf.ntmps25
  go_wp2_with fail
  refine HC.out.mono ?_
  rintro e w2 ⟨fb, lv, rfl, hb, hB, hF⟩
  clear HC
  go_wp2_with fail
  refine (line_any w.heap.size fb m.name m.base m.size lv m.lines p w2 hF (by omega) v4 v2 v3 g5 g6).mono ?_
  rintro e w3 ⟨rfl, hb3⟩
  have hb4 := hb.trans (hb3.mono hb.size)
  rw [← HL.out]
  clear hF hb3 hb
  go_wp2
  go_ret
  exact ⟨rfl, hb4⟩

theorem up1 : wrap32 (0 + 1) = 1 := by first | decide | rfl | (unfold wrap32; rfl) | (simp [wrap32])
theorem down1 : wrap32 (1 + -1) = 0 := by first | decide | rfl | (unfold wrap32; rfl) | (simp [wrap32])

set_option maxRecDepth 100000 in
theorem setBase_any (S : Nat) (base : Int) (t : T) (last : Option Nat) (w : World) (H : SetSt w S base t last) : Calls Tryf.prog 37 #[.pointer (some ⟨S, 0, none⟩)] w fun e w' => e = .returned (.int .i64 base) ∧ Chg (fun k => k = S) w w' := by
  have HS : setIs w S (.int .i32 0) (.int .u32 0) (.int .u32 0) (.int .u32 0) (.int .i32 0) (.int .i32 0) base t.root last := H.set
  clear H
  go_enter Tryf.func37, Tryf.ntmps37
  go_wp2_with fail
  refine (rlock_open Tryf.rwRLib S 0 0 (.int .i32 0) (.int .u32 0) _ (by rw [cell_of HS]; rfl) (by rw [cell_of HS]; rfl) (by rw [cell_of HS]; rfl) (free_of HS _) (by rw [up1]; decide)).mono ?_
  rintro e w1 ⟨rfl, hw1⟩
  rw [up1] at hw1
  have K1 : Chg (fun k => k = S) w w1 := by rw [hw1]; refine Chg.set (Chg.refl _ _) ?_ _; simp
  have HS1 : setIs w1 S (.int .i32 0) (.int .u32 0) (.int .u32 0) (.int .u32 0) (.int .i32 1) (.int .i32 0) base t.root last := by rw [hw1]; exact (heap_set HS 4 _).trans rfl
  have c6 : w1.cell? ⟨S, 6, none⟩ = some (.int .i64 base) := by rw [cell_of HS1]; rfl
  clear hw1 HS
  go_wp2_with fail
  refine (runlock_held Tryf.rwRLib S 0 1 (.int .i32 0) (.int .u32 0) _ (by rw [cell_of HS1]; rfl) (by rw [cell_of HS1]; rfl) (by rw [cell_of HS1]; rfl) (free_of HS1 _) (by rw [down1]; decide)).mono ?_
  rintro e w2 ⟨rfl, hw2⟩
  have K2 : Chg (fun k => k = S) w w2 := by rw [hw2]; refine Chg.set K1 ?_ _; simp
  clear hw2 HS1 K1 c6
  go_wp2
  go_ret
  exact ⟨rfl, K2⟩

theorem implSetBase_any (fv : Value) (fs : List GFile) (w : World) (hf : Files w fv fs) (hv : validL fs) : Calls Tryf.prog 19 #[fv] w fun e w' => e = .returned (.int .i64 (baseOf fs)) ∧ Below w.heap.size w w' := by
  have HC := Lib.hid (build_any fv fs w hf hv)
  clear hf hv
  go_enter Tryf.func19, Tryf.ntmps19
  go_wp2_with fail
  refine HC.out.mono ?_
  rintro e w2 ⟨S, lv, tv, t, fbs, yvs, rfl, hB, hb⟩
  obtain ⟨la, lc, rfl⟩ := owns_form hB.own
  obtain ⟨ta, tc, rfl⟩ := owns_form hB.told
  have HH := hB.set
  have hS := hB.hS
  have hsz := hb.size
  clear HC hB
  go_wp2_with fail
  refine (setBase_any S (baseOf fs) t _ w2 HH).mono ?_
  rintro e w3 ⟨rfl, K3⟩
  have hb3 : Below w.heap.size w w3 := K3.below_of hb hsz (fun k h => by omega)
  clear HH K3 hb
  go_wp2
  go_ret
  exact ⟨rfl, hb3⟩

theorem place_any (nm : ByteArray) (o ln cl : Int) (w : World) : Calls Tryf.prog 40 #[placeV nm o ln cl] w fun e w' => e = .returned (placeV nm o ln cl) ∧ Below w.heap.size w w' := by
  have HB : Below w.heap.size w ((w.alloc (.cells #[.string nm, .int .i64 o, .int .i64 ln, .int .i64 cl] 75)).alloc (.cells #[.string nm, .int .i64 o, .int .i64 ln, .int .i64 cl] 43)) := ((Below.refl _ _).alloc (Nat.le_refl _) _).alloc (by simp) _
  unfold placeV
  go_enter Tryf.func40, Tryf.ntmps40
  go_wp2
  refine bodyPost_ret (v := placeV nm o ln cl) (by simp [results, Tryf.results40, go_sem, placeV]) rfl ?_
  exact ⟨rfl, HB⟩

set_option maxRecDepth 100000 in
theorem implPosition_at (fv : Value) (fs : List GFile) (k : Nat) (m : MFile) (p : Int) (w : World) (hf : Files w fv fs) (hv : validL fs) (hk : (madeL fs)[k]? = some m) (g5 : -4398046511104 ≤ p) (g6 : p ≤ 4398046511104) :
    Calls Tryf.prog 29 #[fv, .int .i64 k, .int .i64 p] w fun e w' => e = .returned (placeOf m.name m.base m.size m.lines p) ∧ Below w.heap.size w w' := by
  obtain ⟨v1, v2, v3, v4, v5⟩ := (valid_bounds hv).2 m (List.mem_of_getElem? hk)
  have HB : Below w.heap.size w (w.alloc (.cells #[.string ⟨#[]⟩, .int .i64 0, .int .i64 0, .int .i64 0] 43)) := (Below.refl _ _).alloc (Nat.le_refl _) _
  have HC := Lib.hid (pick_any fv fs k m _ (hf.below HB) hv hk)
  obtain ⟨nm, o, ln, cl, hpv⟩ := placeOf_form m.name m.base m.size m.lines p
  rw [hpv]
  have HPV := Lib.hid hpv
  clear hf hv hk hpv
  go_enter Tryf.func29, Tryf.ntmps29
  go_wp2_with fail
  refine HC.out.mono ?_
  rintro e w2 ⟨fb, lv, rfl, hb, hB, hF⟩
  clear HC
  go_wp2_with fail
  refine (filePosition_any _ fb m.name m.base m.size lv m.lines p w2 hF (by omega) v4 v2 v3 g5 g6).mono ?_
  rintro e w3 ⟨rfl, hb3⟩
  rw [HPV.out]
  unfold placeV
  go_wp2_with fail
  refine (place_any nm o ln cl w3).mono ?_
  rintro e w4 ⟨rfl, hb4⟩
  have hb5 : Below (w.alloc (.cells #[.string ⟨#[]⟩, .int .i64 0, .int .i64 0, .int .i64 0] 43)).heap.size (w.alloc (.cells #[.string ⟨#[]⟩, .int .i64 0, .int .i64 0, .int .i64 0] 43)) w4 := (hb.trans (hb3.mono hb.size)).trans (hb4.mono (Nat.le_trans hb.size hb3.size))
  have hn2 : w4.heap[w.heap.size]? = some (.cells #[.string ⟨#[]⟩, .int .i64 0, .int .i64 0, .int .i64 0] 43 (0, 0)) := (hb5.block w.heap.size (by simp)).trans (heap_new _ _)
  have HB4 : Below w.heap.size w w4 := HB.trans (hb5.mono (by simp))
  have d0 : w4.cell? ⟨w.heap.size, 0, none⟩ = some (.string ⟨#[]⟩) := by rw [cell_of hn2]; rfl
  have d1 : w4.cell? ⟨w.heap.size, 1, none⟩ = some (.int .i64 0) := by rw [cell_of hn2]; rfl
  have d2 : w4.cell? ⟨w.heap.size, 2, none⟩ = some (.int .i64 0) := by rw [cell_of hn2]; rfl
  have d3 : w4.cell? ⟨w.heap.size, 3, none⟩ = some (.int .i64 0) := by rw [cell_of hn2]; rfl
  have z0 := free_of hn2 0
  have z1 := free_of hn2 1
  have z2 := free_of hn2 2
  have z3 := free_of hn2 3
  clear hn2 hb hb3 hb4 hb5 HB HPV hF
  unfold placeV
  go_wp2
  refine bodyPost_ret (v := placeV nm o ln cl) (by simp [results, Tryf.results29, go_sem, d0, d1, d2, d3, placeV]) rfl ?_
  refine ⟨rfl, ?_⟩
  repeat (first | exact HB4 | refine Below.drew ?_ | refine Below.setCell ?_ (by exact Nat.le_refl _) _)

end Go.Proofs.YtigjdicghjofoaaFmt
