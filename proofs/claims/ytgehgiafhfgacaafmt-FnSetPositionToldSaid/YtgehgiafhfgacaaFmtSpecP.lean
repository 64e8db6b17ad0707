/- spec.LineOf, spec.Position. -/
import Derived.Test.YtgehgiafhfgacaaFmtPlace
import Derived.Deep.RegionHeld3
namespace Go.Proofs.YtgehgiafhfgacaaFmt
open Go.RowKit

theorem cnt_append (a b : List Int) (x : Int) : cnt (a ++ b) x = cnt a x + cnt b x := by simp [cnt]
theorem cnt_one (y x : Int) : cnt [y] x = if y ≤ x then 1 else 0 := by rw [cnt_cons]; simp [cnt]
theorem take_getD {ls : List Int} {i : Nat} (h : i < ls.length) : ls.take (i + 1) = ls.take i ++ [ls.getD i 0] := by
  rw [List.take_succ_eq_append_getElem h, List.getD_eq_getElem?_getD, List.getElem?_eq_getElem h]
  rfl

set_option maxRecDepth 100000 in
set_option maxHeartbeats 1000000 in
theorem lineOf_any (nm : ByteArray) (base size : Int) (la ya : Option Addr) (lc yn yc : Nat) (ls : List Int) (off : Int) (w : World) (hI : Ints w (.slice la ls.length lc) ls) (hlen : ls.length * 8 ≤ 140737488355328) :
    Calls Tryf.prog 40 #[.agg #[.string nm, .int .i64 base, .int .i64 size, .slice la ls.length lc, .slice ya yn yc], .int .i64 off] w fun e w' => e = .returned (.int .i64 (cnt ls off)) ∧ Below w.heap.size w w' := by
  have HB : Below w.heap.size w (w.alloc (.cells #[.string nm, .int .i64 base, .int .i64 size, .slice la ls.length lc, .slice ya yn yc] 26)) := (Below.refl _ _).alloc (Nat.le_refl _) _
  obtain ⟨a, cap, hav, hcell⟩ := Ints.cell (Reads.below hI HB)
  simp only [Value.slice.injEq] at hav
  obtain ⟨rfl, -, rfl⟩ := hav
  have HCl := Lib.hid hcell
  have f3 := cell_of (heap_new w (.cells #[.string nm, .int .i64 base, .int .i64 size, .slice la ls.length lc, .slice ya yn yc] 26)) 3
  simp only [List.getElem?_toArray, List.getElem?_cons_zero, List.getElem?_cons_succ] at f3
  clear hcell hI
  go_enter Tryf.func40, Tryf.ntmps40
  go_wp2_with fail
  generalize (w.alloc (.cells #[.string nm, .int .i64 base, .int .i64 size, .slice la ls.length lc, .slice ya yn yc] 26)) = w1 at *
  go_loopg [11, 5] ls.length (fun k v nv wr => ∃ i : Nat, v = .int .i64 i ∧ i ≤ ls.length ∧ k = ls.length - i ∧ nv = .int .i64 (cnt (ls.take i) off) ∧ wr = w1)
  case atStart => exact ⟨0, rfl, by omega, by omega, by simp [cnt], rfl⟩
  case round =>
    obtain ⟨i, rfl, hi, rfl, rfl, rfl⟩ := hrel
    by_cases hlt : i < ls.length
    · have hne : ¬ ls = [] := fun e => by rw [e] at hlt; simp at hlt
      obtain ⟨g, o, rfl, h⟩ := HCl.out.resolve_left hne
      have k1 := h i hlt
      have hcb := cnt_le (ls.take i) off
      have hct : (ls.take i).length ≤ i := List.length_take_le _ _
      have HT : Hid (cnt (ls.take (i + 1)) off = cnt (ls.take i) off + if ls.getD i 0 ≤ off then 1 else 0) := by
        show cnt (ls.take (i + 1)) off = _
        rw [take_getD hlt, cnt_append, cnt_one]
      obtain ⟨y, hy⟩ : ∃ y, y = ls.getD i 0 := ⟨_, rfl⟩
      rw [← hy] at k1 HT
      obtain ⟨c, hc⟩ : ∃ c, c = cnt (ls.take i) off := ⟨_, rfl⟩
      rw [← hc] at HT hcb ⊢
      clear hy hc h hne
      by_cases hle : y ≤ off
      · rw [if_pos hle] at HT
        go_wp2
        go_roundg (ls.length - (i + 1))
        case measure => omega
        case rel => exact ⟨i + 1, by go_num, by omega, rfl, by rw [HT.out]; go_num, rfl⟩
      · rw [if_neg hle, Nat.add_zero] at HT
        have hle' : off < y := by omega
        clear hle
        go_wp2
        go_roundg (ls.length - (i + 1))
        case measure => omega
        case rel => exact ⟨i + 1, by go_num, by omega, rfl, by rw [HT.out]; rfl, rfl⟩
    · have hi2 : i = ls.length := by omega
      subst hi2
      rw [List.take_length]
      have hns : ¬ ((ls.length : Int) < (ls.length : Int)) := by omega
      obtain ⟨c, hc⟩ : ∃ c, c = cnt ls off := ⟨_, rfl⟩
      rw [← hc]
      have HCQ := Lib.hid hc
      clear hlt hc
      go_wp2
      go_ret
      exact ⟨by rw [← HCQ.out]; rfl, HB⟩

theorem specPosition_zero (nm : ByteArray) (base size : Int) (la ya : Option Addr) (ln lc yn yc : Nat) (w : World) :
    Calls Tryf.prog 21 #[.agg #[.string nm, .int .i64 base, .int .i64 size, .slice la ln lc, .slice ya yn yc], .int .i64 0] w fun e w' => e = .returned (.agg #[.string ⟨#[]⟩, .int .i64 0, .int .i64 0, .int .i64 0]) ∧ Below w.heap.size w w' := by
  have HB : Below w.heap.size w ((w.alloc (.cells #[.string nm, .int .i64 base, .int .i64 size, .slice la ln lc, .slice ya yn yc] 26)).alloc (.cells #[.string ⟨#[]⟩, .int .i64 0, .int .i64 0, .int .i64 0] 52)) := ((Below.refl _ _).alloc (Nat.le_refl _) _).alloc (by simp) _
  have HB' := Lib.hid HB
  clear HB
  go_enter Tryf.func21, Tryf.ntmps21
  go_wp2
  refine bodyPost_ret (v := .agg #[.string ⟨#[]⟩, .int .i64 0, .int .i64 0, .int .i64 0]) (by simp [results, Tryf.results21, go_sem]) rfl ?_
  exact ⟨rfl, HB'.out⟩

set_option maxRecDepth 100000 in
set_option maxHeartbeats 1000000 in
theorem specPosition_good (m : MFile) (la ya : Option Addr) (lc yn yc : Nat) (p : Int) (w : World) (hI : Ints w (.slice la m.lines.length lc) m.lines) (hlen : m.lines.length * 8 ≤ 140737488355328) (hg : GoodL m.size m.lines) (hp : p ≠ 0)
    (g1 : 1 ≤ m.base) (g2 : m.base ≤ 1099511627776) (g3 : 0 ≤ m.size) (g4 : m.size ≤ 1099511627776) (g5 : -4398046511104 ≤ p) (g6 : p ≤ 4398046511104) :
    Calls Tryf.prog 21 #[.agg #[.string m.name, .int .i64 m.base, .int .i64 m.size, .slice la m.lines.length lc, .slice ya yn yc], .int .i64 p] w fun e w' => e = .returned (.agg #[.string m.name, .int .i64 (offP m p), .int .i64 (lnP m p), .int .i64 (clP m p)]) ∧ Below w.heap.size w w' := by
  obtain ⟨HB, N0, N1⟩ : Below w.heap.size w ((w.alloc (.cells #[.string m.name, .int .i64 m.base, .int .i64 m.size, .slice la m.lines.length lc, .slice ya yn yc] 26)).alloc (.cells #[.string ⟨#[]⟩, .int .i64 0, .int .i64 0, .int .i64 0] 52)) ∧
      ((w.alloc (.cells #[.string m.name, .int .i64 m.base, .int .i64 m.size, .slice la m.lines.length lc, .slice ya yn yc] 26)).alloc (.cells #[.string ⟨#[]⟩, .int .i64 0, .int .i64 0, .int .i64 0] 52)).heap[w.heap.size]? = some (.cells #[.string m.name, .int .i64 m.base, .int .i64 m.size, .slice la m.lines.length lc, .slice ya yn yc] 26 (0, 0)) ∧
      ((w.alloc (.cells #[.string m.name, .int .i64 m.base, .int .i64 m.size, .slice la m.lines.length lc, .slice ya yn yc] 26)).alloc (.cells #[.string ⟨#[]⟩, .int .i64 0, .int .i64 0, .int .i64 0] 52)).heap[w.heap.size + 1]? = some (.cells #[.string ⟨#[]⟩, .int .i64 0, .int .i64 0, .int .i64 0] 52 (0, 0)) := by
    refine ⟨((Below.refl _ _).alloc (Nat.le_refl _) _).alloc (by simp) _, ?_, ?_⟩
    · rw [heap_new_ne _ (by simp)]; exact heap_new _ _
    · have := heap_new (w.alloc (.cells #[.string m.name, .int .i64 m.base, .int .i64 m.size, .slice la m.lines.length lc, .slice ya yn yc] 26)) (.cells #[.string ⟨#[]⟩, .int .i64 0, .int .i64 0, .int .i64 0] 52)
      rwa [World.size_alloc] at this
  have hI1 := Reads.below hI HB
  have hob := offP_bd g3 p
  have hlb := lnP_bd hg g3 p
  have hsb := stP_bd hg g3 p
  have hp1 : (p == 0) = false := by simpa using hp
  have hp2 : (p != 0) = true := by simpa using hp
  have LO : Hid (∀ W, Below w.heap.size w W → Calls Tryf.prog 40 #[.agg #[.string m.name, .int .i64 m.base, .int .i64 m.size, .slice la m.lines.length lc, .slice ya yn yc], .int .i64 (offP m p)] W fun e w' => e = .returned (.int .i64 (lnP m p)) ∧ Below W.heap.size W w') := fun W hb => lineOf_any m.name m.base m.size la ya lc yn yc m.lines (offP m p) W (Reads.below hI hb) hlen
  have SO : Hid (∀ W, Calls Tryf.prog 39 #[.agg #[.string m.name, .int .i64 m.base, .int .i64 m.size, .slice la m.lines.length lc, .slice ya yn yc], .int .i64 p] W fun e w' => e = .returned (.int .i64 (offP m p)) ∧ Below W.heap.size W w') := fun W => specOffset_any m.name m.base m.size la ya m.lines.length lc yn yc p W (by omega) g2 g3 g4 g5 g6
  have hclq : clP m p = offP m p - stP m p + 1 := rfl
  obtain ⟨a, cap, hav, hcell⟩ := Ints.cell hI
  simp only [Value.slice.injEq] at hav
  obtain ⟨rfl, -, rfl⟩ := hav
  obtain ⟨g, o, rfl, hcl⟩ := hcell.resolve_left (fun e => by have := hg.pos; rw [e] at this; simp at this)
  obtain ⟨j, hj⟩ : ∃ j : Nat, cnt m.lines (offP m p) = j + 1 := ⟨cnt m.lines (offP m p) - 1, by unfold lnP at hlb; omega⟩
  have hjl : lnP m p = (j : Int) + 1 := by unfold lnP; omega
  have hjb : j < m.lines.length := by omega
  have hjm : j ≤ 17592186044416 := by omega
  have hst : stP m p = m.lines.getD j 0 := by unfold stP; rw [hj, Nat.add_sub_cancel]
  have hcj := hcl j hjb
  rw [← hst] at hcj
  rw [hclq, hjl]
  rw [hjl] at LO
  generalize offP m p = of at *
  generalize stP m p = st at *
  generalize m.lines.length = nl at *
  have hgl : g < w.heap.size := World.block_lt_of_cell? w _ hcj
  have HCJ : Hid (∀ W, Below w.heap.size w W → W.cell? ⟨g, o + j, none⟩ = some (.int .i64 st)) := fun W hb => (hb.cell (p := ⟨g, o + j, none⟩) hgl).trans hcj
  clear hcl hcell hcj hI1 hI hg hst hj hjl hclq hp hlen
  go_enter Tryf.func21, Tryf.ntmps21
  go_wp2_with fail
  generalize ((w.alloc (.cells #[.string m.name, .int .i64 m.base, .int .i64 m.size, .slice (some ⟨g, o, none⟩) nl lc, .slice ya yn yc] 26)).alloc (.cells #[.string ⟨#[]⟩, .int .i64 0, .int .i64 0, .int .i64 0] 52)) = w1 at *
  refine (SO.out w1).mono ?_
  rintro e w2 ⟨rfl, hb2⟩
  have M0 := (hb2.block _ (lt_of_heap N0)).trans N0
  have M1 := (hb2.block _ (lt_of_heap N1)).trans N1
  have hb3 : Below w.heap.size w w2 := HB.trans (hb2.mono HB.size)
  have x0 := cell_of M0 0
  have x1 := cell_of M0 1
  have x2 := cell_of M0 2
  have x3 := cell_of M0 3
  have x4 := cell_of M0 4
  simp only [List.getElem?_toArray, List.getElem?_cons_zero, List.getElem?_cons_succ] at x0 x1 x2 x3 x4
  clear SO N0 N1
  go_wp2_with fail
  refine (LO.out w2 hb3).mono ?_
  rintro e w3 ⟨rfl, hb4⟩
  have P0 := (hb4.block _ (lt_of_heap M0)).trans M0
  have P1 := (hb4.block _ (lt_of_heap M1)).trans M1
  have hb5 : Below w.heap.size w w3 := hb3.trans (hb4.mono hb3.size)
  have hcj := HCJ.out w3 hb5
  have hne1 : w.heap.size + 1 ≠ g := by omega
  have hne2 : ¬ g = w.heap.size + 1 := by omega
  have y0 := cell_of P0 0
  have y3 := cell_of P0 3
  have s0 := cell_of P1 0
  have s1 := cell_of P1 1
  have s2 := cell_of P1 2
  have s3 := cell_of P1 3
  simp only [List.getElem?_toArray, List.getElem?_cons_zero, List.getElem?_cons_succ] at y0 y3 s0 s1 s2 s3
  have z0 := free_of P1 0
  have z1 := free_of P1 1
  have z2 := free_of P1 2
  have z3 := free_of P1 3
  have q1 : (j : Int) < (nl : Int) := by omega
  have q2 : (0 : Int) ≤ (j : Int) := by omega
  have hnl : ∀ V, Chg (fun k => k = w.heap.size + 1) w3 V → Below w.heap.size w V := fun V K => K.below_of hb5 hb5.size (fun k h => by omega)
  have FIN := Lib.hid hnl
  have e1 : IntKind.i64.wrap (of - st) = of - st := IntWalk.i64_in _ (by omega)
  have e2 : IntKind.i64.wrap (of - st + 1) = of - st + 1 := IntWalk.i64_in _ (by omega)
  have e3 : IntKind.i64.wrap ((j : Int) + 1 - 1) = (j : Int) := by rw [IntWalk.i64_in _ (by omega)]; omega
  have e4 : (j : Int) + 1 - 1 = (j : Int) := by omega
  have e5 : IntKind.i64.wrap (j : Int) = (j : Int) := IntWalk.i64_in _ (by omega)
  have ne0 : ¬ w.heap.size = w.heap.size + 1 := by omega
  clear LO HCJ hb2 hb3 hb4 hb5 M0 M1 P0 P1 hnl x0 x1 x2 x3 x4
  go_wp2_with fail
  go_region_held3 (fun w' => w'.cell? ⟨w.heap.size, 0, none⟩ = some (.string m.name) ∧ w'.cell? ⟨w.heap.size, 3, none⟩ = some (.slice (some ⟨g, o, none⟩) nl lc) ∧ w'.cell? ⟨g, o + j, none⟩ = some (.int .i64 st))
    (first | exact ⟨y0, y3, hcj⟩ | go_keep)
    (fail)
  go_wp2
  refine bodyPost_ret (v := .agg #[.string m.name, .int .i64 of, .int .i64 ((j : Int) + 1), .int .i64 (of - st + 1)]) (by simp [results, Tryf.results21, go_sem, s0, s1, s2, s3]) rfl ?_
  refine ⟨rfl, FIN.out _ ?_⟩
  repeat (first | with_reducible exact Chg.refl _ _ | with_reducible refine Chg.set ?_ (by simp) _ | with_reducible refine Chg.drew ?_)
end Go.Proofs.YtgehgiafhfgacaaFmt
