/- SetLines. -/
import Derived.Test.YtmijedghihebjaaGreatFmtInts
namespace Go.Proofs.YtmijedghihebjaaGreatFmt
open Go.RowKit Go.MuLone Go.RwLone

/-- Offset j of a list of lines is greater than the one before it and less than the size. -/
def good (size : Int) (ls : List Int) (j : Nat) : Prop := ls.getD j 0 < size ∧ (0 < j → ls.getD (j - 1) 0 < ls.getD j 0)
instance (size : Int) (ls : List Int) (j : Nat) : Decidable (good size ls j) := by unfold good; exact inferInstance
def rise (size : Int) (ls : List Int) : Bool := decide (∀ j, j < ls.length → good size ls j)

theorem rise_true {size : Int} {ls : List Int} (h : ∀ j, j < ls.length → good size ls j) : rise size ls = true := by simpa [rise] using h
theorem rise_false {size : Int} {ls : List Int} {j : Nat} (hj : j < ls.length) (h : ¬ good size ls j) : rise size ls = false := by
  unfold rise
  rw [decide_eq_false_iff_not]
  exact fun hall => h (hall j hj)
theorem rise_good {size : Int} {ls : List Int} (h : rise size ls = true) : ∀ j, j < ls.length → good size ls j := by simpa [rise] using h

theorem rise_inc {size : Int} {ls : List Int} (h : rise size ls = true) : Inc ls := by
  have hg := rise_good h
  unfold Inc
  rw [List.pairwise_iff_getElem]
  intro i j hi hj hij
  obtain ⟨d, rfl⟩ : ∃ d, j = i + 1 + d := ⟨j - (i + 1), by omega⟩
  induction d with
  | zero =>
    have := (hg (i + 1) hj).2 (by omega)
    simp only [List.getD_eq_getElem?_getD, Nat.add_sub_cancel] at this
    rw [List.getElem?_eq_getElem hi, List.getElem?_eq_getElem (by omega)] at this
    simpa using this
  | succ d ih =>
    have h1 := ih (by omega) (by omega)
    have := (hg (i + 1 + (d + 1)) hj).2 (by omega)
    simp only [List.getD_eq_getElem?_getD] at this
    rw [List.getElem?_eq_getElem hj, List.getElem?_eq_getElem (show i + 1 + (d + 1) - 1 < ls.length by omega)] at this
    simp only [Option.getD_some] at this
    have e : ls[i + 1 + (d + 1) - 1]'(by omega) = ls[i + 1 + d]'(by omega) := by congr 1
    omega

theorem inc_nneg {ls : List Int} (h : Inc ls) (h0 : ls = [] ∨ ls.getD 0 0 = 0) : ∀ y ∈ ls, 0 ≤ y := by
  intro y hy
  obtain ⟨k, hk, rfl⟩ := List.getElem_of_mem hy
  rcases h0 with rfl | h0
  · simp at hk
  · rw [List.getD_eq_getElem?_getD, List.getElem?_eq_getElem (by omega)] at h0
    simp at h0
    rcases Nat.eq_zero_or_pos k with rfl | hp
    · omega
    · have := List.pairwise_iff_getElem.1 h 0 k (by omega) hk hp
      omega

/-- What SetLines leaves. -/
def LeavesSet (B fb : Nat) (name : ByteArray) (base size : Int) (ls nls : List Int) (w : World) (e : Ending) (w' : World) : Prop :=
  e = .returned (.bool (rise size nls)) ∧ (∃ lv', FileSt w' B fb name base size lv' (if rise size nls then nls else ls)) ∧ Chg (fun k => k = fb) w w'

set_option maxRecDepth 100000 in
set_option maxHeartbeats 1000000 in
theorem setLines_any (B fb : Nat) (name : ByteArray) (base size : Int) (lv nv : Value) (ls nls : List Int) (w : World) (H : FileSt w B fb name base size lv ls) (ho : w.ownsRow B 3 1 nv nls.length (nls.map (Value.int .i64)))
    (hlen : nls.length ≤ 140737488355328) (h0 : nls = [] ∨ nls.getD 0 0 = 0) :
    Calls Tryz.prog 36 #[.pointer (some ⟨fb, 0, none⟩), nv] w (LeavesSet B fb name base size ls nls w) := by
  have hfb : fb < w.heap.size := lt_of_heap H.file
  obtain ⟨a, cap, rfl⟩ := owns_form ho
  obtain ⟨a', cap', hv', hcell⟩ := Ints.cell (owns_reads ho)
  simp at hv'
  obtain ⟨rfl, rfl⟩ := hv'
  have HC := Lib.hid hcell
  have HO := Lib.hid ho
  have HH := Lib.hid H
  have H0 := Lib.hid h0
  have c2 := H.file.c2
  have c3 := H.file.c3
  have f3 := H.file.fz 3
  clear hcell ho H h0
  go_enter Tryz.func36, Tryz.ntmps36
  go_wp2_with fail
  go_loopg [14] nls.length (fun k v wr => ∃ i : Nat, v = .int .i64 i ∧ i ≤ nls.length ∧ k = nls.length - i ∧ wr = w ∧ ∀ j, j < i → good size nls j)
  case atStart => exact ⟨0, rfl, by omega, by omega, rfl, fun j hj => by omega⟩
  case round =>
    obtain ⟨i, rfl, hi, rfl, rfl, hg⟩ := hrel
    have HG := Lib.hid hg
    clear hg
    by_cases hlt : i < nls.length
    · have hne : ¬ nls = [] := fun e => by rw [e] at hlt; simp at hlt
      obtain ⟨g, o, rfl, h⟩ := HC.out.resolve_left hne
      have k1 := h i hlt
      obtain ⟨y, hy⟩ : ∃ y, y = nls.getD i 0 := ⟨_, rfl⟩
      rw [← hy] at k1
      have HY := Lib.hid hy
      clear hy hne
      have fin : Hid (good size nls i → ∀ j, j < i + 1 → good size nls j) := fun hgi j hj => by
        rcases Nat.lt_or_ge j i with h' | h'
        · exact HG.out j h'
        · have : j = i := by omega
          rw [this]; exact hgi
      have bad : Hid (¬ good size nls i → LeavesSet B fb name base size ls nls wr (.returned (.bool false)) wr) := fun hng => by
        have hr := rise_false hlt hng
        refine ⟨by rw [hr], ⟨lv, ?_⟩, Chg.refl _ _⟩
        rw [hr]; exact HH.out
      cases i with
      | zero =>
        clear h
        rw [Nat.add_zero] at k1
        rw [show ((0 : Nat) : Int) = 0 from rfl]
        by_cases h1 : y < size
        · have hgi : good size nls 0 := ⟨by rw [← HY.out]; exact h1, fun h => by omega⟩
          have FIN := Lib.hid (fin.out hgi)
          clear hgi bad fin
          go_wp2
          go_roundg (nls.length - 1)
          case measure => omega
          case rel => exact ⟨1, rfl, by omega, rfl, rfl, FIN.out⟩
        · have hng : ¬ good size nls 0 := fun hh => h1 (by have := hh.1; rw [← HY.out] at this; exact this)
          have BAD := Lib.hid (bad.out hng)
          have h1' : size ≤ y := by omega
          clear hng bad fin h1
          go_wp2
          go_ret
          exact BAD.out
      | succ m =>
        have k2 := h m (by omega)
        obtain ⟨z, hz⟩ : ∃ z, z = nls.getD m 0 := ⟨_, rfl⟩
        rw [← hz] at k2
        have HZ := Lib.hid hz
        clear hz h
        rw [show ((m + 1 : Nat) : Int) = (m : Int) + 1 by omega]
        by_cases h1 : z < y
        · by_cases h2 : y < size
          · have hgi : good size nls (m + 1) := ⟨by rw [← HY.out]; exact h2, fun _ => by rw [Nat.add_sub_cancel, ← HY.out, ← HZ.out]; exact h1⟩
            have FIN := Lib.hid (fin.out hgi)
            clear hgi bad fin
            go_wp2
            go_roundg (nls.length - (m + 2))
            case measure => omega
            case rel => exact ⟨m + 2, by go_num, by omega, rfl, rfl, FIN.out⟩
          · have hng : ¬ good size nls (m + 1) := fun hh => h2 (by have := hh.1; rw [← HY.out] at this; exact this)
            have BAD := Lib.hid (bad.out hng)
            have h2' : size ≤ y := by omega
            clear hng bad fin h2
            go_wp2
            go_ret
            exact BAD.out
        · have hng : ¬ good size nls (m + 1) := fun hh => h1 (by have := hh.2 (by omega); rw [Nat.add_sub_cancel, ← HY.out, ← HZ.out] at this; exact this)
          have BAD := Lib.hid (bad.out hng)
          have h1' : y ≤ z := by omega
          clear hng bad fin h1
          go_wp2
          go_ret
          exact BAD.out
    · have hi2 : i = nls.length := by omega
      subst hi2
      have hr := rise_true HG.out
      have hinc := rise_inc hr
      have own := HO.out
      have F := HH.out.file
      have fin : Hid (∀ w', fileOK w' fb name base size (.slice a nls.length cap) → Chg (fun k => k = fb) wr w' → LeavesSet B fb name base size ls nls wr (.returned (.bool true)) w') := fun w' hF hK => by
        refine ⟨by rw [hr], ⟨.slice a nls.length cap, ?_⟩, hK⟩
        rw [hr]
        exact ⟨hF, owns_chg own hK (owns_ne own F (by decide)), hinc, inc_nneg hinc H0.out, hlen⟩
      have hlt2 : ¬ ((nls.length : Int) < (nls.length : Int)) := by omega
      clear hr hinc own hlt HG
      have F1 : fileIs (wr.setCell ⟨fb, 3, none⟩ (.int .i32 1)) fb name base size (.int .i32 1) (.int .u32 0) lv (.slice none 0 0) := (heap_set F 3 _).trans rfl
      have F2 : fileIs ((wr.setCell ⟨fb, 3, none⟩ (.int .i32 1)).setCell ⟨fb, 5, none⟩ (.slice a nls.length cap)) fb name base size (.int .i32 1) (.int .u32 0) (.slice a nls.length cap) (.slice none 0 0) := (heap_set F1 5 _).trans rfl
      have F3 : fileIs (((wr.setCell ⟨fb, 3, none⟩ (.int .i32 1)).setCell ⟨fb, 5, none⟩ (.slice a nls.length cap)).setCell ⟨fb, 3, none⟩ (.int .i32 0)) fb name base size (.int .i32 0) (.int .u32 0) (.slice a nls.length cap) (.slice none 0 0) := (heap_set F2 3 _).trans rfl
      have K3 : Chg (fun k => k = fb) wr (((wr.setCell ⟨fb, 3, none⟩ (.int .i32 1)).setCell ⟨fb, 5, none⟩ (.slice a nls.length cap)).setCell ⟨fb, 3, none⟩ (.int .i32 0)) := by
        refine Chg.set (Chg.set (Chg.set (Chg.refl _ _) ?_ _) ?_ _) ?_ _ <;> simp
      have FIN := Lib.hid (fin.out _ F3 K3)
      have d5 : (wr.setCell ⟨fb, 3, none⟩ (.int .i32 1)).cell? ⟨fb, 5, none⟩ = some lv := by rw [cell_of F1]; rfl
      have z5 := free_of F1 5
      have d3 : ((wr.setCell ⟨fb, 3, none⟩ (.int .i32 1)).setCell ⟨fb, 5, none⟩ (.slice a nls.length cap)).cell? ⟨fb, 3, none⟩ = some (.int .i32 1) := by rw [cell_of F2]; rfl
      have z3 := free_of F2 3
      clear fin F3 K3 F
      go_wp2_with fail
      refine (lock_free Tryz.muLib ⟨fb, 3, none⟩ _ c3 f3).mono ?_
      rintro e w1 ⟨rfl, rfl⟩
      go_wp2_with fail
      refine (unlock_held Tryz.muLib ⟨fb, 3, none⟩ _ d3 z3).mono ?_
      rintro e w1 ⟨rfl, rfl⟩
      go_wp2
      go_ret
      exact FIN.out
end Go.Proofs.YtmijedghihebjaaGreatFmt
