/- The methods of go/token's File that only read: Lines, LineCount, searchInts, unpack, position, Position, Offset, Pos. -/
import Derived.Test.YtmijedghihebjaaGreatFmtSet
import Derived.LoopTactic
namespace Go.Proofs.YtmijedghihebjaaGreatFmt
open Go.RowKit Go.MuLone Go.RwLone

theorem setCell_back {w : World} {a : Addr} {u : Value} (v : Value) (h : w.cell? a = some u) : (w.setCell a v).setCell a u = w := by
  have hh : ((w.setCell a v).setCell a u).heap = w.heap := by
    apply Array.ext_getElem?
    intro i
    simp only [World.setCell, Array.getElem?_modify]
    by_cases hi : a.block = i
    · subst hi
      unfold World.cell? at h
      cases hb : w.heap[a.block]? with
      | none => simp [hb] at h
      | some o =>
        cases o with
        | cells c t fr =>
          simp only [hb] at h
          split at h
          · simp at h
          · rename_i hs
            simp only [if_true, Option.map_some, hs, if_false, Bool.false_eq_true]
            congr 2
            apply Array.ext_getElem?
            intro j
            simp only [Array.getElem?_setIfInBounds]
            by_cases hj : a.off = j
            · subst hj
              obtain ⟨h1, h2⟩ := Array.getElem?_eq_some_iff.1 h
              simp [h1, h2]
            · simp [hj]
        | _ => simp [hb] at h
    · simp [hi]
  show { (w.setCell a v).setCell a u with heap := ((w.setCell a v).setCell a u).heap } = w
  rw [hh]
  rfl

/-- A file at rest: its lock is free, no alternative positions. -/
def fileOK (w : World) (fb : Nat) (name : ByteArray) (base size : Int) (lv : Value) : Prop := fileIs w fb name base size (.int .i32 0) (.int .u32 0) lv (.slice none 0 0)

section
variable {w : World} {fb : Nat} {name : ByteArray} {base size : Int} {lv : Value}
theorem fileOK.c0 (H : fileOK w fb name base size lv) : w.cell? ⟨fb, 0, none⟩ = some (.string name) := by rw [cell_of H]; rfl
theorem fileOK.c1 (H : fileOK w fb name base size lv) : w.cell? ⟨fb, 1, none⟩ = some (.int .i64 base) := by rw [cell_of H]; rfl
theorem fileOK.c2 (H : fileOK w fb name base size lv) : w.cell? ⟨fb, 2, none⟩ = some (.int .i64 size) := by rw [cell_of H]; rfl
theorem fileOK.c3 (H : fileOK w fb name base size lv) : w.cell? ⟨fb, 3, none⟩ = some (.int .i32 0) := by rw [cell_of H]; rfl
theorem fileOK.c5 (H : fileOK w fb name base size lv) : w.cell? ⟨fb, 5, none⟩ = some lv := by rw [cell_of H]; rfl
theorem fileOK.c6 (H : fileOK w fb name base size lv) : w.cell? ⟨fb, 6, none⟩ = some (.slice none 0 0) := by rw [cell_of H]; rfl
theorem fileOK.fz (H : fileOK w fb name base size lv) (i : Nat) : w.frozen? ⟨fb, i, none⟩ = false := free_of H i
theorem fileOK.chg {M : Nat → Prop} {w' : World} (H : fileOK w fb name base size lv) (hc : Chg M w w') (hm : ¬ M fb) : fileOK w' fb name base size lv := hc.at H hm
end

/-- The form of an owned slice. -/
theorem owns_form {w : World} {B : Nat} {e : TypeId} {v : Value} {n : Nat} {xs : List Value} (h : w.ownsRow B e 1 v n xs) : ∃ a cap, v = .slice a n cap := by
  rcases h.2 with ⟨rfl, rfl⟩ | ⟨g, cap, cur, rfl, _⟩
  · exact ⟨_, _, rfl⟩
  · exact ⟨_, _, rfl⟩

theorem name_any (fb : Nat) (name : ByteArray) (base size : Int) (lv : Value) (w : World) (H : fileOK w fb name base size lv) : Calls Tryz.prog 57 #[.pointer (some ⟨fb, 0, none⟩)] w fun e w' => e = .returned (.string name) ∧ w = w' := by
  have c := H.c0
  go_enter Tryz.func57, Tryz.ntmps57
  go_wp2
  go_ret
  exact ⟨rfl, rfl⟩
theorem base_any (fb : Nat) (name : ByteArray) (base size : Int) (lv : Value) (w : World) (H : fileOK w fb name base size lv) : Calls Tryz.prog 58 #[.pointer (some ⟨fb, 0, none⟩)] w fun e w' => e = .returned (.int .i64 base) ∧ w = w' := by
  have c := H.c1
  go_enter Tryz.func58, Tryz.ntmps58
  go_wp2
  go_ret
  exact ⟨rfl, rfl⟩
/-- An offset, brought into a file's bounds. -/
def fixOff (size offset : Int) : Int := max (min size offset) 0

theorem fixOffset_any (fb : Nat) (name : ByteArray) (base size offset : Int) (lv : Value) (w : World) (H : fileOK w fb name base size lv) (g : 0 ≤ size) :
    Calls Tryz.prog 38 #[.pointer (some ⟨fb, 0, none⟩), .int .i64 offset] w fun e w' => e = .returned (.int .i64 (fixOff size offset)) ∧ w' = w := by
  have c2 := H.c2
  have HV : Hid (∀ v, fixOff size offset = v → Ending.returned (.int .i64 v) = .returned (.int .i64 (fixOff size offset))) := fun v h => by rw [h]
  rcases Int.lt_or_le offset size with h1 | h1
  · rcases Int.lt_or_le offset 0 with h2 | h2
    · go_enter Tryz.func38, Tryz.ntmps38
      go_wp2
      go_ret
      exact ⟨HV.out _ (by unfold fixOff; omega), rfl⟩
    · go_enter Tryz.func38, Tryz.ntmps38
      go_wp2
      all_goals go_ret
      all_goals exact ⟨HV.out _ (by unfold fixOff; omega), rfl⟩
  · go_enter Tryz.func38, Tryz.ntmps38
    go_wp2
    all_goals go_ret
    all_goals exact ⟨HV.out _ (by unfold fixOff; omega), rfl⟩

/-- How many lines begin up to x. -/
def cnt (ls : List Int) (x : Int) : Nat := (ls.filter fun y => decide (y ≤ x)).length
def Inc (ls : List Int) : Prop := ls.Pairwise (· < ·)

theorem cnt_le (ls : List Int) (x : Int) : cnt ls x ≤ ls.length := List.length_filter_le _ _

theorem cnt_zero_of {ls : List Int} {x : Int} (h : ∀ y ∈ ls, x < y) : cnt ls x = 0 := by
  unfold cnt
  rw [List.length_eq_zero_iff, List.filter_eq_nil_iff]
  intro y hy
  have := h y hy
  simp
  omega

theorem cnt_cons (y : Int) (ys : List Int) (x : Int) : cnt (y :: ys) x = (if y ≤ x then 1 else 0) + cnt ys x := by
  unfold cnt
  by_cases h : y ≤ x <;> simp [h]
  omega

theorem cnt_iff {ls : List Int} (hi : Inc ls) (x : Int) : ∀ h, h < ls.length → (ls.getD h 0 ≤ x ↔ h < cnt ls x) := by
  induction ls with
  | nil => intro h hh; simp at hh
  | cons y ys ih =>
    intro h hh
    obtain ⟨h1, h2⟩ := List.pairwise_cons.1 hi
    rw [cnt_cons]
    by_cases hy : y ≤ x
    · rw [if_pos hy]
      cases h with
      | zero => simp [hy]; omega
      | succ h => simp only [List.getD_cons_succ]; rw [ih h2 h (by simpa using hh)]; omega
    · rw [if_neg hy, cnt_zero_of (fun z hz => by have := h1 z hz; omega)]
      cases h with
      | zero => simp; omega
      | succ h =>
        simp only [List.getD_cons_succ]
        have : ys.getD h 0 ∈ ys := by rw [List.getD_eq_getElem?_getD, List.getElem?_eq_getElem (by simpa using hh)]; simp
        have := h1 _ this
        omega
end Go.Proofs.YtmijedghihebjaaGreatFmt
