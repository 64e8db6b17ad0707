/- spec.FileAt. -/
import Derived.Test.YtigjdicghjofoaaFmtPlace
namespace Go.Proofs.YtigjdicghjofoaaFmt
open Go.RowKit

/-- The index of the file in which p is; -1 if it is in none. -/
def FileIdx (ms : List MFile) (p : Int) (r : Int) : Prop :=
  (r = -1 ∧ ∀ m ∈ ms, p < m.base ∨ m.base + m.size < p) ∨ ∃ (k : Nat) (m : MFile), r = (k : Int) ∧ ms[k]? = some m ∧ m.base ≤ p ∧ p ≤ m.base + m.size
def LeavesIdx (ms : List MFile) (p : Int) (w : World) (e : Ending) (w' : World) : Prop := ∃ r : Int, e = .returned (.int .i64 r) ∧ FileIdx ms p r ∧ Below w.heap.size w w'

set_option maxRecDepth 100000 in
set_option maxHeartbeats 1000000 in
theorem specFileAt_any (v : Value) (ms : List MFile) (p : Int) (w : World) (hM : Mades w v ms) (hb : ∀ m ∈ ms, 0 ≤ m.size ∧ m.size ≤ 1099511627776 ∧ 0 ≤ m.base ∧ m.base ≤ 1099511627776) :
    Calls Tryf.prog 23 #[v, .int .i64 p] w (LeavesIdx ms p w) := by
  have hlen := hM.1
  obtain ⟨a, c, rfl, _⟩ := hM.cell
  have HM := Lib.hid hM
  have HB := Lib.hid hb
  clear hM hb
  go_enter Tryf.func23, Tryf.ntmps23
  go_wp2_with fail
  go_loopg [9] ms.length (fun k v wr => ∃ i : Nat, v = .int .i64 i ∧ i ≤ ms.length ∧ k = ms.length - i ∧ Below w.heap.size w wr ∧ ∀ m ∈ ms.take i, p < m.base ∨ m.base + m.size < p)
  case atStart => exact ⟨0, rfl, by omega, by omega, Below.refl _ _, by simp⟩
  case round =>
    rename World => wr
    obtain ⟨i, rfl, hi, rfl, hbr, hno⟩ := hrel
    have HN := Lib.hid hno
    clear hno
    by_cases hlt : i < ms.length
    · obtain ⟨m, hm⟩ : ∃ m, ms[i]? = some m := ⟨_, List.getElem?_eq_getElem hlt⟩
      obtain ⟨b1, b2, b3, b4⟩ := HB.out m (List.mem_of_getElem? hm)
      obtain ⟨_, _, hcv, hcell⟩ := (HM.out.below hbr).cell
      simp only [Value.slice.injEq] at hcv
      obtain ⟨rfl, -, rfl⟩ := hcv
      obtain ⟨g, o, lv, yv, rfl, c0, c1, c2, c3, c4, hI, hR, hl, hyl⟩ := hcell i m hm
      obtain ⟨la, lc, rfl⟩ : ∃ la lc, lv = .slice la m.lines.length lc := by obtain ⟨a, c, h, _⟩ := hI; exact ⟨a, c, by simpa using h⟩
      obtain ⟨ya, yc, rfl⟩ : ∃ la lc, yv = .slice la m.yes.length lc := by obtain ⟨a, c, h, _⟩ := hR; exact ⟨a, c, by simpa using h⟩
      have hbx : Below w.heap.size w (wr.alloc (.cells #[.string m.name, .int .i64 m.base, .int .i64 m.size, .slice la m.lines.length lc, .slice ya m.yes.length yc] 26)) := hbr.alloc hbr.size _
      have HY : Hid (m.base ≤ p → p ≤ m.base + m.size → FileIdx ms p i) := fun h1 h2 => .inr ⟨i, m, rfl, hm, h1, h2⟩
      have HX : Hid ((p < m.base ∨ m.base + m.size < p) → ∀ x ∈ ms.take (i + 1), p < x.base ∨ x.base + x.size < p) := fun h x hx => by
        rw [take_snoc hm] at hx
        rcases List.mem_append.1 hx with hx | hx
        · exact HN.out x hx
        · simp at hx; subst hx; exact h
      clear hcell hI hR hm
      by_cases h1 : m.base ≤ p
      · by_cases h2 : p ≤ m.base + m.size
        · have FIN := Lib.hid (HY.out h1 h2)
          clear HY HX HN HM
          go_wp2
          go_ret
          exact ⟨_, rfl, FIN.out, hbx⟩
        · have h2' : m.base + m.size < p := by omega
          have FIN := Lib.hid (HX.out (.inr h2'))
          clear HY HX HN h2
          go_wp2
          go_roundg (ms.length - (i + 1))
          case measure => omega
          case rel => exact ⟨i + 1, by go_num, by omega, rfl, hbx, FIN.out⟩
      · have h1' : p < m.base := by omega
        have FIN := Lib.hid (HX.out (.inl h1'))
        clear HY HX HN h1
        go_wp2
        go_roundg (ms.length - (i + 1))
        case measure => omega
        case rel => exact ⟨i + 1, by go_num, by omega, rfl, hbx, FIN.out⟩
    · have hi2 : i = ms.length := by omega
      subst hi2
      have hns : ¬ ((ms.length : Int) < (ms.length : Int)) := by omega
      have FIN : Hid (FileIdx ms p (-1)) := .inl ⟨rfl, by have := HN.out; rwa [List.take_length] at this⟩
      clear hlt HN
      go_wp2
      go_ret
      exact ⟨_, rfl, FIN.out, hbr⟩
end Go.Proofs.YtigjdicghjofoaaFmt
