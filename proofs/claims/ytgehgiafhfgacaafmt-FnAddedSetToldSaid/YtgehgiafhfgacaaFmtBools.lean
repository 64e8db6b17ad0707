/- laws.bools: two slices that read as one list are the same. -/
import Derived.Test.YtgehgiafhfgacaaFmtInts
namespace Go.Proofs.YtgehgiafhfgacaaFmt
open Go.RowKit

theorem bools_cell {w : World} {v : Value} {ls : List Bool} (h : Reads w v (ls.map Value.bool)) : ∃ a cap, v = .slice a ls.length cap ∧ (ls = [] ∨ ∃ g o, a = some ⟨g, o, none⟩ ∧ ∀ k, k < ls.length → w.cell? ⟨g, o + k, none⟩ = some (.bool (ls.getD k false))) := by
  obtain ⟨a, cap, hv, h⟩ := h
  refine ⟨a, cap, by simpa using hv, ?_⟩
  rcases h with h | ⟨g, o, ha, h⟩
  · exact .inl (by simpa using h)
  · exact .inr ⟨g, o, ha, fun k hk => h k _ (by rw [List.getElem?_map, List.getElem?_eq_getElem hk]; simp [List.getD_eq_getElem?_getD, hk])⟩

set_option maxRecDepth 100000 in
set_option maxHeartbeats 1000000 in
theorem bools_same (va vb : Value) (ls : List Bool) (w : World) (ha : Reads w va (ls.map Value.bool)) (hb : Reads w vb (ls.map Value.bool)) (hlen : ls.length ≤ 140737488355328) :
    Calls Tryf.prog 17 #[va, vb] w fun e w' => e = .returned (.bool true) ∧ ∃ n, w' = w.drewN n := by
  obtain ⟨a, ca, rfl, ka⟩ := bools_cell ha
  obtain ⟨b, cb, rfl, kb⟩ := bools_cell hb
  have HA := Lib.hid ka
  have HB := Lib.hid kb
  clear ka kb ha hb
  have hbne : ((ls.length : Int) != (ls.length : Int)) = false := by simp
  go_enter Tryf.func17, Tryf.ntmps17
  go_wp2
  go_loopg [13] ls.length (fun k v wr => ∃ i nd : Nat, v = .int .i64 i ∧ i ≤ ls.length ∧ k = ls.length - i ∧ wr = w.drewN nd)
  case atStart => exact ⟨0, 0, rfl, by omega, by omega, rfl⟩
  case round =>
    obtain ⟨i, nd, rfl, hi, rfl, rfl⟩ := hrel
    by_cases hlt : i < ls.length
    · have hne : ¬ ls = [] := fun e => by rw [e] at hlt; simp at hlt
      obtain ⟨g, o, rfl, h⟩ := HA.out.resolve_left hne
      obtain ⟨g', o', rfl, h'⟩ := HB.out.resolve_left hne
      clear hne
      have k1 := h i hlt
      have k2 := h' i hlt
      clear h h'
      generalize ls.getD i false = y at *
      have q0 : ((y : Bool) != y) = false := by simp
      have q1 : (i : Int) < (ls.length : Int) := by omega
      go_wp2
      go_quiet (fail)
      go_wp2
      go_roundg (ls.length - (i + 1))
      case measure => omega
      case rel => exact ⟨i + 1, _, by go_num, by omega, rfl, rfl⟩
    · go_wp2
      go_ret
      exact ⟨rfl, _, rfl⟩
end Go.Proofs.YtgehgiafhfgacaaFmt
