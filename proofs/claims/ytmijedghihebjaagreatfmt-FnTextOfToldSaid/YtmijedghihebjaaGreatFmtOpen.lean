/- Arguments opened: slices of integers. -/
import Derived.Test.YtmijedghihebjaaGreatFmtFrame
import Derived.Test.YtmijedghihebjaaGreatFmtInts
namespace Go.Proofs.YtmijedghihebjaaGreatFmt
open Go.ChangeShapes Go.WideShapes Go.ChangeAt Go.RowKit

theorem cellsInt : Tryz.prog.cellsOf 3 = 1 := by kernel_rfl
theorem bytesInt : Tryz.checked.prog.bytesOf 3 = 8 := by kernel_rfl

theorem open_cells_ints {H : Type} {enc : TypeId × Value → H} {W : World} {base : Nat} {sp : Nat → Bool} {held : Bool} {fuel : Nat} {cs : List Value} {x : DataW H × List MemPlace} (hsp : ∀ b, sp b = true) (h : DataW.trod enc Tryz.prog W base sp held fuel 23 cs = some x) :
    ∃ v ls, cs = [v] ∧ Ints W v ls ∧ (∀ y ∈ ls, (Lit.int .i64 y).wf = true) ∧ (x.1 = .nil ∧ ls = [] ∨ ∃ rest, x.1 = .slice (lits .i64 ls) rest) := by
  rcases open_ints Tryz.underlying23 Tryz.underlying3 cellsInt h with ⟨rfl, rfl⟩ | ⟨a, len, cap, zs, rfl, _, hl, hm, hz, rfl, hcell, hwz⟩
  · exact ⟨_, [], rfl, ⟨none, 0, rfl, .inl rfl⟩, by simp, .inl ⟨rfl, rfl⟩⟩
  · rw [hsp, if_pos rfl] at hz
    refine ⟨_, zs.take len, rfl, ?_, fun y hy => hwz y (List.mem_of_mem_take hy), .inr ⟨_, rfl⟩⟩
    have hlen : (zs.take len).length = len := by rw [List.length_take]; omega
    refine ⟨some a, cap, by rw [List.length_map, hlen], ?_⟩
    by_cases h0 : len = 0
    · subst h0; exact .inl (by simp)
    · obtain ⟨b, off, rfl, hc⟩ := ints_at hcell (by omega)
      refine .inr ⟨b, off, rfl, fun k u hk => ?_⟩
      rw [List.getElem?_map] at hk
      have hk' : k < len := by
        rcases Nat.lt_or_ge k len with h' | h'
        · exact h'
        · rw [List.getElem?_eq_none (by omega)] at hk; simp at hk
      rw [List.getElem?_take, if_pos hk', List.getElem?_eq_getElem (by omega)] at hk
      simp at hk
      subst hk
      rw [hc k (by omega)]
      simp [List.getD_eq_getElem?_getD, show k < zs.length by omega]

set_option maxRecDepth 100000 in
theorem open_arg_ints {H : Type} {enc : TypeId × Value → H} {W : World} {base : Nat} {v : Value} {d : DataW H} {ps : List MemPlace} (hv : Value.okWide Tryz.prog W .any base 23 v) (h : DataW.Trod enc Tryz.prog W 0 (fun _ => true) true 23 v d ps) :
    ∃ ls, Ints W v ls ∧ (∀ y ∈ ls, (Lit.int .i64 y).wf = true) ∧ (d = .nil ∧ ls = [] ∨ ∃ rest, d = .slice (lits .i64 ls) rest) := by
  obtain ⟨a0, len, cap, rfl⟩ := okWide_slice Tryz.underlying23 hv
  obtain ⟨fuel, hf⟩ := h
  obtain ⟨v, ls, hcs, hi, hw, hd⟩ := open_cells_ints (fun _ => rfl) hf
  simp [Value.cells] at hcs
  subst hcs
  exact ⟨ls, hi, hw, hd⟩

theorem lits_length {H : Type} (k : IntKind) (ls : List Int) : (lits (H := H) k ls).length = ls.length := by simp [lits]


set_option maxRecDepth 100000 in
theorem sized_ints {H : Type} {ts : List TypeId} {ds : List (DataW H)} (hsz : (DataW.weightsEach Tryz.checked.prog ts ds).all (· ≤ reachBytes) = true) {j : Nat} {d : DataW H} {ls : List Int} (ht : ts[j]? = some 23) (hd : ds[j]? = some d)
    (h : d = .nil ∧ ls = [] ∨ ∃ rest, d = .slice (lits .i64 ls) rest) : ls.length * 8 ≤ 140737488351232 := by
  rcases h with ⟨_, rfl⟩ | ⟨rest, rfl⟩
  · simp
  · have := sized_slice hsz ht hd Tryz.underlying23
    rw [bytesInt, lits_length] at this
    have hr : reachBytes ≤ 140737488351232 := by decide
    omega
end Go.Proofs.YtmijedghihebjaaGreatFmt
