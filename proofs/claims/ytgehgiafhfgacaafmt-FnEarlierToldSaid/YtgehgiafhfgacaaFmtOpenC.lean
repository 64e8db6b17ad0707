/- Arguments opened: a slice of files is no longer than its capacity; a beginning of it. -/
import Derived.Test.YtgehgiafhfgacaaFmtOpenF
import Derived.Test.YtgehgiafhfgacaaFmtPlain
namespace Go.Proofs.YtgehgiafhfgacaaFmt
open Go.ChangeShapes Go.WideShapes Go.ChangeAt Go.RowKit Go.Deep

set_option maxRecDepth 100000 in
theorem cap_arg {H : Type} {enc : TypeId × Value → H} {W : World} {base : Nat} {v : Value} {d : DataW H} {ps : List MemPlace} (hv : Value.okWide Tryf.prog W .any base 22 v) (h : DataW.Trod enc Tryf.prog W 0 (fun _ => true) true 22 v d ps) : ∃ a len cap, v = .slice a len cap ∧ len ≤ cap ∧ cap ≤ maxLen := by
  obtain ⟨a0, len, cap, rfl⟩ := okWide_slice Tryf.underlying22 hv
  obtain ⟨fuel, hf⟩ := h
  rcases open_slice Tryf.underlying22 hf with ⟨h0, _⟩ | ⟨a, len', cap', m, n, D, Pl, hcs, hb, hl, hm, _⟩
  · simp [Value.cells] at h0
    obtain ⟨rfl, rfl, rfl⟩ := h0
    exact ⟨_, _, _, rfl, Nat.le_refl _, by simp [maxLen]⟩
  · simp [Value.cells] at hcs
    obtain ⟨rfl, rfl, rfl⟩ := hcs
    exact ⟨_, _, _, rfl, hl, hm⟩

theorem Files.take {w : World} {a : Option Addr} {c : Nat} {fs : List GFile} (h : Files w (.slice a fs.length c) fs) {k : Nat} (hk : k ≤ fs.length) : Files w (.slice a k c) (fs.take k) := by
  obtain ⟨hl, rs, ⟨h1, h2, a', c', h3, h4⟩, h5, h6⟩ := h
  simp only [Value.slice.injEq] at h3
  obtain ⟨rfl, _, rfl⟩ := h3
  refine ⟨by simp; omega, rs.take k, ⟨fun r hr => h1 r (List.mem_of_mem_take hr), ?_, a, c, ?_, ?_⟩, by simp [h5], ?_⟩
  · exact flat_len (fun r hr => h1 r (List.mem_of_mem_take hr))
  · simp [h5, Nat.min_eq_left hk]
  · rcases h4 with h4 | ⟨g, o, ha, hc⟩
    · left; simp; omega
    · refine .inr ⟨g, o, ha, fun j u hj => hc j u ?_⟩
      have e : rs.flatten = (rs.take k).flatten ++ (rs.drop k).flatten := by rw [← List.flatten_append, List.take_append_drop]
      rw [e, List.getElem?_append_left (List.getElem?_eq_some_iff.1 hj).1]
      exact hj
  · intro j f hj
    rw [List.getElem?_take] at hj
    split at hj
    · rename_i hjk
      obtain ⟨r, hr, hfr⟩ := h6 j f hj
      exact ⟨r, by rw [List.getElem?_take, if_pos hjk]; exact hr, hfr⟩
    · cases hj
end Go.Proofs.YtgehgiafhfgacaaFmt
