/- Plain laws: a script with one more edit of one file. -/
import Derived.Test.YtigjdicghjofoaaFmtPlace
namespace Go.Proofs.YtigjdicghjofoaaFmt
open Go.RowKit

/-- The script with one more edit of file k. -/
def withL (fs : List GFile) (k : Nat) (g : GFile) (e : GEdit) : List GFile := fs.set k { g with edits := g.edits ++ [e] }

theorem hasK_with {fs : List GFile} {k : Int} {m : MFile} {g : GFile} (hk : HasK fs k m) (hg : fs[k.toNat]? = some g) {e : GEdit} (he : soundE m.size e) :
    HasK (withL fs k.toNat g e) k { m with lines := stepL m.size m.lines e, yes := m.yes ++ [stepB m.size m.lines e] } := by
  obtain ⟨hv, h0, hm⟩ := hk
  obtain ⟨g', hg', hmm⟩ := made_of hm
  rw [hg] at hg'
  obtain rfl := Option.some.inj hg'
  have hok := valid_at hv hg
  have hs : g.size = m.size := by rw [hmm]; rfl
  have hl : linesL g.size g.edits = m.lines := by rw [hmm]; rfl
  have hy : yesOf g.size g.edits = m.yes := by rw [hmm]; rfl
  refine ⟨valid_set hv hg fun x hx => ?_, h0, ?_⟩
  · rcases List.mem_append.1 hx with hx | hx
    · exact hok.2.2.2.2 x hx
    · simp at hx; subst hx; rw [hs]; exact he
  · have := made_set hm hg (g.edits ++ [e])
    have e1 : linesL g.size (g.edits ++ [e]) = stepL m.size m.lines e := by rw [linesL_snoc, hl, hs]
    have e2 : yesOf g.size (g.edits ++ [e]) = m.yes ++ [stepB m.size m.lines e] := by rw [yesOf_snoc, hl, hy, hs]
    rw [e1, e2] at this
    exact this

/-- The file behind a merge of line j and the next. -/
def mergedM (m : MFile) (j : Nat) : MFile := { m with lines := m.lines.eraseIdx j, yes := m.yes ++ [true] }
theorem hasK_merged {fs : List GFile} {k : Int} {m : MFile} {g : GFile} (hk : HasK fs k m) (hg : fs[k.toNat]? = some g) {j : Nat} (h1 : 1 ≤ j) (h2 : j < m.lines.length) : HasK (withL fs k.toNat g ⟨2, [], j⟩) k (mergedM m j) := by
  have := hasK_with hk hg (e := ⟨2, [], j⟩) (.inl (show (2 : Int) ≠ 1 by decide))
  have ok : mergeOk m.lines (j : Int) = true := by simp [mergeOk]; omega
  have e1 : stepL m.size m.lines ⟨2, [], j⟩ = m.lines.eraseIdx j := by simp [stepL, mergeL, ok]
  have e2 : stepB m.size m.lines ⟨2, [], j⟩ = true := by simp [stepB, ok]
  rw [e1, e2] at this
  exact this
theorem merged_law {m : MFile} (h : GoodL m.size m.lines) (hs : 0 ≤ m.size) {j : Nat} (h1 : 1 ≤ j) (h2 : j < m.lines.length) (p : Int) :
    offP (mergedM m j) p = offP m p ∧
    (lnP m p ≤ j → lnP (mergedM m j) p = lnP m p ∧ clP (mergedM m j) p = clP m p) ∧
    (lnP m p = j + 1 → lnP (mergedM m j) p = j ∧ clP (mergedM m j) p = clP m p + m.lines.getD j 0 - m.lines.getD (j - 1) 0) ∧
    (j + 1 < lnP m p → lnP (mergedM m j) p = lnP m p - 1 ∧ clP (mergedM m j) p = clP m p) := by
  have e0 : offP (mergedM m j) p = offP m p := rfl
  have el : (mergedM m j).lines = m.lines.eraseIdx j := rfl
  obtain ⟨a, b, c⟩ := merge_law h h1 h2 (offP m p) (offP_bd hs p).1
  have hc := h.cnt_pos (offP_bd hs p).1
  unfold lnP clP
  rw [e0, el]
  generalize cnt m.lines (offP m p) = n at *
  refine ⟨rfl, fun hn => ?_, fun hn => ?_, fun hn => ?_⟩
  · obtain ⟨a1, a2⟩ := a (by omega)
    rw [a1, a2]
    exact ⟨rfl, rfl⟩
  · have hn' : n = j + 1 := by omega
    obtain ⟨b1, b2⟩ := b hn'
    rw [b1, b2, hn', show j + 1 - 1 = j by omega]
    exact ⟨rfl, by omega⟩
  · obtain ⟨c1, c2⟩ := c (by omega)
    rw [c1, c2]
    exact ⟨by omega, rfl⟩

/-- The lines of a file, set again. -/
theorem hasK_again {fs : List GFile} {k : Int} {m : MFile} {g : GFile} (hk : HasK fs k m) (hs : 0 < m.size) (hg : fs[k.toNat]? = some g) : ∃ ys, HasK (withL fs k.toNat g ⟨1, m.lines, 0⟩) k { m with yes := ys } := by
  have hG := good_of hk.1 hk.2.2 hs
  have := hasK_with hk hg (e := ⟨1, m.lines, 0⟩) (.inr (.inr ⟨fun e => by have := hG.pos; rw [show (⟨1, m.lines, 0⟩ : GEdit).lines = m.lines from rfl] at e; rw [e] at this; simp at this, hG.head⟩))
  have e1 : stepL m.size m.lines ⟨1, m.lines, 0⟩ = m.lines := by simp [stepL]
  rw [e1] at this
  exact ⟨_, this⟩
end Go.Proofs.YtigjdicghjofoaaFmt
