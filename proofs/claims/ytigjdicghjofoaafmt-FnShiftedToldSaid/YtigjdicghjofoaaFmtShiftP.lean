/- Plain laws: a script of one file; the same file at a greater base. -/
import Derived.Test.YtigjdicghjofoaaFmtPlace
namespace Go.Proofs.YtigjdicghjofoaaFmt
open Go.RowKit

/-- One file in memory, as a script. -/
theorem lone_files {w : World} {fb : Nat} {g : GFile} {ev : Value} (hE : Edits w ev g.edits) (hf : w.heap[fb]? = some (.cells #[.string g.name, .int .i64 g.base, .int .i64 g.size, ev] 55 (0, 0))) : Files w (.slice (some ⟨fb, 0, none⟩) 1 1) [g] := by
  have rowF : RowsL w 4 (.slice (some ⟨fb, 0, none⟩) 1 1) [[.string g.name, .int .i64 g.base, .int .i64 g.size, ev]] := ⟨fun r hr => by simp at hr; subst hr; rfl, by simpa using cells_fresh (cs := [.string g.name, .int .i64 g.base, .int .i64 g.size, ev]) hf⟩
  refine ⟨by simp, _, rowF, rfl, fun k f hk => ?_⟩
  match k, hk with
  | 0, hk =>
    simp at hk
    subst hk
    exact ⟨_, rfl, _, rfl, hE⟩

def atBase (g : GFile) (b : Int) : GFile := { g with base := b }
theorem shifted_hasK {g : GFile} {m : MFile} {s : Int} (hk : HasK [atBase g 1] 0 m) (h0 : 0 ≤ s) (h1 : s ≤ 549755813888) : HasK [atBase g (1 + s)] 0 { m with base := 1 + s } := by
  obtain ⟨hv, _, hm⟩ := hk
  obtain ⟨⟨a, b, c, d, e⟩, _⟩ := hv
  have hb : (make 1 (atBase g (1 + s))).base = 1 + s := by simp [make, atBase]; omega
  refine ⟨⟨⟨a, b, by rw [hb]; omega, by rw [hb]; omega, e⟩, trivial⟩, by omega, ?_⟩
  simp [madeL, madeFrom] at hm ⊢
  subst hm
  simp [make, atBase]
  omega
theorem shifted_base {g : GFile} {m : MFile} (hk : HasK [atBase g 1] 0 m) : m.base = 1 ∧ m.name = g.name ∧ m.size = g.size := by
  obtain ⟨_, _, hm⟩ := hk
  simp [madeL, madeFrom] at hm
  subst hm
  simp [make, atBase]
theorem shifted_law {m : MFile} (hb : m.base = 1) (s o : Int) : offP { m with base := 1 + s } (1 + s + o) = offP m (1 + o) ∧ lnP { m with base := 1 + s } (1 + s + o) = lnP m (1 + o) ∧ clP { m with base := 1 + s } (1 + s + o) = clP m (1 + o) := by
  have e : offP { m with base := 1 + s } (1 + s + o) = offP m (1 + o) := by
    unfold offP
    rw [hb]
    show fixOff m.size (1 + s + o - (1 + s)) = fixOff m.size (1 + o - 1)
    congr 1
    omega
  refine ⟨e, ?_, ?_⟩
  · unfold lnP; rw [e]
  · unfold clP; rw [e]
end Go.Proofs.YtigjdicghjofoaaFmt
