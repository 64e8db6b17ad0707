/- Plain laws on the lines that AddLine makes; a script of one file with them. -/
import Derived.Test.YtgehgiafhfgacaaFmtAdded
import Derived.Test.YtgehgiafhfgacaaFmtPlace
namespace Go.Proofs.YtgehgiafhfgacaaFmt
open Go.RowKit

theorem good_add {size : Int} {ls : List Int} (h : GoodL size ls) (off : Int) : GoodL size (addL size ls off) := by
  unfold addL
  split
  · rename_i hc
    refine ⟨h.inc.append (fun y hy => by have := h.inc.last y hy; omega), ?_, by simp, fun y hy => ?_⟩
    · have := h.pos
      have h0 := h.head
      rw [List.getD_eq_getElem?_getD] at h0 ⊢
      rw [List.getElem?_append_left (by omega)]
      exact h0
    · rcases List.mem_append.1 hy with hy | hy
      · exact h.lt y hy
      · simp at hy; subst hy; exact hc.2
  · exact h
theorem good_added {size : Int} (hs : 0 < size) (os : List Int) : GoodL size (addedL size os) := by
  have : ∀ (os ls : List Int), GoodL size ls → GoodL size (os.foldl (addL size) ls) := by
    intro os
    induction os with
    | nil => intro ls h; exact h
    | cons o os ih => intro ls h; exact ih _ (good_add h o)
  exact this os [0] (good_start hs)
theorem rise_of_good {size : Int} {ls : List Int} (h : GoodL size ls) : rise size ls = true :=
  rise_true (fun j hj => ⟨h.ltk hj, fun hp => h.inc.getD_lt (by omega) hj⟩)

/-- One file of a size, its lines set at once. -/
def oneFs (size : Int) (ls : List Int) : List GFile := [⟨⟨#[]⟩, -1, size, [⟨1, ls, 0⟩]⟩]
def oneM (size : Int) (ls : List Int) : MFile := ⟨⟨#[]⟩, 1, size, ls, [true]⟩
theorem one_made {size : Int} {ls : List Int} (h : GoodL size ls) : madeL (oneFs size ls) = [oneM size ls] := by
  have hr := rise_of_good h
  simp [oneFs, oneM, madeL, madeFrom, make, linesL, stepL, yesOf, yesL, stepB, hr]
theorem one_valid {size : Int} {ls : List Int} (h1 : 1 ≤ size) (h2 : size ≤ 1099511627776) (h : GoodL size ls) : validL (oneFs size ls) := by
  refine ⟨⟨by show 0 ≤ size; omega, h2, by simp [make], by simp [make], fun e he => ?_⟩, trivial⟩
  simp at he
  subst he
  refine .inr (.inr ⟨?_, h.head⟩)
  intro e
  have := h.pos
  rw [show (⟨1, ls, 0⟩ : GEdit).lines = ls from rfl] at e
  rw [e] at this
  simp at this
theorem one_hasK {size : Int} {ls : List Int} (h1 : 1 ≤ size) (h2 : size ≤ 1099511627776) (h : GoodL size ls) : HasK (oneFs size ls) 0 (oneM size ls) := ⟨one_valid h1 h2 h, by omega, by rw [one_made h]; rfl⟩
/-- The script in memory. -/
theorem one_files {w : World} {eb fb : Nat} {lv : Value} {size : Int} {ls : List Int} (hI : Ints w lv ls) (hl : ls.length * 8 ≤ 140737488355328) (he : w.heap[eb]? = some (.cells #[.int .i64 1, lv, .int .i64 0] 39 (0, 0)))
    (hf : w.heap[fb]? = some (.cells #[.string ⟨#[]⟩, .int .i64 (-1), .int .i64 size, .slice (some ⟨eb, 0, none⟩) 1 1] 42 (0, 0))) : Files w (.slice (some ⟨fb, 0, none⟩) 1 1) (oneFs size ls) := by
  have rowE : RowsL w 3 (.slice (some ⟨eb, 0, none⟩) 1 1) [[.int .i64 1, lv, .int .i64 0]] := ⟨fun r hr => by simp at hr; subst hr; rfl, by simpa using cells_fresh (cs := [.int .i64 1, lv, .int .i64 0]) he⟩
  have rowF : RowsL w 4 (.slice (some ⟨fb, 0, none⟩) 1 1) [[.string ⟨#[]⟩, .int .i64 (-1), .int .i64 size, .slice (some ⟨eb, 0, none⟩) 1 1]] := ⟨fun r hr => by simp at hr; subst hr; rfl, by simpa using cells_fresh (cs := [.string ⟨#[]⟩, .int .i64 (-1), .int .i64 size, .slice (some ⟨eb, 0, none⟩) 1 1]) hf⟩
  refine ⟨by simp [oneFs], _, rowF, rfl, fun k f hk => ?_⟩
  match k, hk with
  | 0, hk =>
    simp [oneFs] at hk
    subst hk
    refine ⟨_, rfl, _, rfl, by simp, _, rowE, rfl, fun j e hj => ?_⟩
    match j, hj with
    | 0, hj =>
      simp at hj
      subst hj
      exact ⟨_, rfl, _, rfl, hI, hl⟩
end Go.Proofs.YtgehgiafhfgacaaFmt
