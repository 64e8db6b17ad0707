/- The files of a script as plain data: what is given, what is made of it. -/
import Derived.Test.YtmijedghihebjaaGreatFmtApp
import Derived.Test.YtmijedghihebjaaGreatFmtMerge
namespace Go.Proofs.YtmijedghihebjaaGreatFmt
open Go.RowKit

structure GEdit where
  kind : Int
  lines : List Int
  line : Int
structure GFile where
  name : ByteArray
  base : Int
  size : Int
  edits : List GEdit
structure MFile where
  name : ByteArray
  base : Int
  size : Int
  lines : List Int
  yes : List Bool

/-- The lines behind an edit. -/
def stepL (size : Int) (ls : List Int) (e : GEdit) : List Int :=
  if e.kind = 1 then (if rise size e.lines then e.lines else ls) else if e.kind = 2 then mergeL ls e.line else ls
/-- What the edit tells. -/
def stepB (size : Int) (ls : List Int) (e : GEdit) : Bool :=
  if e.kind = 1 then rise size e.lines else if e.kind = 2 then mergeOk ls e.line else true

def linesL (size : Int) (es : List GEdit) : List Int := es.foldl (stepL size) [0]
def yesL (size : Int) : List Int → List GEdit → List Bool
  | _, [] => []
  | ls, e :: es => stepB size ls e :: yesL size (stepL size ls e) es

theorem linesL_snoc (size : Int) (es : List GEdit) (e : GEdit) : linesL size (es ++ [e]) = stepL size (linesL size es) e := by simp [linesL]
theorem yesL_snoc (size : Int) (es : List GEdit) (e : GEdit) (ls : List Int) : yesL size ls (es ++ [e]) = yesL size ls es ++ [stepB size (es.foldl (stepL size) ls) e] := by
  induction es generalizing ls with
  | nil => simp [yesL]
  | cons x es ih => simp [yesL, ih]
theorem yesL_length (size : Int) (es : List GEdit) (ls : List Int) : (yesL size ls es).length = es.length := by
  induction es generalizing ls with
  | nil => simp [yesL]
  | cons x es ih => simp [yesL, ih]

def yesOf (size : Int) (es : List GEdit) : List Bool := yesL size [0] es
theorem yesOf_snoc (size : Int) (es : List GEdit) (e : GEdit) : yesOf size (es ++ [e]) = yesOf size es ++ [stepB size (linesL size es) e] := yesL_snoc size es e [0]

/-- One file, with the base that it gets. -/
def make (next : Int) (g : GFile) : MFile := ⟨g.name, if g.base < 0 then next else g.base, g.size, linesL g.size g.edits, yesOf g.size g.edits⟩
def MFile.next (f : MFile) : Int := f.base + f.size + 1
def nextOf : List MFile → Int → Int
  | [], n => n
  | f :: fs, _ => nextOf fs f.next
def madeFrom : Int → List GFile → List MFile
  | _, [] => []
  | next, g :: gs => make next g :: madeFrom (make next g).next gs
def madeL (gs : List GFile) : List MFile := madeFrom 1 gs
def baseOf (gs : List GFile) : Int := nextOf (madeL gs) 1

theorem madeFrom_length (n : Int) (gs : List GFile) : (madeFrom n gs).length = gs.length := by
  induction gs generalizing n with
  | nil => rfl
  | cons g gs ih => simp [madeFrom, ih]
theorem nextOf_append (l : List MFile) (f : MFile) (n : Int) : nextOf (l ++ [f]) n = f.next := by
  induction l generalizing n with
  | nil => rfl
  | cons x l ih => exact ih _
theorem madeFrom_snoc (n : Int) (gs : List GFile) (g : GFile) : madeFrom n (gs ++ [g]) = madeFrom n gs ++ [make (nextOf (madeFrom n gs) n) g] := by
  induction gs generalizing n with
  | nil => rfl
  | cons x gs ih =>
    simp only [List.cons_append, madeFrom, ih]
    rfl
theorem madeL_snoc (gs : List GFile) (g : GFile) : madeL (gs ++ [g]) = madeL gs ++ [make (baseOf gs) g] := madeFrom_snoc 1 gs g
theorem baseOf_snoc (gs : List GFile) (g : GFile) : baseOf (gs ++ [g]) = (make (baseOf gs) g).next := by
  unfold baseOf
  rw [madeL_snoc, nextOf_append]
  rfl
theorem madeL_length (gs : List GFile) : (madeL gs).length = gs.length := madeFrom_length 1 gs

/-- Edits of which the documentation says what they do. -/
def soundE (size : Int) (e : GEdit) : Prop := e.kind ≠ 1 ∨ (e.lines = [] ∧ size = 0) ∨ (e.lines ≠ [] ∧ e.lines.getD 0 0 = 0)
instance (size : Int) (e : GEdit) : Decidable (soundE size e) := by unfold soundE; exact inferInstance
def okFile (next : Int) (g : GFile) : Prop :=
  0 ≤ g.size ∧ g.size ≤ 1099511627776 ∧ next ≤ (make next g).base ∧ (make next g).base ≤ 1099511627776 ∧ ∀ e ∈ g.edits, soundE g.size e
instance (next : Int) (g : GFile) : Decidable (okFile next g) := by unfold okFile; exact inferInstance
def validFrom : Int → List GFile → Prop
  | _, [] => True
  | next, g :: gs => okFile next g ∧ validFrom (make next g).next gs
instance : (next : Int) → (gs : List GFile) → Decidable (validFrom next gs)
  | _, [] => isTrue trivial
  | next, g :: gs => by
    have : Decidable (validFrom (make next g).next gs) := instDecidableValidFrom _ gs
    unfold validFrom
    exact inferInstance
def validL (gs : List GFile) : Prop := validFrom 1 gs
instance (gs : List GFile) : Decidable (validL gs) := by unfold validL; exact inferInstance

theorem validFrom_snoc (n : Int) (gs : List GFile) (g : GFile) : validFrom n (gs ++ [g]) ↔ validFrom n gs ∧ okFile (nextOf (madeFrom n gs) n) g := by
  induction gs generalizing n with
  | nil => simp [validFrom, madeFrom, nextOf]
  | cons x gs ih =>
    simp only [List.cons_append, validFrom, ih, madeFrom, nextOf, and_assoc]
theorem validL_snoc (gs : List GFile) (g : GFile) : validL (gs ++ [g]) ↔ validL gs ∧ okFile (baseOf gs) g := validFrom_snoc 1 gs g

/-- Rows of memory that hold files. -/
def EditRow (w : World) (e : GEdit) (r : List Value) : Prop := ∃ lv, r = [.int .i64 e.kind, lv, .int .i64 e.line] ∧ Ints w lv e.lines ∧ e.lines.length * 8 ≤ 140737488355328
def Edits (w : World) (v : Value) (es : List GEdit) : Prop := es.length * 40 ≤ 140737488355328 ∧ ∃ rs, RowsL w 3 v rs ∧ rs.length = es.length ∧ ∀ (k : Nat) (e : GEdit), es[k]? = some e → ∃ r, rs[k]? = some r ∧ EditRow w e r
def FileRow (w : World) (f : GFile) (r : List Value) : Prop := ∃ ev, r = [.string f.name, .int .i64 f.base, .int .i64 f.size, ev] ∧ Edits w ev f.edits
def Files (w : World) (v : Value) (fs : List GFile) : Prop := fs.length * 56 ≤ 140737488355328 ∧ ∃ rs, RowsL w 4 v rs ∧ rs.length = fs.length ∧ ∀ (k : Nat) (f : GFile), fs[k]? = some f → ∃ r, rs[k]? = some r ∧ FileRow w f r

theorem EditRow.below {w w' : World} {e : GEdit} {r : List Value} (h : EditRow w e r) (hb : Below w.heap.size w w') : EditRow w' e r := by
  obtain ⟨lv, hr, hi, hl⟩ := h
  exact ⟨lv, hr, hi.below hb, hl⟩
theorem Edits.below {w w' : World} {v : Value} {es : List GEdit} (h : Edits w v es) (hb : Below w.heap.size w w') : Edits w' v es := by
  obtain ⟨hl, rs, hr, hn, h⟩ := h
  refine ⟨hl, rs, hr.below hb, hn, fun k e hk => ?_⟩
  obtain ⟨r, hk, he⟩ := h k e hk
  exact ⟨r, hk, he.below hb⟩
theorem FileRow.below {w w' : World} {f : GFile} {r : List Value} (h : FileRow w f r) (hb : Below w.heap.size w w') : FileRow w' f r := by
  obtain ⟨ev, hr, he⟩ := h
  exact ⟨ev, hr, he.below hb⟩
theorem Files.below {w w' : World} {v : Value} {fs : List GFile} (h : Files w v fs) (hb : Below w.heap.size w w') : Files w' v fs := by
  obtain ⟨hl, rs, hr, hn, h⟩ := h
  refine ⟨hl, rs, hr.below hb, hn, fun k e hk => ?_⟩
  obtain ⟨r, hk, he⟩ := h k e hk
  exact ⟨r, hk, he.below hb⟩

/-- Element k of a slice of edits. -/
theorem Edits.cell {w : World} {v : Value} {es : List GEdit} (h : Edits w v es) : ∃ a c, v = .slice a es.length c ∧
    ∀ (k : Nat) (e : GEdit), es[k]? = some e → ∃ g o lv, a = some ⟨g, o, none⟩ ∧ w.cell? ⟨g, o + k * 3, none⟩ = some (.int .i64 e.kind) ∧ w.cell? ⟨g, o + k * 3 + 1, none⟩ = some lv ∧ w.cell? ⟨g, o + k * 3 + 2, none⟩ = some (.int .i64 e.line) ∧
      Ints w lv e.lines ∧ e.lines.length * 8 ≤ 140737488355328 := by
  obtain ⟨_, rs, hr, hn, h⟩ := h
  obtain ⟨a, c, rfl, hc⟩ := hr.cell
  refine ⟨a, c, by rw [hn], fun k e hk => ?_⟩
  obtain ⟨r, hrk, lv, rfl, hi, hl⟩ := h k e hk
  rcases hc with rfl | ⟨g, o, rfl, hc⟩
  · simp at hrk
  · have := hc k _ hrk
    exact ⟨g, o, lv, rfl, this 0 _ rfl, this 1 _ rfl, this 2 _ rfl, hi, hl⟩
theorem Files.cell {w : World} {v : Value} {fs : List GFile} (h : Files w v fs) : ∃ a c, v = .slice a fs.length c ∧
    ∀ (k : Nat) (f : GFile), fs[k]? = some f → ∃ g o ev, a = some ⟨g, o, none⟩ ∧ w.cell? ⟨g, o + k * 4, none⟩ = some (.string f.name) ∧ w.cell? ⟨g, o + k * 4 + 1, none⟩ = some (.int .i64 f.base) ∧ w.cell? ⟨g, o + k * 4 + 2, none⟩ = some (.int .i64 f.size) ∧
      w.cell? ⟨g, o + k * 4 + 3, none⟩ = some ev ∧ Edits w ev f.edits := by
  obtain ⟨_, rs, hr, hn, h⟩ := h
  obtain ⟨a, c, rfl, hc⟩ := hr.cell
  refine ⟨a, c, by rw [hn], fun k e hk => ?_⟩
  obtain ⟨r, hrk, ev, rfl, hi⟩ := h k e hk
  rcases hc with rfl | ⟨g, o, rfl, hc⟩
  · simp at hrk
  · have := hc k _ hrk
    exact ⟨g, o, ev, rfl, this 0 _ rfl, this 1 _ rfl, this 2 _ rfl, this 3 _ rfl, hi⟩
end Go.Proofs.YtmijedghihebjaaGreatFmt
