/- Plain laws on lines and places. -/
import Derived.Test.YtmijedghihebjaaGreatFmtValidL
namespace Go.Proofs.YtmijedghihebjaaGreatFmt
open Go.RowKit

/-- Lines of a file that is not empty. -/
structure GoodL (size : Int) (ls : List Int) : Prop where
  inc : Inc ls
  head : ls.getD 0 0 = 0
  pos : 1 ≤ ls.length
  lt : ∀ y ∈ ls, y < size

theorem Inc.getD_lt {ls : List Int} (h : Inc ls) {i j : Nat} (hij : i < j) (hj : j < ls.length) : ls.getD i 0 < ls.getD j 0 := by
  have := List.pairwise_iff_getElem.1 h i j (by omega) hj hij
  rw [List.getD_eq_getElem?_getD, List.getD_eq_getElem?_getD, List.getElem?_eq_getElem hj, List.getElem?_eq_getElem (by omega)]
  simpa using this
theorem Inc.getD_le {ls : List Int} (h : Inc ls) {i j : Nat} (hij : i ≤ j) (hj : j < ls.length) : ls.getD i 0 ≤ ls.getD j 0 := by
  rcases Nat.lt_or_ge i j with h' | h'
  · exact Int.le_of_lt (h.getD_lt h' hj)
  · have : i = j := by omega
    subst this
    exact Int.le_refl _
theorem getD_mem' {ls : List Int} {k : Nat} (h : k < ls.length) : ls.getD k 0 ∈ ls := by
  rw [List.getD_eq_getElem?_getD, List.getElem?_eq_getElem h]
  simp

theorem GoodL.nneg {size : Int} {ls : List Int} (h : GoodL size ls) {k : Nat} (hk : k < ls.length) : 0 ≤ ls.getD k 0 := by
  have := h.inc.getD_le (Nat.zero_le k) hk
  rw [h.head] at this
  exact this
theorem GoodL.ltk {size : Int} {ls : List Int} (h : GoodL size ls) {k : Nat} (hk : k < ls.length) : ls.getD k 0 < size := h.lt _ (getD_mem' hk)
theorem GoodL.cnt_pos {size : Int} {ls : List Int} (h : GoodL size ls) {x : Int} (hx : 0 ≤ x) : 1 ≤ cnt ls x := by
  have := (cnt_iff h.inc x 0 h.pos).1 (by rw [h.head]; exact hx)
  omega
theorem cnt_at {ls : List Int} (hi : Inc ls) (x : Int) (h : 1 ≤ cnt ls x) : ls.getD (cnt ls x - 1) 0 ≤ x :=
  (cnt_iff hi x _ (by have := cnt_le ls x; omega)).2 (by omega)
theorem cnt_next {ls : List Int} (hi : Inc ls) (x : Int) (h : cnt ls x < ls.length) : x < ls.getD (cnt ls x) 0 := by
  have := (cnt_iff hi x _ h)
  rcases Int.lt_or_le x (ls.getD (cnt ls x) 0) with h' | h'
  · exact h'
  · exact absurd (this.1 h') (by omega)
/-- What makes a number the count. -/
theorem cnt_eq {ls : List Int} (hi : Inc ls) {x : Int} {c : Nat} (hc : c ≤ ls.length) (h1 : c = 0 ∨ ls.getD (c - 1) 0 ≤ x) (h2 : c = ls.length ∨ x < ls.getD c 0) : cnt ls x = c := by
  have hle := cnt_le ls x
  have a1 : c ≤ cnt ls x := by
    rcases h1 with rfl | h1
    · omega
    · rcases Nat.eq_zero_or_pos c with rfl | hp
      · omega
      · have := (cnt_iff hi x (c - 1) (by omega)).1 h1
        omega
  have a2 : cnt ls x ≤ c := by
    rcases h2 with rfl | h2
    · exact hle
    · rcases Nat.lt_or_ge c (cnt ls x) with h' | h'
      · have := (cnt_iff hi x c (by omega)).2 h'
        omega
      · exact h'
  omega
theorem cnt_self {ls : List Int} (hi : Inc ls) {h : Nat} (hh : h < ls.length) : cnt ls (ls.getD h 0) = h + 1 := by
  refine cnt_eq hi (by omega) (.inr (by simp)) ?_
  rcases Nat.lt_or_ge (h + 1) ls.length with h' | h'
  · exact .inr (hi.getD_lt (by omega) h')
  · exact .inl (by omega)
theorem cnt_before {ls : List Int} (hi : Inc ls) {h : Nat} (hh : h < ls.length) : cnt ls (ls.getD h 0 - 1) = h := by
  refine cnt_eq hi (by omega) ?_ (.inr (by omega))
  rcases Nat.eq_zero_or_pos h with rfl | hp
  · exact .inl rfl
  · have := hi.getD_lt (show h - 1 < h by omega) hh
    exact .inr (by omega)
theorem cnt_mono (ls : List Int) {x y : Int} (h : x ≤ y) : cnt ls x ≤ cnt ls y := by
  induction ls with
  | nil => simp [cnt]
  | cons z zs ih =>
    rw [cnt_cons, cnt_cons]
    by_cases hz : z ≤ x
    · rw [if_pos hz, if_pos (by omega)]; omega
    · rw [if_neg hz]; split <;> omega

theorem good_start {size : Int} (hs : 0 < size) : GoodL size [0] := ⟨by simp [Inc], rfl, by simp, by simpa using hs⟩
theorem eraseIdx_getD (ls : List Int) (m i : Nat) : (ls.eraseIdx m).getD i 0 = if i < m then ls.getD i 0 else ls.getD (i + 1) 0 := by
  rw [List.getD_eq_getElem?_getD, List.getElem?_eraseIdx]
  split <;> simp [List.getD_eq_getElem?_getD]
theorem inc_erase {ls : List Int} (h : Inc ls) (m : Nat) : Inc (ls.eraseIdx m) := List.Pairwise.sublist (List.eraseIdx_sublist ls m) h
theorem good_erase {size : Int} {ls : List Int} (h : GoodL size ls) {m : Nat} (h1 : 1 ≤ m) (h2 : m < ls.length) : GoodL size (ls.eraseIdx m) := by
  refine ⟨inc_erase h.inc m, ?_, ?_, fun y hy => h.lt y ((List.eraseIdx_sublist ls m).subset hy)⟩
  · rw [eraseIdx_getD, if_pos (by omega)]; exact h.head
  · rw [List.length_eraseIdx, if_pos h2]; omega
theorem good_step {size : Int} {ls : List Int} {e : GEdit} (hs : 0 < size) (h : GoodL size ls) (hsd : soundE size e) : GoodL size (stepL size ls e) := by
  unfold stepL
  split
  · rename_i k1
    split
    · rename_i hr
      rcases hsd with h' | ⟨_, h'⟩ | ⟨h1, h2⟩
      · exact absurd k1 h'
      · omega
      · refine ⟨rise_inc hr, h2, List.length_pos_iff.2 h1, fun y hy => ?_⟩
        obtain ⟨k, hk, rfl⟩ := List.getElem_of_mem hy
        have := (rise_good hr k hk).1
        rw [List.getD_eq_getElem?_getD, List.getElem?_eq_getElem hk] at this
        simpa using this
    · exact h
  · split
    · unfold mergeL
      split
      · rename_i hm
        simp [mergeOk] at hm
        exact good_erase h (by omega) (by omega)
      · exact h
    · exact h
theorem good_lines {size : Int} {es : List GEdit} (hs : 0 < size) (h : ∀ e ∈ es, soundE size e) : GoodL size (linesL size es) := by
  have : ∀ (l : List GEdit) (ls : List Int), (∀ e ∈ l, soundE size e) → GoodL size ls → GoodL size (l.foldl (stepL size) ls) := by
    intro l
    induction l with
    | nil => intro ls _ h; exact h
    | cons e l ih => intro ls hl h; exact ih _ (fun x hx => hl x (by simp [hx])) (good_step hs h (hl e (by simp)))
  exact this es [0] h (good_start hs)

/-- File k of a valid script. -/
theorem made_of {fs : List GFile} {k : Nat} {m : MFile} (hk : (madeL fs)[k]? = some m) : ∃ g, fs[k]? = some g ∧ m = make (baseOf (fs.take k)) g := by
  have hl : k < fs.length := by have := (List.getElem?_eq_some_iff.1 hk).1; rwa [madeL_length] at this
  refine ⟨fs[k], List.getElem?_eq_getElem hl, ?_⟩
  have := madeL_at (List.getElem?_eq_getElem hl)
  rw [hk] at this
  exact Option.some.inj this
theorem good_of {fs : List GFile} (hv : validL fs) {k : Nat} {m : MFile} (hk : (madeL fs)[k]? = some m) (hs : 0 < m.size) : GoodL m.size m.lines := by
  obtain ⟨g, hg, rfl⟩ := made_of hk
  have hok := valid_at hv hg
  exact good_lines hs hok.2.2.2.2
theorem stepL_len {size : Int} {ls : List Int} {e : GEdit} : (stepL size ls e).length ≤ max ls.length e.lines.length := by
  unfold stepL mergeL
  split
  · split <;> omega
  · split
    · split
      · have := List.length_eraseIdx_le ls e.line.toNat
        omega
      · omega
    · omega
theorem linesL_len {size : Int} {es : List GEdit} {n : Nat} (h1 : 1 ≤ n) (h : ∀ e ∈ es, e.lines.length ≤ n) : (linesL size es).length ≤ n := by
  have : ∀ (l : List GEdit) (ls : List Int), (∀ e ∈ l, e.lines.length ≤ n) → ls.length ≤ n → (l.foldl (stepL size) ls).length ≤ n := by
    intro l
    induction l with
    | nil => intro ls _ h; exact h
    | cons e l ih =>
      intro ls hl h
      refine ih _ (fun x hx => hl x (by simp [hx])) ?_
      have := stepL_len (size := size) (ls := ls) (e := e)
      have := hl e (by simp)
      omega
  exact this es [0] h (by simpa using h1)

/-- One file changed at its edits alone: bases stay. -/
theorem make_edits (n : Int) (g : GFile) (es : List GEdit) : make n { g with edits := es } = { make n g with lines := linesL g.size es, yes := yesOf g.size es } := rfl
theorem nextOf_setEdits {gs : List GFile} {k : Nat} {g : GFile} (hk : gs[k]? = some g) (es : List GEdit) (n : Int) :
    madeFrom n (gs.set k { g with edits := es }) = (madeFrom n gs).set k { (make (nextOf (madeFrom n (gs.take k)) n) g) with lines := linesL g.size es, yes := yesOf g.size es } := by
  induction gs generalizing k n with
  | nil => simp at hk
  | cons x xs ih =>
    cases k with
    | zero =>
      simp at hk
      subst hk
      simp only [List.set_cons_zero, madeFrom, List.take_zero, nextOf]
      rfl
    | succ k =>
      simp at hk
      simp only [List.set_cons_succ, madeFrom, List.take_succ_cons, nextOf]
      rw [ih hk]
theorem made_set {fs : List GFile} {k : Nat} {m : MFile} {g : GFile} (hk : (madeL fs)[k]? = some m) (hg : fs[k]? = some g) (es : List GEdit) :
    (madeL (fs.set k { g with edits := es }))[k]? = some { m with lines := linesL g.size es, yes := yesOf g.size es } := by
  obtain ⟨g', hg', rfl⟩ := made_of hk
  rw [hg] at hg'
  obtain rfl := Option.some.inj hg'
  unfold madeL
  rw [nextOf_setEdits hg]
  have hl : k < (madeFrom 1 fs).length := by rw [madeFrom_length]; exact (List.getElem?_eq_some_iff.1 hg).1
  rw [List.getElem?_set_self hl]
  rfl
theorem valid_set {fs : List GFile} {k : Nat} {g : GFile} (hv : validL fs) (hg : fs[k]? = some g) {es : List GEdit} (he : ∀ e ∈ es, soundE g.size e) : validL (fs.set k { g with edits := es }) := by
  have : ∀ (gs : List GFile) (k : Nat) (n : Int), validFrom n gs → gs[k]? = some g → validFrom n (gs.set k { g with edits := es }) := by
    intro gs
    induction gs with
    | nil => intro k n _ h; simp at h
    | cons x xs ih =>
      intro k n hv hk
      cases k with
      | zero =>
        simp at hk
        subst hk
        obtain ⟨⟨h1, h2, h3, h4, _⟩, h5⟩ := hv
        exact ⟨⟨h1, h2, h3, h4, he⟩, h5⟩
      | succ k =>
        simp at hk
        exact ⟨hv.1, ih k _ hv.2 hk⟩
  exact this fs k 1 hv hg
theorem made_take {fs : List GFile} {k : Nat} {m : MFile} (hk : (madeL fs)[k]? = some m) : (madeL (fs.take (k + 1)))[k]? = some m := by
  obtain ⟨g, hg, rfl⟩ := made_of hk
  have h2 : (fs.take (k + 1))[k]? = some g := by rw [List.getElem?_take, if_pos (by omega)]; exact hg
  have := madeL_at h2
  rw [this, List.take_take, Nat.min_eq_left (by omega)]

/-- The four parts of a place. -/
def offP (m : MFile) (p : Int) : Int := fixOff m.size (p - m.base)
theorem offP_in {m : MFile} {p : Int} (h1 : m.base ≤ p) (h2 : p ≤ m.base + m.size) : offP m p = p - m.base := by unfold offP fixOff; omega
theorem offP_low {m : MFile} {p : Int} (h : p ≤ m.base) : offP m p = 0 := by unfold offP fixOff; omega
theorem offP_high {m : MFile} {p : Int} (h : m.base + m.size ≤ p) (h0 : 0 ≤ m.size) : offP m p = m.size := by unfold offP fixOff; omega
theorem lineCol_good {size : Int} {ls : List Int} (h : GoodL size ls) {x : Int} (hx : 0 ≤ x) : lineCol ls x = ((cnt ls x : Int), x - ls.getD (cnt ls x - 1) 0 + 1) := by
  have := h.cnt_pos hx
  unfold lineCol
  rw [if_neg (by omega)]
theorem placeOf_good {m : MFile} (h : GoodL m.size m.lines) {p : Int} (hp : p ≠ 0) (hs : 0 ≤ m.size) :
    placeOf m.name m.base m.size m.lines p = placeV m.name (offP m p) (cnt m.lines (offP m p)) (offP m p - m.lines.getD (cnt m.lines (offP m p) - 1) 0 + 1) := by
  unfold placeOf
  rw [if_neg hp]
  have := fixOff_bd m.size (p - m.base) hs
  rw [show fixOff m.size (p - m.base) = offP m p from rfl] at this ⊢
  rw [lineCol_good h this.1]
end Go.Proofs.YtmijedghihebjaaGreatFmt
