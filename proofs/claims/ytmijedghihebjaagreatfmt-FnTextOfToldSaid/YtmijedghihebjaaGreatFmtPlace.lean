/- Places in a file that has lines: the calls, and the plain laws. -/
import Derived.Test.YtmijedghihebjaaGreatFmtHeads
namespace Go.Proofs.YtmijedghihebjaaGreatFmt
open Go.RowKit

/-- The line of a position, and its column. -/
def lnP (m : MFile) (p : Int) : Int := (cnt m.lines (offP m p) : Int)
def clP (m : MFile) (p : Int) : Int := offP m p - m.lines.getD (cnt m.lines (offP m p) - 1) 0 + 1

theorem offP_bd {m : MFile} (hs : 0 ≤ m.size) (p : Int) : 0 ≤ offP m p ∧ offP m p ≤ m.size := fixOff_bd m.size (p - m.base) hs
theorem lnP_bd {m : MFile} (h : GoodL m.size m.lines) (hs : 0 ≤ m.size) (p : Int) : 1 ≤ lnP m p ∧ lnP m p ≤ m.lines.length := by
  have h1 := h.cnt_pos (offP_bd hs p).1
  have h2 := cnt_le m.lines (offP m p)
  unfold lnP
  omega
/-- The line's beginning. -/
def stP (m : MFile) (p : Int) : Int := m.lines.getD (cnt m.lines (offP m p) - 1) 0
theorem clP_eq (m : MFile) (p : Int) : clP m p = offP m p - stP m p + 1 := rfl
theorem stP_bd {m : MFile} (h : GoodL m.size m.lines) (hs : 0 ≤ m.size) (p : Int) : 0 ≤ stP m p ∧ stP m p ≤ offP m p := by
  have h1 := h.cnt_pos (offP_bd hs p).1
  have h2 := cnt_le m.lines (offP m p)
  exact ⟨h.nneg (by omega), cnt_at h.inc _ h1⟩

/-- Two positions in a file. -/
theorem rises_law {m : MFile} {p more : Int} (h0 : 0 ≤ more) (h1 : m.base ≤ p) (h2 : p ≤ m.base + m.size - more) :
    offP m (p + more) = offP m p + more ∧ lnP m p ≤ lnP m (p + more) ∧ (lnP m p = lnP m (p + more) → clP m (p + more) = clP m p + more) := by
  have e1 : offP m p = p - m.base := offP_in h1 (by omega)
  have e2 : offP m (p + more) = p + more - m.base := offP_in (by omega) (by omega)
  refine ⟨by omega, ?_, fun h => ?_⟩
  · have := cnt_mono m.lines (show offP m p ≤ offP m (p + more) by omega)
    unfold lnP; omega
  · unfold lnP at h
    have hc : cnt m.lines (offP m p) = cnt m.lines (offP m (p + more)) := by omega
    unfold clP
    rw [← hc]
    omega

/-- The beginning of a position's line. -/
theorem start_law {m : MFile} (h : GoodL m.size m.lines) (hs : 0 ≤ m.size) {p : Int} (h1 : m.base ≤ p) (h2 : p ≤ m.base + m.size) :
    offP m (p - clP m p + 1) = stP m p ∧ lnP m (p - clP m p + 1) = lnP m p ∧ clP m (p - clP m p + 1) = 1 ∧ p - clP m p + 1 = m.base + stP m p := by
  have e1 : offP m p = p - m.base := offP_in h1 h2
  obtain ⟨b1, b2⟩ := stP_bd h hs p
  have e2 : p - clP m p + 1 = m.base + stP m p := by rw [clP_eq]; omega
  have e3 : offP m (m.base + stP m p) = stP m p := by rw [offP_in (by omega) (by omega)]; omega
  have hc := h.cnt_pos (offP_bd hs p).1
  have hl := cnt_le m.lines (offP m p)
  have e4 : cnt m.lines (stP m p) = cnt m.lines (offP m p) := by
    unfold stP
    rw [cnt_self h.inc (by omega)]
    omega
  rw [e2]
  refine ⟨e3, by unfold lnP; rw [e3, e4], ?_, rfl⟩
  unfold clP
  rw [e3, e4]
  show stP m p - stP m p + 1 = 1
  omega
theorem first_law {m : MFile} (h : GoodL m.size m.lines) (hs : 0 ≤ m.size) {p : Int} (h0 : stP m p = 0) : lnP m p = 1 := by
  have hc := h.cnt_pos (offP_bd hs p).1
  have hl := cnt_le m.lines (offP m p)
  have : cnt m.lines (stP m p) = cnt m.lines (offP m p) := by
    unfold stP
    rw [cnt_self h.inc (by omega)]
    omega
  have h1 : cnt m.lines 0 = 1 := by
    have := cnt_self h.inc (show 0 < m.lines.length from h.pos)
    rw [h.head] at this
    exact this
  rw [h0, h1] at this
  unfold lnP
  omega
theorem before_law {m : MFile} (h : GoodL m.size m.lines) (hs : 0 ≤ m.size) {p : Int} (h1 : m.base ≤ p) (h2 : p ≤ m.base + m.size) (h0 : stP m p ≠ 0) : lnP m (p - clP m p) = lnP m p - 1 := by
  have e1 : offP m p = p - m.base := offP_in h1 h2
  obtain ⟨b1, b2⟩ := stP_bd h hs p
  have hc := h.cnt_pos (offP_bd hs p).1
  have hl := cnt_le m.lines (offP m p)
  have e2 : p - clP m p = m.base + (stP m p - 1) := by rw [clP_eq]; omega
  have e3 : offP m (m.base + (stP m p - 1)) = stP m p - 1 := by rw [offP_in (by omega) (by omega)]; omega
  unfold lnP
  rw [e2, e3]
  unfold stP
  rw [cnt_before h.inc (by omega)]
  omega
/-- At the beginning of a file. -/
theorem zero_law {m : MFile} (h : GoodL m.size m.lines) {p : Int} (h0 : offP m p = 0) : lnP m p = 1 ∧ clP m p = 1 := by
  have h1 : cnt m.lines 0 = 1 := by
    have := cnt_self h.inc (show 0 < m.lines.length from h.pos)
    rw [h.head] at this
    exact this
  unfold lnP clP
  rw [h0, h1]
  refine ⟨rfl, ?_⟩
  rw [show (1 - 1 : Nat) = 0 from rfl, h.head]
  rfl
/-- At the beginning of a line. -/
theorem line_law {m : MFile} (h : GoodL m.size m.lines) {k : Nat} (hk : k < m.lines.length) : lnP m (m.base + m.lines.getD k 0) = k + 1 ∧ clP m (m.base + m.lines.getD k 0) = 1 := by
  have b1 := h.nneg hk
  have b2 := h.ltk hk
  have e : offP m (m.base + m.lines.getD k 0) = m.lines.getD k 0 := by rw [offP_in (by omega) (by omega)]; omega
  unfold lnP clP
  rw [e, cnt_self h.inc hk]
  simp
/-- Behind a merge. -/
theorem merge_law {m : MFile} (h : GoodL m.size m.lines) {j : Nat} (h1 : 1 ≤ j) (h2 : j < m.lines.length) (x : Int) (hx : 0 ≤ x) :
    (cnt m.lines x ≤ j → cnt (m.lines.eraseIdx j) x = cnt m.lines x ∧ (m.lines.eraseIdx j).getD (cnt m.lines x - 1) 0 = m.lines.getD (cnt m.lines x - 1) 0) ∧
    (cnt m.lines x = j + 1 → cnt (m.lines.eraseIdx j) x = j ∧ (m.lines.eraseIdx j).getD (j - 1) 0 = m.lines.getD (j - 1) 0) ∧
    (j + 1 < cnt m.lines x → cnt (m.lines.eraseIdx j) x = cnt m.lines x - 1 ∧ (m.lines.eraseIdx j).getD (cnt m.lines x - 1 - 1) 0 = m.lines.getD (cnt m.lines x - 1) 0) := by
  have hl : (m.lines.eraseIdx j).length = m.lines.length - 1 := by rw [List.length_eraseIdx, if_pos h2]
  have hi := inc_erase h.inc j
  have hc := h.cnt_pos hx
  have hcl := cnt_le m.lines x
  have ha := cnt_at h.inc x hc
  generalize hq : cnt m.lines x = c at *
  refine ⟨fun hle => ?_, fun he => ?_, fun hgt => ?_⟩
  · refine ⟨cnt_eq hi (by omega) (.inr ?_) ?_, ?_⟩
    · rw [eraseIdx_getD, if_pos (by omega)]; exact ha
    · rcases Nat.lt_or_ge c (m.lines.length - 1) with h' | h'
      · refine .inr ?_
        rw [eraseIdx_getD]
        have hn := cnt_next h.inc x (by omega)
        rw [hq] at hn
        split
        · exact hn
        · have := h.inc.getD_lt (show c < c + 1 by omega) (by omega)
          omega
      · exact .inl (by omega)
    · rw [eraseIdx_getD, if_pos (by omega)]
  · subst he
    refine ⟨cnt_eq hi (by omega) (.inr ?_) ?_, ?_⟩
    · rw [eraseIdx_getD, if_pos (by omega)]
      have := h.inc.getD_lt (show j - 1 < j by omega) h2
      have e : j + 1 - 1 = j := by omega
      rw [e] at ha
      omega
    · rcases Nat.lt_or_ge (j + 1) m.lines.length with h' | h'
      · refine .inr ?_
        rw [eraseIdx_getD, if_neg (by omega)]
        have hn := cnt_next h.inc x (by omega)
        rw [hq] at hn
        exact hn
      · exact .inl (by omega)
    · rw [eraseIdx_getD, if_pos (by omega)]
  · refine ⟨cnt_eq hi (by omega) (.inr ?_) ?_, ?_⟩
    · rw [eraseIdx_getD, if_neg (by omega), show c - 1 - 1 + 1 = c - 1 by omega]; exact ha
    · rcases Nat.lt_or_ge c m.lines.length with h' | h'
      · refine .inr ?_
        rw [eraseIdx_getD, if_neg (by omega), show c - 1 + 1 = c by omega]
        have hn := cnt_next h.inc x (by omega)
        rw [hq] at hn
        exact hn
      · exact .inl (by omega)
    · rw [eraseIdx_getD, if_neg (by omega), show c - 1 - 1 + 1 = c - 1 by omega]

theorem pos_good (fv : Value) (fs : List GFile) (k : Int) (m : MFile) (p : Int) (w : World) (hf : Files w fv fs) (hk : HasK fs k m) (hs : 0 < m.size) (hp : p ≠ 0) (g5 : -4398046511104 ≤ p) (g6 : p ≤ 4398046511104) :
    Calls Tryz.prog 5 #[fv, .int .i64 k, .int .i64 p] w fun e w' => e = .returned (.agg #[.string m.name, .int .i64 (offP m p), .int .i64 (lnP m p), .int .i64 (clP m p)]) ∧ Below w.heap.size w w' := by
  have := implPosition_at fv fs k.toNat m p w hf hk.1 hk.2.2 g5 g6
  rw [Int.toNat_of_nonneg hk.2.1, placeOf_good (good_of hk.1 hk.2.2 hs) hp (by omega)] at this
  exact this
theorem pos_zero (fv : Value) (fs : List GFile) (k : Int) (m : MFile) (w : World) (hf : Files w fv fs) (hk : HasK fs k m) :
    Calls Tryz.prog 5 #[fv, .int .i64 k, .int .i64 0] w fun e w' => e = .returned (.agg #[.string ⟨#[]⟩, .int .i64 0, .int .i64 0, .int .i64 0]) ∧ Below w.heap.size w w' := by
  have := implPosition_at fv fs k.toNat m 0 w hf hk.1 hk.2.2 (by omega) (by omega)
  rw [Int.toNat_of_nonneg hk.2.1] at this
  exact this
theorem hasK_bd {fs : List GFile} {k : Int} {m : MFile} (hk : HasK fs k m) : 1 ≤ m.base ∧ 0 ≤ m.size ∧ m.size ≤ 1099511627776 ∧ m.base ≤ 1099511627776 := by
  obtain ⟨a, b, c, d, _⟩ := (valid_bounds hk.1).2 m (List.mem_of_getElem? hk.2.2)
  exact ⟨a, b, c, d⟩
end Go.Proofs.YtmijedghihebjaaGreatFmt
