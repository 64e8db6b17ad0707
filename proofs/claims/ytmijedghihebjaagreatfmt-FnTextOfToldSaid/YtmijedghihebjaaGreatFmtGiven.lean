/- laws.given: the files for the reference. -/
import Derived.Test.YtmijedghihebjaaGreatFmtPick
namespace Go.Proofs.YtmijedghihebjaaGreatFmt
open Go.RowKit Go.MuLone Go.RwLone

theorem Tryz.infosEdit : (Tryz.prog.info? 72).map (fun i => (i.zero, i.size, i.bytes)) = some (some (.agg #[.int .i64 0, .slice none 0 0, .int .i64 0]), 3, 40) := by kernel_rfl
theorem Tryz.infosGiven : (Tryz.prog.info? 71).map (fun i => (i.zero, i.size, i.bytes)) = some (some (.agg #[.string ⟨#[]⟩, .int .i64 0, .int .i64 0, .slice none 0 0]), 4, 56) := by kernel_rfl

/-- Rows of edits, owned; the lines lie in the world w0. -/
def OwnEdits (w0 w : World) (B : Nat) (v : Value) (es : List GEdit) : Prop := ∃ rs, OwnsL w B 72 3 v rs ∧ rs.length = es.length ∧ ∀ (k : Nat) (e : GEdit), es[k]? = some e → ∃ r, rs[k]? = some r ∧ EditRow w0 e r
def OwnRow (w0 w : World) (B : Nat) (f : GFile) (r : List Value) : Prop := ∃ ev, r = [.string f.name, .int .i64 f.base, .int .i64 f.size, ev] ∧ OwnEdits w0 w B ev f.edits ∧ f.edits.length * 40 ≤ 140737488355328
def OwnGivens (w0 w : World) (B : Nat) (v : Value) (fs : List GFile) : Prop := ∃ rs, OwnsL w B 71 4 v rs ∧ rs.length = fs.length ∧ ∀ (k : Nat) (f : GFile), fs[k]? = some f → ∃ r, rs[k]? = some r ∧ OwnRow w0 w B f r

theorem OwnEdits.off {w0 w w' : World} {M : Nat → Prop} {B : Nat} {v : Value} {es : List GEdit} (h : OwnEdits w0 w B v es) (hc : Chg M w w') (ho : Off w M [72]) : OwnEdits w0 w' B v es := by
  obtain ⟨rs, h1, h2, h3⟩ := h
  exact ⟨rs, ⟨h1.1, owns_chg h1.2 hc (ho.own h1.2 (by simp))⟩, h2, h3⟩
theorem OwnEdits.edits {w0 w : World} {B : Nat} {v : Value} {es : List GEdit} (h : OwnEdits w0 w B v es) (hl : es.length * 40 ≤ 140737488355328) (hb : Below w0.heap.size w0 w) : Edits w v es := by
  obtain ⟨rs, h1, h2, h3⟩ := h
  refine ⟨hl, rs, h1.rows, h2, fun k e hk => ?_⟩
  obtain ⟨r, hr, he⟩ := h3 k e hk
  exact ⟨r, hr, he.below hb⟩
theorem OwnGivens.files {w0 w : World} {B : Nat} {v : Value} {fs : List GFile} (h : OwnGivens w0 w B v fs) (hl : fs.length * 56 ≤ 140737488355328) (hb : Below w0.heap.size w0 w) : Files w v fs := by
  obtain ⟨rs, h1, h2, h3⟩ := h
  refine ⟨hl, rs, h1.rows, h2, fun k e hk => ?_⟩
  obtain ⟨r, hr, ev, he, h4, h5⟩ := h3 k e hk
  exact ⟨r, hr, ev, he, h4.edits h5 hb⟩
theorem snoc_at {α : Type} {l : List α} {x : α} {k : Nat} {y : α} (h : (l ++ [x])[k]? = some y) : (k < l.length ∧ l[k]? = some y) ∨ (k = l.length ∧ y = x) := by
  rcases Nat.lt_or_ge k l.length with hk | hk
  · rw [List.getElem?_append_left hk] at h; exact .inl ⟨hk, h⟩
  · rw [List.getElem?_append_right hk] at h
    obtain ⟨h0, h1⟩ := List.getElem?_eq_some_iff.1 h
    simp at h0 h1
    exact .inr ⟨by omega, h1.symm⟩
theorem at_snoc {α : Type} {l : List α} {x y : α} {k : Nat} (h : l[k]? = some y) : (l ++ [x])[k]? = some y := by
  rw [List.getElem?_append_left (List.getElem?_eq_some_iff.1 h).1]; exact h
theorem OwnEdits.snoc {w0 w : World} {B : Nat} {v : Value} {es : List GEdit} {rs : List (List Value)} {e : GEdit} {r : List Value} (h1 : AllLen 3 rs) (h2 : rs.length = es.length) (h3 : ∀ (k : Nat) (e : GEdit), es[k]? = some e → ∃ r, rs[k]? = some r ∧ EditRow w0 e r)
    (ho : w.ownsRow B 72 3 v (rs.length + 1) (rs.flatten ++ r)) (hr : EditRow w0 e r) : OwnEdits w0 w B v (es ++ [e]) := by
  have hl : r.length = 3 := by obtain ⟨lv, rfl, _⟩ := hr; rfl
  refine ⟨rs ++ [r], OwnsL.snoc h1 hl ho, by simp [h2], fun k x hk => ?_⟩
  rcases snoc_at hk with ⟨_, hk⟩ | ⟨rfl, rfl⟩
  · obtain ⟨r', hr', he⟩ := h3 k x hk
    exact ⟨r', at_snoc hr', he⟩
  · exact ⟨r, by rw [← h2]; simp, hr⟩

theorem cells_fresh {w : World} {g : Nat} {cs : List Value} {t : TypeId} (h : w.heap[g]? = some (.cells cs.toArray t (0, 0))) : Cells w cs.length (.slice (some ⟨g, 0, none⟩) 1 1) 1 cs :=
  ⟨by simp, _, _, rfl, .inr ⟨g, 0, rfl, fun j u hj => by rw [cell_of h]; simpa using hj⟩⟩

theorem OwnGivens.snoc {w0 w : World} {B : Nat} {v : Value} {fs : List GFile} {rs : List (List Value)} {f : GFile} {r : List Value} (h1 : AllLen 4 rs) (h2 : rs.length = fs.length) (h3 : ∀ (k : Nat) (f : GFile), fs[k]? = some f → ∃ r, rs[k]? = some r ∧ OwnRow w0 w B f r)
    (ho : w.ownsRow B 71 4 v (rs.length + 1) (rs.flatten ++ r)) (hr : OwnRow w0 w B f r) : OwnGivens w0 w B v (fs ++ [f]) := by
  have hl : r.length = 4 := by obtain ⟨lv, rfl, _⟩ := hr; rfl
  refine ⟨rs ++ [r], OwnsL.snoc h1 hl ho, by simp [h2], fun k x hk => ?_⟩
  rcases snoc_at hk with ⟨_, hk⟩ | ⟨rfl, rfl⟩
  · obtain ⟨r', hr', he⟩ := h3 k x hk
    exact ⟨r', at_snoc hr', he⟩
  · exact ⟨r, by rw [← h2]; simp, hr⟩

def LeavesGiven (fs : List GFile) (w : World) (e : Ending) (w' : World) : Prop := ∃ v, e = .returned v ∧ Files w' v fs ∧ Below w.heap.size w w'

set_option maxRecDepth 100000 in
set_option maxHeartbeats 1000000 in
theorem given_any (fv : Value) (fs : List GFile) (w : World) (hf : Files w fv fs) : Calls Tryz.prog 21 #[fv] w (LeavesGiven fs w) := by
  obtain ⟨i0, hi, hz0, hz1, hz2⟩ := info_parts Tryz.infosEdit
  obtain ⟨j0, hj, hy0, hy1, hy2⟩ := info_parts Tryz.infosGiven
  obtain ⟨fa, fc, rfl, hcell⟩ := hf.cell
  have hlen := hf.1
  obtain ⟨rsf, hrf⟩ := hf.2
  have HC := Lib.hid hcell
  have HF := Lib.hid hf
  have HO : Hid (OwnGivens w (w.alloc (.cells #[] 71)) w.heap.size (.slice (some ⟨w.heap.size, 0, none⟩) 0 0) (fs.take 0)) := by
    refine ⟨[], OwnsL.empty (World.ownsRow_made w #[] 0 (Nat.le_refl _) (by simp [maxLen]) (by simp)), by simp, fun k f hk => by simp at hk⟩
  have hb0 : Below w.heap.size w (w.alloc (.cells #[] 71)) := (Below.refl _ _).alloc (Nat.le_refl _) _
  clear hf hcell hrf
  go_enter Tryz.func21, Tryz.ntmps21
  go_wp2_with fail
  go_loopg [12, 3] fs.length (fun k v ov wr => ∃ (i : Nat), v = .int .i64 i ∧ i ≤ fs.length ∧ k = fs.length - i ∧ OwnGivens w wr w.heap.size ov (fs.take i) ∧ Below w.heap.size w wr)
  case atStart => exact ⟨0, rfl, by omega, by omega, HO.out, hb0⟩
  case round =>
    rename World => wo
    obtain ⟨i, rfl, hi', rfl, hO, hbr⟩ := hrel
    clear HO hb0
    obtain ⟨rs, hOw, hrl, hrows⟩ := hO
    have hgl : (fs.take i).length = i := by rw [List.length_take]; omega
    have hfm : ∃ a c, u3 = .slice a rs.length c := by
      rcases hOw.2.2 with ⟨h, h'⟩ | ⟨g, cap, cur, h, _⟩
      · exact ⟨_, _, by rw [h, h']⟩
      · exact ⟨_, _, h⟩
    rw [hgl] at hrl
    rw [hrl] at hfm
    obtain ⟨oa, oc, rfl⟩ := hfm
    have HRL := Lib.hid hrl
    have HGL := Lib.hid hgl
    clear hrl hgl
    by_cases hlt : i < fs.length
    · obtain ⟨f, hfk⟩ : ∃ f, fs[i]? = some f := ⟨_, List.getElem?_eq_getElem hlt⟩
      obtain ⟨g, o, ev, rfl, c0, c1, c2, c3, hE⟩ := HC.out i f hfk
      have d0 := (hbr.cell (p := ⟨g, o + i * 4, none⟩) (World.block_lt_of_cell? w _ c0)).trans c0
      have d1 := (hbr.cell (p := ⟨g, o + i * 4 + 1, none⟩) (World.block_lt_of_cell? w _ c1)).trans c1
      have d2 := (hbr.cell (p := ⟨g, o + i * 4 + 2, none⟩) (World.block_lt_of_cell? w _ c2)).trans c2
      have d3 := (hbr.cell (p := ⟨g, o + i * 4 + 3, none⟩) (World.block_lt_of_cell? w _ c3)).trans c3
      have HK := Lib.hid hfk
      obtain ⟨ea, ec, rfl, hEc⟩ := hE.cell
      have HEc := Lib.hid hEc
      have heL := hE.1
      obtain ⟨ers, her⟩ := hE.2
      have HER := Lib.hid her
      clear hE hEc hfk c0 c1 c2 c3 her
      obtain ⟨name, base, size, edits⟩ := f
      simp only at d0 d1 d2 d3 heL HEc HER
      have hsz := hbr.size
      go_wp2_with fail
      have G0 : ((wo.alloc (.cells #[.string name, .int .i64 base, .int .i64 size, .slice ea edits.length ec] 64)).alloc (.cells #[.string name, .int .i64 base, .int .i64 size, .slice none 0 0] 71)).heap[wo.heap.size + 1]? = some (.cells #[.string name, .int .i64 base, .int .i64 size, .slice none 0 0] 71 (0, 0)) := by
        have := heap_new (wo.alloc (.cells #[.string name, .int .i64 base, .int .i64 size, .slice ea edits.length ec] 64)) (.cells #[.string name, .int .i64 base, .int .i64 size, .slice none 0 0] 71)
        rwa [World.size_alloc] at this
      have B0 : Below wo.heap.size wo ((wo.alloc (.cells #[.string name, .int .i64 base, .int .i64 size, .slice ea edits.length ec] 64)).alloc (.cells #[.string name, .int .i64 base, .int .i64 size, .slice none 0 0] 71)) := ((Below.refl _ _).alloc (Nat.le_refl _) _).alloc (by simp) _
      have E0 : OwnEdits w ((wo.alloc (.cells #[.string name, .int .i64 base, .int .i64 size, .slice ea edits.length ec] 64)).alloc (.cells #[.string name, .int .i64 base, .int .i64 size, .slice none 0 0] 71)) wo.heap.size (.slice none 0 0) (edits.take 0) :=
        ⟨[], OwnsL.empty (World.ownsRow_nil _ _ _ _), by simp, fun k e hk => by simp at hk⟩
      clear d0 d1 d2 d3
      have HOw := Lib.hid hOw
      have HRows := Lib.hid hrows
      clear hOw hrows
      go_loopg [26] edits.length (fun k v wl => ∃ (j : Nat) (ev : Value), v = .int .i64 j ∧ j ≤ edits.length ∧ k = edits.length - j ∧ Below wo.heap.size wo wl ∧ wl.heap[wo.heap.size + 1]? = some (.cells #[.string name, .int .i64 base, .int .i64 size, ev] 71 (0, 0)) ∧ OwnEdits w wl wo.heap.size ev (edits.take j))
      case atStart => exact ⟨0, _, rfl, by omega, by omega, B0, G0, E0⟩
      case round =>
        rename World => wl
        obtain ⟨j, ev, rfl, hj', rfl, hBl, hG, hEd⟩ := hrel
        clear G0 B0 E0
        obtain ⟨ers', hE1, hE2, hE3⟩ := hEd
        have hel : (edits.take j).length = j := by rw [List.length_take]; omega
        rw [hel] at hE2
        obtain ⟨va, vc, rfl⟩ : ∃ a c, ev = .slice a j c := by
          rcases hE1.2.2 with ⟨h, h'⟩ | ⟨g, cap, cur, h, _⟩
          · exact ⟨_, _, by rw [h, ← hE2, h']⟩
          · exact ⟨_, _, by rw [h, hE2]⟩
        have HE3 := Lib.hid hE3
        have HE2 := Lib.hid hE2
        have HAL := Lib.hid hE1.1
        have hEo := hE1.2
        rw [hE2] at hEo
        have hG3 : wl.cell? ⟨wo.heap.size + 1, 3, none⟩ = some (.slice va j vc) := by rw [cell_of hG]; rfl
        have hszl := hBl.size
        have hgbl : wo.heap.size + 1 < wl.heap.size := lt_of_heap hG
        clear hE1 hE2 hE3 hel
        by_cases hjl : j < edits.length
        · obtain ⟨ed, hek⟩ : ∃ ed, edits[j]? = some ed := ⟨_, List.getElem?_eq_getElem hjl⟩
          obtain ⟨eg, eo, elv, rfl, e0, e1, e2, hI, hIl⟩ := HEc.out j ed hek
          have hbl : Below w.heap.size w wl := hbr.trans (hBl.mono hsz)
          have f0 := (hbl.cell (p := ⟨eg, eo + j * 3, none⟩) (World.block_lt_of_cell? w _ e0)).trans e0
          have f1 := (hbl.cell (p := ⟨eg, eo + j * 3 + 1, none⟩) (World.block_lt_of_cell? w _ e1)).trans e1
          have f2 := (hbl.cell (p := ⟨eg, eo + j * 3 + 2, none⟩) (World.block_lt_of_cell? w _ e2)).trans e2
          obtain ⟨la, lc, rfl⟩ : ∃ la lc, elv = .slice la ed.lines.length lc := by obtain ⟨a, c, h, _⟩ := hI; exact ⟨a, c, by simpa using h⟩
          have HER : Hid (EditRow w ed [.int .i64 ed.kind, .slice la ed.lines.length lc, .int .i64 ed.line]) := ⟨_, rfl, hI, hIl⟩
          have HEK := Lib.hid hek
          clear e0 e1 e2 hI hbl hek hIl
          obtain ⟨ef, hef⟩ : ∃ ef, ef = ers'.flatten := ⟨_, rfl⟩
          rw [← hef] at hEo
          have HEF := Lib.hid hef
          clear hef
          have g1 : ((wl.alloc (.cells #[.int .i64 ed.kind, .slice la ed.lines.length lc, .int .i64 ed.line] 67))).cell? ⟨wo.heap.size + 1, 3, none⟩ = some (.slice va j vc) := by rw [World.cell?_alloc_lt _ _ _ hgbl]; exact hG3
          have hEo2 := (hEo.alloc (.cells #[.int .i64 ed.kind, .slice la ed.lines.length lc, .int .i64 ed.line] 67)).alloc (.cells #[.int .i64 ed.kind, .slice la ed.lines.length lc, .int .i64 ed.line] 72)
          go_wp2_with (at_builtin; refine wpList_append_any rfl _ _ 69 rfl wo.heap.size 72 i0 (.agg #[.int .i64 0, .slice none 0 0, .int .i64 0]) 3 40 Tryz.underlying69 hi hz0 hz1 hz2 rfl (by decide) _ _ _ rfl hEo2 (.slice (some ⟨wl.heap.size + 1, 0, none⟩) 1 1) 1 [.int .i64 ed.kind, .slice la ed.lines.length lc, .int .i64 ed.line] rfl ?c2 ?c3 ?c4 ?c5 ?c6 ?_)
          case c2 =>
            have := heap_new (wl.alloc (.cells #[.int .i64 ed.kind, .slice la ed.lines.length lc, .int .i64 ed.line] 67)) (.cells #[.int .i64 ed.kind, .slice la ed.lines.length lc, .int .i64 ed.line] 72)
            rw [World.size_alloc] at this
            exact cells_fresh (cs := [_, _, _]) this
          case c3 => intro u hu; simp at hu; rcases hu with rfl | rfl | rfl <;> rfl
          case c4 => unfold maxLen; omega
          case c5 => omega
          case c6 => simp; omega
          · intro nv w6 own6 grow6
            have K6 : Chg (fun k => (Value.slice va j vc).ownBlock = some k) wl w6 := (((Chg.refl _ _).alloc _).alloc _).trans (Chg.of_grown grow6 fun k h => h)
            have G6 := K6.at hG (fun h => off_row (ts := [71]) hEo (by decide) _ _ _ _ h hG (by simp))
            have B6 : Below wo.heap.size wo w6 := K6.below_of hBl hszl (fun k h => (hEo.lt k h).1)
            have hfm : ∃ a c, nv = .slice a (j + 1) c := by
              rcases own6.2 with ⟨h, h'⟩ | ⟨g, cap, cur, h, _⟩
              · omega
              · exact ⟨_, _, h⟩
            obtain ⟨na, nc, rfl⟩ := hfm
            have c63 : w6.cell? ⟨wo.heap.size + 1, 3, none⟩ = some (.slice va j vc) := by rw [cell_of G6]; rfl
            have z63 := free_of G6 3
            have G7 : (w6.setCell ⟨wo.heap.size + 1, 3, none⟩ (.slice na (j + 1) nc)).heap[wo.heap.size + 1]? = some (.cells #[.string name, .int .i64 base, .int .i64 size, .slice na (j + 1) nc] 71 (0, 0)) := (heap_set G6 3 _).trans rfl
            have B7 : Below wo.heap.size wo (w6.setCell ⟨wo.heap.size + 1, 3, none⟩ (.slice na (j + 1) nc)) := B6.setCell (by show wo.heap.size ≤ wo.heap.size + 1; omega) _
            have E7 : OwnEdits w (w6.setCell ⟨wo.heap.size + 1, 3, none⟩ (.slice na (j + 1) nc)) wo.heap.size (.slice na (j + 1) nc) (edits.take (j + 1)) := by
              rw [take_snoc HEK.out]
              have h2 := HE2.out
              have hlt2 : (edits.take j).length = j := by rw [List.length_take]; omega
              refine (OwnEdits.snoc (w := w6) HAL.out (by rw [h2, hlt2]) HE3.out (by rw [h2, ← HEF.out]; exact own6) HER.out).off (M := fun k => k = wo.heap.size + 1) (by refine Chg.set (Chg.refl _ _) ?_ _; simp) ?_
              rintro g c t fr rfl hh
              rw [G6] at hh
              simp at hh
              rw [← hh.2.1]
              decide
            clear own6 grow6 K6 G6 B6 hEo hEo2 hG HE3 HE2 HAL HEF HER HEK f0 f1 f2 hG3 g1
            go_wp2
            go_roundg (edits.length - (j + 1))
            case measure => omega
            case rel => exact ⟨j + 1, _, by go_num, by omega, rfl, B7, G7, E7⟩
        · have hj2 : j = edits.length := by omega
          subst hj2
          rw [List.take_length] at HE3
          have hOw := owns_chg HOw.out.2 (Chg.of_below (M := fun _ => False) hBl) (fun _ _ => id)
          rw [HRL.out] at hOw
          obtain ⟨rf, hrf⟩ : ∃ rf, rf = rs.flatten := ⟨_, rfl⟩
          rw [← hrf] at hOw
          have HRF := Lib.hid hrf
          have hns : ¬ ((edits.length : Int) < (edits.length : Int)) := by omega
          have l0 : wl.cell? ⟨wo.heap.size + 1, 0, none⟩ = some (.string name) := by rw [cell_of hG]; rfl
          have l1 : wl.cell? ⟨wo.heap.size + 1, 1, none⟩ = some (.int .i64 base) := by rw [cell_of hG]; rfl
          have l2 : wl.cell? ⟨wo.heap.size + 1, 2, none⟩ = some (.int .i64 size) := by rw [cell_of hG]; rfl
          have HBl := Lib.hid hBl
          have HEO := Lib.hid hEo
          clear hjl hj' hrf hBl hEo hG
          go_wp2_with (at_builtin; refine wpList_append_any rfl _ _ 57 rfl w.heap.size 71 j0 (.agg #[.string ⟨#[]⟩, .int .i64 0, .int .i64 0, .slice none 0 0]) 4 56 Tryz.underlying57 hj hy0 hy1 hy2 rfl (by decide) _ _ _ rfl (hOw.alloc _) (.slice (some ⟨wl.heap.size, 0, none⟩) 1 1) 1 [.string name, .int .i64 base, .int .i64 size, .slice va edits.length vc] rfl ?c2 ?c3 ?c4 ?c5 ?c6 ?_)
          case c2 => exact cells_fresh (cs := [_, _, _, _]) (heap_new _ _)
          case c3 => exact ⟨rfl, rfl, rfl, rfl⟩
          case c4 => unfold maxLen; omega
          case c5 => omega
          case c6 => omega
          · intro nv w6 own6 grow6
            have K6 : Chg (fun k => (Value.slice oa i oc).ownBlock = some k) wl w6 := ((Chg.refl _ _).alloc _).trans (Chg.of_grown grow6 fun k h => h)
            have B6 : Below w.heap.size w w6 := K6.below_of (hbr.trans (HBl.out.mono hsz)) (by omega) (fun k h => (hOw.lt k h).1)
            have O6 : Off wl (fun k => (Value.slice oa i oc).ownBlock = some k) [72] := off_row hOw (by decide)
            have hfin : OwnGivens w w6 w.heap.size nv (fs.take (i + 1)) := by
              rw [take_snoc HK.out]
              have h2 := HRL.out
              have h3 := HGL.out
              refine OwnGivens.snoc (rs := rs) (r := [.string name, .int .i64 base, .int .i64 size, .slice va edits.length vc]) HOw.out.1 (by rw [h2, h3]) ?_ (by rw [h2, ← HRF.out]; exact own6) ?_
              · intro k f hk
                obtain ⟨r, hr, ev, he, hee, hel⟩ := HRows.out k f hk
                refine ⟨r, hr, ev, he, ?_, hel⟩
                exact (hee.off (Chg.of_below (M := fun _ => False) HBl.out) (fun _ _ _ _ h => h.elim)).off K6 O6
              · refine ⟨_, rfl, ?_, heL⟩
                refine OwnEdits.off (w := wl) ⟨ers', ⟨HAL.out, ?_⟩, HE2.out, HE3.out⟩ K6 O6
                rw [HE2.out]
                exact owns_mono HEO.out hsz
            have HFIN := Lib.hid hfin
            have hfm : ∃ a c, nv = .slice a (i + 1) c := by
              rcases own6.2 with ⟨h, h'⟩ | ⟨g, cap, cur, h, _⟩
              · omega
              · exact ⟨_, _, h⟩
            obtain ⟨na, nc, rfl⟩ := hfm
            clear hfin own6 grow6 K6 O6 hOw HOw HRows HRL HGL HRF HEO HE3 HE2 HAL HBl l0 l1 l2 hG3
            go_wp2
            go_roundg (fs.length - (i + 1))
            case measure => omega
            case rel => exact ⟨i + 1, by go_num, by omega, rfl, HFIN.out, B6⟩
    · have hi2 : i = fs.length := by omega
      subst hi2
      have hfin : Files wo (.slice oa fs.length oc) fs := by
        refine OwnGivens.files (w0 := w) (B := w.heap.size) ⟨rs, hOw, ?_, ?_⟩ hlen hbr
        · rw [HRL.out]
        · rw [List.take_length] at hrows; exact hrows
      have HFIN := Lib.hid hfin
      have hns : ¬ ((fs.length : Int) < (fs.length : Int)) := by omega
      clear hfin hOw hrows hlt
      go_wp2
      go_ret
      exact ⟨_, rfl, HFIN.out, hbr⟩
end Go.Proofs.YtmijedghihebjaaGreatFmt
