/- spec.Next, spec.Made. -/
import Derived.Test.YtmijedghihebjaaGreatFmtSpecM
import Derived.Test.YtmijedghihebjaaGreatFmtPlain
namespace Go.Proofs.YtmijedghihebjaaGreatFmt
open Go.RowKit Go.MuLone Go.RwLone

theorem Tryz.infosFile : (Tryz.prog.info? 26).map (fun i => (i.zero, i.size, i.bytes)) = some (some (.agg #[.string ⟨#[]⟩, .int .i64 0, .int .i64 0, .slice none 0 0, .slice none 0 0]), 5, 80) := by kernel_rfl

/-- Rows of memory that hold made files. -/
def MadeRow (w : World) (m : MFile) (r : List Value) : Prop := ∃ lv yv, r = [.string m.name, .int .i64 m.base, .int .i64 m.size, lv, yv] ∧ Ints w lv m.lines ∧ Reads w yv (m.yes.map Value.bool) ∧ m.lines.length * 8 ≤ 140737488355328 ∧ m.yes.length * 40 ≤ 140737488355328
def Mades (w : World) (v : Value) (ms : List MFile) : Prop := ms.length * 56 ≤ 140737488355328 ∧ ∃ rs, RowsL w 5 v rs ∧ rs.length = ms.length ∧ ∀ (k : Nat) (m : MFile), ms[k]? = some m → ∃ r, rs[k]? = some r ∧ MadeRow w m r
theorem MadeRow.below {w w' : World} {m : MFile} {r : List Value} (h : MadeRow w m r) (hb : Below w.heap.size w w') : MadeRow w' m r := by
  obtain ⟨lv, yv, hr, h1, h2, h3⟩ := h
  exact ⟨lv, yv, hr, h1.below hb, h2.below hb, h3⟩
theorem Mades.below {w w' : World} {v : Value} {ms : List MFile} (h : Mades w v ms) (hb : Below w.heap.size w w') : Mades w' v ms := by
  obtain ⟨hl, rs, hr, hn, h⟩ := h
  refine ⟨hl, rs, hr.below hb, hn, fun k e hk => ?_⟩
  obtain ⟨r, hk, he⟩ := h k e hk
  exact ⟨r, hk, he.below hb⟩
theorem Mades.cell {w : World} {v : Value} {ms : List MFile} (h : Mades w v ms) : ∃ a c, v = .slice a ms.length c ∧
    ∀ (k : Nat) (m : MFile), ms[k]? = some m → ∃ g o lv yv, a = some ⟨g, o, none⟩ ∧ w.cell? ⟨g, o + k * 5, none⟩ = some (.string m.name) ∧ w.cell? ⟨g, o + k * 5 + 1, none⟩ = some (.int .i64 m.base) ∧ w.cell? ⟨g, o + k * 5 + 2, none⟩ = some (.int .i64 m.size) ∧
      w.cell? ⟨g, o + k * 5 + 3, none⟩ = some lv ∧ w.cell? ⟨g, o + k * 5 + 4, none⟩ = some yv ∧ Ints w lv m.lines ∧ Reads w yv (m.yes.map Value.bool) ∧ m.lines.length * 8 ≤ 140737488355328 ∧ m.yes.length * 40 ≤ 140737488355328 := by
  obtain ⟨_, rs, hr, hn, h⟩ := h
  obtain ⟨a, c, rfl, hc⟩ := hr.cell
  refine ⟨a, c, by rw [hn], fun k e hk => ?_⟩
  obtain ⟨r, hrk, lv, yv, rfl, hi⟩ := h k e hk
  rcases hc with rfl | ⟨g, o, rfl, hc⟩
  · simp at hrk
  · have := hc k _ hrk
    exact ⟨g, o, lv, yv, rfl, this 0 _ rfl, this 1 _ rfl, this 2 _ rfl, this 3 _ rfl, this 4 _ rfl, hi⟩

set_option maxRecDepth 100000 in
theorem next_any (v : Value) (ms : List MFile) (w : World) (h : Mades w v ms) (hb : ∀ m ∈ ms, 0 ≤ m.size ∧ m.size ≤ 1099511627776 ∧ 0 ≤ m.base ∧ m.base ≤ 1099511627776) :
    Calls Tryz.prog 30 #[v] w fun e w' => e = .returned (.int .i64 (nextOf ms 1)) ∧ Below w.heap.size w w' := by
  obtain ⟨a, c, rfl, hc⟩ := h.cell
  have hlen := h.1
  rcases List.eq_nil_or_concat ms with rfl | ⟨l, f, rfl⟩
  · rw [show nextOf [] 1 = 1 from rfl]
    clear hc h hb hlen
    go_enter Tryz.func30, Tryz.ntmps30
    go_wp2
    go_ret
    exact ⟨rfl, Below.refl _ _⟩
  · rw [List.concat_eq_append] at *
    rw [nextOf_append]
    obtain ⟨g, o, lv, yv, rfl, c0, c1, c2, c3, c4, ⟨la, lc, rfl, _⟩, ⟨xa, xc, rfl, _⟩, _⟩ := hc l.length f (by simp)
    obtain ⟨b1, b2, b3, b4⟩ := hb f (by simp)
    simp only [List.length_append, List.length_singleton] at hlen ⊢
    have hn : f.next = f.base + f.size + 1 := rfl
    rw [hn]
    obtain ⟨n, hnl⟩ : ∃ n, n = l.length := ⟨_, rfl⟩
    rw [← hnl] at c0 c1 c2 c3 c4 hlen ⊢
    obtain ⟨name, base, size, lines, yes⟩ := f
    simp only at c0 c1 c2 c3 c4 b1 b2 b3 b4 ⊢
    generalize (lines.map (Value.int .i64)).length = l1 at *
    generalize (yes.map Value.bool).length = l2 at *
    have HB : Below w.heap.size w (w.alloc (.cells #[.string name, .int .i64 base, .int .i64 size, .slice la l1 lc, .slice xa l2 xc] 26)) := (Below.refl _ _).alloc (Nat.le_refl _) _
    clear hc h hb hn hnl
    go_enter Tryz.func30, Tryz.ntmps30
    go_wp2
    go_ret
    exact ⟨rfl, HB⟩

/-- A made file in memory, its lines and answers owned. -/
def OwnMade (w : World) (B : Nat) (m : MFile) (r : List Value) : Prop := ∃ lv yv, r = [.string m.name, .int .i64 m.base, .int .i64 m.size, lv, yv] ∧ w.ownsRow B 3 1 lv m.lines.length (m.lines.map (Value.int .i64)) ∧ w.ownsRow B 4 1 yv m.yes.length (m.yes.map Value.bool) ∧ m.lines.length * 8 ≤ 140737488355328 ∧ m.yes.length * 40 ≤ 140737488355328
def OwnMades (w : World) (B : Nat) (v : Value) (ms : List MFile) : Prop := ∃ rs, OwnsL w B 26 5 v rs ∧ rs.length = ms.length ∧ ∀ (k : Nat) (m : MFile), ms[k]? = some m → ∃ r, rs[k]? = some r ∧ OwnMade w B m r
theorem OwnMade.off {w w' : World} {M : Nat → Prop} {B : Nat} {m : MFile} {r : List Value} (h : OwnMade w B m r) (hc : Chg M w w') (ho : Off w M [3, 4]) : OwnMade w' B m r := by
  obtain ⟨lv, yv, h1, h2, h3, h4⟩ := h
  exact ⟨lv, yv, h1, owns_chg h2 hc (ho.own h2 (by simp)), owns_chg h3 hc (ho.own h3 (by simp)), h4⟩
theorem OwnMade.mono {w : World} {B B' : Nat} {m : MFile} {r : List Value} (h : OwnMade w B m r) (hb : B' ≤ B) : OwnMade w B' m r := by
  obtain ⟨lv, yv, h1, h2, h3, h4⟩ := h
  exact ⟨lv, yv, h1, owns_mono h2 hb, owns_mono h3 hb, h4⟩
theorem OwnMades.mono {w : World} {B B' : Nat} {v : Value} {ms : List MFile} (h : OwnMades w B v ms) (hb : B' ≤ B) : OwnMades w B' v ms := by
  obtain ⟨rs, h1, h2, h3⟩ := h
  refine ⟨rs, ⟨h1.1, owns_mono h1.2 hb⟩, h2, fun k m hk => ?_⟩
  obtain ⟨r, hr, he⟩ := h3 k m hk
  exact ⟨r, hr, he.mono hb⟩
theorem OwnMades.below {w w' : World} {B : Nat} {v : Value} {ms : List MFile} (h : OwnMades w B v ms) (hb : Below w.heap.size w w') : OwnMades w' B v ms := by
  have hc : Chg (fun _ => False) w w' := Chg.of_below hb
  obtain ⟨rs, h1, h2, h3⟩ := h
  refine ⟨rs, ⟨h1.1, owns_chg h1.2 hc (fun _ _ => id)⟩, h2, fun k m hk => ?_⟩
  obtain ⟨r, hr, he⟩ := h3 k m hk
  exact ⟨r, hr, he.off hc (fun _ _ _ _ h => h.elim)⟩
/-- Element k. -/
theorem OwnMades.cell {w : World} {B : Nat} {v : Value} {ms : List MFile} (h : OwnMades w B v ms) : ∃ a c, v = .slice a ms.length c ∧
    ∀ (k : Nat) (m : MFile), ms[k]? = some m → ∃ g o la lc ya yc, a = some ⟨g, o, none⟩ ∧ w.cell? ⟨g, o + k * 5, none⟩ = some (.string m.name) ∧ w.cell? ⟨g, o + k * 5 + 1, none⟩ = some (.int .i64 m.base) ∧ w.cell? ⟨g, o + k * 5 + 2, none⟩ = some (.int .i64 m.size) ∧
      w.cell? ⟨g, o + k * 5 + 3, none⟩ = some (.slice la m.lines.length lc) ∧ w.cell? ⟨g, o + k * 5 + 4, none⟩ = some (.slice ya m.yes.length yc) ∧ w.ownsRow B 3 1 (.slice la m.lines.length lc) m.lines.length (m.lines.map (Value.int .i64)) ∧ w.ownsRow B 4 1 (.slice ya m.yes.length yc) m.yes.length (m.yes.map Value.bool) ∧ m.lines.length * 8 ≤ 140737488355328 ∧ m.yes.length * 40 ≤ 140737488355328 := by
  obtain ⟨rs, hr, hn, h⟩ := h
  obtain ⟨a, c, rfl, hc⟩ := hr.rows.cell
  refine ⟨a, c, by rw [hn], fun k e hk => ?_⟩
  obtain ⟨r, hrk, lv, yv, rfl, h1, h2, h3⟩ := h k e hk
  obtain ⟨la, lc, rfl⟩ := owns_form h1
  obtain ⟨ya, yc, rfl⟩ := owns_form h2
  rcases hc with rfl | ⟨g, o, rfl, hc⟩
  · simp at hrk
  · have := hc k _ hrk
    exact ⟨g, o, la, lc, ya, yc, rfl, this 0 _ rfl, this 1 _ rfl, this 2 _ rfl, this 3 _ rfl, this 4 _ rfl, h1, h2, h3⟩
theorem OwnMades.mades {w : World} {B : Nat} {v : Value} {ms : List MFile} (h : OwnMades w B v ms) (hl : ms.length * 56 ≤ 140737488355328) : Mades w v ms := by
  obtain ⟨rs, h1, h2, h3⟩ := h
  refine ⟨hl, rs, h1.rows, h2, fun k m hk => ?_⟩
  obtain ⟨r, hr, lv, yv, e1, e2, e3, e4⟩ := h3 k m hk
  exact ⟨r, hr, lv, yv, e1, owns_reads e2, owns_reads e3, e4⟩
theorem OwnMades.snoc {w : World} {B : Nat} {v : Value} {ms : List MFile} {rs : List (List Value)} {m : MFile} {r : List Value} (h1 : AllLen 5 rs) (h2 : rs.length = ms.length) (h3 : ∀ (k : Nat) (m : MFile), ms[k]? = some m → ∃ r, rs[k]? = some r ∧ OwnMade w B m r)
    (ho : w.ownsRow B 26 5 v (rs.length + 1) (rs.flatten ++ r)) (hr : OwnMade w B m r) : OwnMades w B v (ms ++ [m]) := by
  have hl : r.length = 5 := by obtain ⟨lv, yv, rfl, _⟩ := hr; rfl
  refine ⟨rs ++ [r], OwnsL.snoc h1 hl ho, by simp [h2], fun k x hk => ?_⟩
  rcases snoc_at hk with ⟨_, hk⟩ | ⟨rfl, rfl⟩
  · obtain ⟨r', hr', he⟩ := h3 k x hk
    exact ⟨r', at_snoc hr', he⟩
  · exact ⟨r, by rw [← h2]; simp, hr⟩

theorem alloc3 (w : World) (a b c : Obj) : Below w.heap.size w (((w.alloc a).alloc b).alloc c) ∧ (((w.alloc a).alloc b).alloc c).heap[w.heap.size]? = some a ∧ (((w.alloc a).alloc b).alloc c).heap[w.heap.size + 1]? = some b ∧ (((w.alloc a).alloc b).alloc c).heap[w.heap.size + 2]? = some c := by
  refine ⟨(((Below.refl _ _).alloc (Nat.le_refl _) _).alloc (by simp) _).alloc (by simp; omega) _, ?_, ?_, ?_⟩
  · rw [heap_new_ne _ (by simp; omega), heap_new_ne _ (by simp)]; exact heap_new _ _
  · rw [heap_new_ne _ (by simp)]
    have := heap_new (w.alloc a) b
    rwa [World.size_alloc] at this
  · have := heap_new ((w.alloc a).alloc b) c
    rwa [World.size_alloc, World.size_alloc] at this

def LeavesMade (fs : List GFile) (w : World) (e : Ending) (w' : World) : Prop := ∃ v, e = .returned v ∧ OwnMades w' w.heap.size v (madeL fs) ∧ Below w.heap.size w w'

theorem valid_mem {gs : List GFile} (h : validL gs) : ∀ m ∈ madeL gs, 0 ≤ m.size ∧ m.size ≤ 1099511627776 ∧ 0 ≤ m.base ∧ m.base ≤ 1099511627776 := fun m hm => by
  obtain ⟨a, b, c, d, _⟩ := (valid_bounds h).2 m hm
  exact ⟨b, c, by omega, d⟩

set_option maxRecDepth 100000 in
set_option maxHeartbeats 2000000 in
theorem made_any (fv : Value) (fs : List GFile) (w : World) (hf : Files w fv fs) (hv : validL fs) : Calls Tryz.prog 23 #[fv] w (LeavesMade fs w) := by
  obtain ⟨j0, hj, hy0, hy1, hy2⟩ := info_parts Tryz.infosFile
  obtain ⟨fa, fc, rfl, hcell⟩ := hf.cell
  have hlen := hf.1
  have HC := Lib.hid hcell
  have HV := Lib.hid hv
  have HO : Hid (OwnMades (w.alloc (.cells #[] 26)) w.heap.size (.slice (some ⟨w.heap.size, 0, none⟩) 0 0) (madeL (fs.take 0))) := by
    refine ⟨[], OwnsL.empty (World.ownsRow_made w #[] 0 (Nat.le_refl _) (by simp [maxLen]) (by simp)), by simp [madeL, madeFrom], fun k f hk => by simp [madeL, madeFrom] at hk⟩
  have hb0 : Below w.heap.size w (w.alloc (.cells #[] 26)) := (Below.refl _ _).alloc (Nat.le_refl _) _
  clear hf hcell hv
  go_enter Tryz.func23, Tryz.ntmps23
  go_wp2_with fail
  go_loopg [12, 3] fs.length (fun k v ov wr => ∃ (i : Nat), v = .int .i64 i ∧ i ≤ fs.length ∧ k = fs.length - i ∧ OwnMades wr w.heap.size ov (madeL (fs.take i)) ∧ Below w.heap.size w wr)
  case atStart => exact ⟨0, rfl, by omega, by omega, HO.out, hb0⟩
  case round =>
    rename World => wo
    obtain ⟨i, rfl, hi', rfl, hO, hbr⟩ := hrel
    clear HO hb0
    have hgl : (madeL (fs.take i)).length = i := by rw [madeL_length, List.length_take]; omega
    have hM : Mades wo u3 (madeL (fs.take i)) := hO.mades (by rw [hgl]; omega)
    have HOM := Lib.hid hO
    obtain ⟨rs, hOw, hrl, hrows⟩ := hO
    rw [hgl] at hrl
    obtain ⟨oa, oc, rfl⟩ : ∃ a c, u3 = .slice a i c := by
      rcases hOw.2.2 with ⟨h, h'⟩ | ⟨g, cap, cur, h, _⟩
      · exact ⟨_, _, by rw [h, ← hrl, h']⟩
      · exact ⟨_, _, by rw [h, hrl]⟩
    have HM := Lib.hid hM
    have HRL := Lib.hid hrl
    have HGL := Lib.hid hgl
    have HOw := Lib.hid hOw
    have HRows := Lib.hid hrows
    clear hrl hgl hM
    have hsz := hbr.size
    by_cases hlt : i < fs.length
    · obtain ⟨f, hfk⟩ : ∃ f, fs[i]? = some f := ⟨_, List.getElem?_eq_getElem hlt⟩
      obtain ⟨g, o, ev, rfl, c0, c1, c2, c3, hE⟩ := HC.out i f hfk
      have d0 := (hbr.cell (p := ⟨g, o + i * 4, none⟩) (World.block_lt_of_cell? w _ c0)).trans c0
      have d1 := (hbr.cell (p := ⟨g, o + i * 4 + 1, none⟩) (World.block_lt_of_cell? w _ c1)).trans c1
      have d2 := (hbr.cell (p := ⟨g, o + i * 4 + 2, none⟩) (World.block_lt_of_cell? w _ c2)).trans c2
      have d3 := (hbr.cell (p := ⟨g, o + i * 4 + 3, none⟩) (World.block_lt_of_cell? w _ c3)).trans c3
      have HK := Lib.hid hfk
      obtain ⟨ea, ec, rfl, hEc⟩ := hE.cell
      have HEc := Lib.hid hEc
      have heL := hE.1
      have hok := valid_at HV.out hfk
      have hvt := valid_take HV.out i
      have hvm := Lib.hid (valid_mem hvt)
      have hmk := make_base (baseOf (fs.take i)) f
      have hnx := Lib.hid (show nextOf (madeL (fs.take i)) 1 = baseOf (fs.take i) from rfl)
      have hln : Hid (∀ j, (linesL f.size (f.edits.take j)).length * 8 ≤ 140737488355328) := fun j => by
        have : (linesL f.size (f.edits.take j)).length ≤ 17592186044416 := linesL_len (by omega) (fun e he => by
          obtain ⟨k, hk, rfl⟩ := List.getElem_of_mem (List.mem_of_mem_take he)
          obtain ⟨_, _, _, _, _, _, _, _, h8⟩ := hEc k _ (List.getElem?_eq_getElem hk)
          omega)
        omega
      clear hE hEc hfk c0 c1 c2 c3 hOw hrows hvt
      obtain ⟨name, base, size, edits⟩ := f
      simp only at d0 d1 d2 d3 heL HEc hmk hln
      obtain ⟨mb, hmb⟩ : ∃ mb, mb = (make (baseOf (fs.take i)) ⟨name, base, size, edits⟩).base := ⟨_, rfl⟩
      rw [← hmb] at hmk
      have HMB := Lib.hid hmb
      have hmb1 : mb ≤ 1099511627776 := by rw [hmb]; exact hok.2.2.2.1
      obtain ⟨nx, hnxq⟩ : ∃ nx, nx = baseOf (fs.take i) := ⟨_, rfl⟩
      rw [← hnxq] at hmk hnx
      have HNQ := Lib.hid hnxq
      clear hmb hok hnxq
      go_upto_if 26 with fail
      obtain ⟨B0, G0, I0, F0⟩ := alloc3 wo (.cells #[.string name, .int .i64 base, .int .i64 size, .slice ea edits.length ec] 71) (.cells #[.int .i64 0] 3) (.cells #[.string name, .int .i64 base, .int .i64 size, .slice (some ⟨wo.heap.size + 1, 0, none⟩) 1 1, .slice none 0 0] 26)
      generalize (((wo.alloc (.cells #[.string name, .int .i64 base, .int .i64 size, .slice ea edits.length ec] 71)).alloc (.cells #[.int .i64 0] 3)).alloc (.cells #[.string name, .int .i64 base, .int .i64 size, .slice (some ⟨wo.heap.size + 1, 0, none⟩) 1 1, .slice none 0 0] 26)) = w1 at *
      have L0 : w1.ownsRow wo.heap.size 3 1 (.slice (some ⟨wo.heap.size + 1, 0, none⟩) 1 1) 1 [.int .i64 0] := ⟨by simp, .inr ⟨wo.heap.size + 1, 1, _, rfl, by omega, I0, by simp, by simp [maxLen], by simp, by simp⟩⟩
      go_cut [] from 26 to 29 (fun wx => Below wo.heap.size wo wx ∧ wx.heap[wo.heap.size]? = some (.cells #[.string name, .int .i64 base, .int .i64 size, .slice ea edits.length ec] 71 (0, 0)) ∧ wx.heap[wo.heap.size + 2]? = some (.cells #[.string name, .int .i64 mb, .int .i64 size, .slice (some ⟨wo.heap.size + 1, 0, none⟩) 1 1, .slice none 0 0] 26 (0, 0)) ∧ wx.ownsRow wo.heap.size 3 1 (.slice (some ⟨wo.heap.size + 1, 0, none⟩) 1 1) 1 [.int .i64 0])
      case first =>
        have x1 : w1.cell? ⟨wo.heap.size + 2, 1, none⟩ = some (.int .i64 base) := by rw [cell_of F0]; rfl
        have hs1 : wo.heap.size + 2 < w1.heap.size := lt_of_heap F0
        rcases hmk with ⟨hneg, rfl⟩ | ⟨hneg, rfl⟩
        · have HN := Lib.hid (next_any _ _ w1 (HM.out.below B0) hvm.out)
          rw [hnx.out] at HN
          have HG0 := Lib.hid G0
          have HF0 := Lib.hid F0
          have HL0 := Lib.hid L0
          have HB0 := Lib.hid B0
          clear G0 I0 F0 L0 d0 d1 d2 d3
          go_wp2_with fail
          refine HN.out.mono ?_
          rintro e w2 ⟨rfl, hb2⟩
          have G2 := (hb2.block _ (by omega)).trans HG0.out
          have F2 := (hb2.block _ (by omega)).trans HF0.out
          have y1 : w2.cell? ⟨wo.heap.size + 2, 1, none⟩ = some (.int .i64 base) := by rw [cell_of F2]; rfl
          have yz := free_of F2 1
          have fin : Hid (Below wo.heap.size wo (w2.setCell ⟨wo.heap.size + 2, 1, none⟩ (.int .i64 mb)) ∧ (w2.setCell ⟨wo.heap.size + 2, 1, none⟩ (.int .i64 mb)).heap[wo.heap.size]? = some (.cells #[.string name, .int .i64 base, .int .i64 size, .slice ea edits.length ec] 71 (0, 0)) ∧ (w2.setCell ⟨wo.heap.size + 2, 1, none⟩ (.int .i64 mb)).heap[wo.heap.size + 2]? = some (.cells #[.string name, .int .i64 mb, .int .i64 size, .slice (some ⟨wo.heap.size + 1, 0, none⟩) 1 1, .slice none 0 0] 26 (0, 0)) ∧ (w2.setCell ⟨wo.heap.size + 2, 1, none⟩ (.int .i64 mb)).ownsRow wo.heap.size 3 1 (.slice (some ⟨wo.heap.size + 1, 0, none⟩) 1 1) 1 [.int .i64 0]) := by
            have L2 := owns_chg HL0.out (Chg.of_below (M := fun _ => False) hb2) (fun _ _ => id)
            refine ⟨(HB0.out.trans (hb2.mono HB0.out.size)).setCell (by show wo.heap.size ≤ wo.heap.size + 2; omega) _, (heap_set_ne 1 _ (by omega)).trans G2, (heap_set F2 1 _).trans rfl, ?_⟩
            exact owns_chg L2 (M := fun k => k = wo.heap.size + 2) (by refine Chg.set (Chg.refl _ _) ?_ _; simp) (fun g hg => owns_ne L2 F2 (by decide) g hg)
          clear G2 F2 HN hb2 HG0 HF0 HL0 HB0
          go_wp2
          go_meet
          case rel => exact fin.out
        · have fin := Lib.hid (And.intro B0 (And.intro G0 (And.intro F0 L0)))
          clear G0 I0 F0 L0 B0 d0 d1 d2 d3
          go_wp2
          go_meet
          case rel => exact fin.out
      case rest =>
        obtain ⟨B1, G1, F1, L1⟩ := hcut
        clear B0 G0 I0 F0 L0 d0 d1 d2 d3 hmk
        have hs1 : wo.heap.size + 2 < wc.heap.size := lt_of_heap F1
        have g3 : wc.cell? ⟨wo.heap.size, 3, none⟩ = some (.slice ea edits.length ec) := by rw [cell_of G1]; rfl
        have HF1 := Lib.hid F1
        have HL1 := Lib.hid L1
        clear G1 F1 L1
        go_wp2_with fail
        go_loopg [33] edits.length (fun k v wl => ∃ (j : Nat) (lv yv : Value), v = .int .i64 j ∧ j ≤ edits.length ∧ k = edits.length - j ∧ Below wo.heap.size wo wl ∧ wl.heap[wo.heap.size + 2]? = some (.cells #[.string name, .int .i64 mb, .int .i64 size, lv, yv] 26 (0, 0)) ∧
          wl.ownsRow wo.heap.size 3 1 lv (linesL size (edits.take j)).length ((linesL size (edits.take j)).map (Value.int .i64)) ∧ wl.ownsRow wo.heap.size 4 1 yv (yesOf size (edits.take j)).length ((yesOf size (edits.take j)).map Value.bool))
        case atStart => exact ⟨0, _, _, rfl, by omega, by omega, B1, HF1.out, HL1.out, World.ownsRow_nil _ _ _ _⟩
        case round =>
          rename World => wl
          obtain ⟨j, lv, yv, rfl, hj', rfl, hBl, hF, hL, hY⟩ := hrel
          clear HF1 HL1 B1
          obtain ⟨la, lc, rfl⟩ := owns_form hL
          obtain ⟨ya, yc, rfl⟩ := owns_form hY
          have hszl := hBl.size
          have hgbl : wo.heap.size + 2 < wl.heap.size := lt_of_heap hF
          by_cases hjl : j < edits.length
          · obtain ⟨ed, hek⟩ : ∃ ed, edits[j]? = some ed := ⟨_, List.getElem?_eq_getElem hjl⟩
            obtain ⟨eg, eo, elv, rfl, e0, e1, e2, hI, hIl⟩ := HEc.out j ed hek
            have hbl : Below w.heap.size w wl := hbr.trans (hBl.mono hsz)
            have k0 := (hbl.cell (p := ⟨eg, eo + j * 3, none⟩) (World.block_lt_of_cell? w _ e0)).trans e0
            have k1 := (hbl.cell (p := ⟨eg, eo + j * 3 + 1, none⟩) (World.block_lt_of_cell? w _ e1)).trans e1
            have k2 := (hbl.cell (p := ⟨eg, eo + j * 3 + 2, none⟩) (World.block_lt_of_cell? w _ e2)).trans e2
            obtain ⟨qa, qc, rfl⟩ : ∃ la lc, elv = .slice la ed.lines.length lc := by obtain ⟨a, c, h, _⟩ := hI; exact ⟨a, c, by simpa using h⟩
            have hEB : Below wl.heap.size wl (wl.alloc (.cells #[.int .i64 ed.kind, .slice qa ed.lines.length qc, .int .i64 ed.line] 72)) := (Below.refl _ _).alloc (Nat.le_refl _) _
            have hF2 := (hEB.block _ hgbl).trans hF
            have HF2 := Lib.hid hF2
            have l0 := cell_of hF2 0
            have l1 := cell_of hF2 1
            have l2 := cell_of hF2 2
            have l3 := cell_of hF2 3
            have l4 := cell_of hF2 4
            simp only [List.getElem?_toArray, List.getElem?_cons_zero, List.getElem?_cons_succ] at l0 l1 l2 l3 l4
            have yl : (yesOf size (edits.take j)).length = j := by unfold yesOf; rw [yesL_length, List.length_take]; omega
            have CC := Lib.hid (changed_any wo.heap.size name mb size _ _ _ _ _ ed (wl.alloc (.cells #[.int .i64 ed.kind, .slice qa ed.lines.length qc, .int .i64 ed.line] 72)) (by simp; omega) (hL.alloc _) (hY.alloc _) ((hI.below hbl).below hEB) hIl (hln.out j) (by rw [yl]; omega))
            have HEK := Lib.hid hek
            have HBl := Lib.hid hBl
            have HL' := Lib.hid hL
            have HY' := Lib.hid hY
            generalize (linesL size (edits.take j)).length = n1 at *
            generalize (yesOf size (edits.take j)).length = n2 at *
            clear e0 e1 e2 hI hbl hek hIl hF hF2 yl hL hY hBl g3
            unfold madeV at CC
            go_wp2_with fail
            refine CC.out.mono ?_
            rintro e w5 ⟨lv', yv', rfl, oL, oY, hb5⟩
            rw [← linesL_snoc, ← take_snoc HEK.out] at oL
            rw [← yesOf_snoc, ← take_snoc HEK.out] at oY
            have F5 := (hb5.block _ (by simp; omega)).trans HF2.out
            obtain ⟨la5, lc5, rfl⟩ := owns_form oL
            obtain ⟨ya5, yc5, rfl⟩ := owns_form oY
            have HO5 : Hid (∀ w', Chg (fun k => k = wo.heap.size + 2) w5 w' → Below wo.heap.size wo w' ∧ w'.ownsRow wo.heap.size 3 1 (.slice la5 (linesL size (edits.take (j + 1))).length lc5) (linesL size (edits.take (j + 1))).length ((linesL size (edits.take (j + 1))).map (Value.int .i64)) ∧ w'.ownsRow wo.heap.size 4 1 (.slice ya5 (yesOf size (edits.take (j + 1))).length yc5) (yesOf size (edits.take (j + 1))).length ((yesOf size (edits.take (j + 1))).map Value.bool)) := fun w' K => by
              refine ⟨K.below_of ((HBl.out.trans (hEB.mono hszl)).trans (hb5.mono (by simp; omega))) (by have := hb5.size; simp at this; omega) (fun k h => by omega), owns_chg oL K (fun g hg => owns_ne oL F5 (by decide) g hg), owns_chg oY K (fun g hg => owns_ne oY F5 (by decide) g hg)⟩
            have s0 := cell_of F5 0
            have s1 := cell_of F5 1
            have s2 := cell_of F5 2
            have s3 := cell_of F5 3
            have s4 := cell_of F5 4
            simp only [List.getElem?_toArray, List.getElem?_cons_zero, List.getElem?_cons_succ] at s0 s1 s2 s3 s4
            have z0 := free_of F5 0
            have z1 := free_of F5 1
            have z2 := free_of F5 2
            have z3 := free_of F5 3
            have z4 := free_of F5 4
            have HF5 := Lib.hid F5
            obtain ⟨m1, hm1⟩ : ∃ m1, m1 = (linesL size (edits.take (j + 1))).length := ⟨_, rfl⟩
            obtain ⟨m2, hm2⟩ : ∃ m2, m2 = (yesOf size (edits.take (j + 1))).length := ⟨_, rfl⟩
            rw [← hm1, ← hm2] at HO5 ⊢
            have HM1 := Lib.hid hm1
            have HM2 := Lib.hid hm2
            clear oL oY hb5 hEB CC HEK F5 HF2 l0 l1 l2 l3 l4 k0 k1 k2 hm1 hm2 HBl HL' HY'
            unfold madeV
            go_wp2
            go_roundg (edits.length - (j + 1))
            case measure => omega
            case rel =>
              obtain ⟨q1, q2, q3⟩ := HO5.out (((((w5.setCell ⟨wo.heap.size + 2, 0, none⟩ (.string name)).setCell ⟨wo.heap.size + 2, 1, none⟩ (.int .i64 mb)).setCell ⟨wo.heap.size + 2, 2, none⟩ (.int .i64 size)).setCell ⟨wo.heap.size + 2, 3, none⟩ (.slice la5 m1 lc5)).setCell ⟨wo.heap.size + 2, 4, none⟩ (.slice ya5 m2 yc5)) (by
                repeat (first | with_reducible exact Chg.refl _ _ | with_reducible refine Chg.set ?_ (by simp) _))
              exact ⟨j + 1, .slice la5 m1 lc5, .slice ya5 m2 yc5, by go_num, by omega, rfl, q1, (heap_set (heap_set (heap_set (heap_set (heap_set HF5.out 0 _) 1 _) 2 _) 3 _) 4 _).trans rfl, by rw [← HM1.out]; exact q2, by rw [← HM2.out]; exact q3⟩
          · have hj2 : j = edits.length := by omega
            subst hj2
            have hbl := hln.out edits.length
            have hyl : (yesOf size edits).length = edits.length := by unfold yesOf; rw [yesL_length]
            rw [List.take_length] at hL hY hF hbl
            have hOw := owns_chg HOw.out.2 (Chg.of_below (M := fun _ => False) hBl) (fun _ _ => id)
            rw [HRL.out] at hOw
            obtain ⟨rf, hrf⟩ : ∃ rf, rf = rs.flatten := ⟨_, rfl⟩
            rw [← hrf] at hOw
            have HRF := Lib.hid hrf
            have hns : ¬ ((edits.length : Int) < (edits.length : Int)) := by omega
            have l0 := cell_of hF 0
            have l1 := cell_of hF 1
            have l2 := cell_of hF 2
            have l3 := cell_of hF 3
            have l4 := cell_of hF 4
            simp only [List.getElem?_toArray, List.getElem?_cons_zero, List.getElem?_cons_succ] at l0 l1 l2 l3 l4
            have HBl := Lib.hid hBl
            have OM : Hid (OwnMade wl wo.heap.size (make (baseOf (fs.take i)) ⟨name, base, size, edits⟩) [.string name, .int .i64 mb, .int .i64 size, .slice la (linesL size edits).length lc, .slice ya (yesOf size edits).length yc]) :=
              ⟨_, _, by rw [HMB.out]; rfl, hL, hY, hbl, by show (yesOf size edits).length * 40 ≤ _; rw [hyl]; omega⟩
            generalize (linesL size edits).length = n1 at *
            generalize (yesOf size edits).length = n2 at *
            clear hjl hj' hrf hBl hF hL hY hbl hyl
            go_wp2_with (at_builtin; refine wpList_append_any rfl _ _ 46 rfl w.heap.size 26 j0 (.agg #[.string ⟨#[]⟩, .int .i64 0, .int .i64 0, .slice none 0 0, .slice none 0 0]) 5 80 Tryz.underlying46 hj hy0 hy1 hy2 rfl (by decide) _ _ _ rfl (hOw.alloc _) (.slice (some ⟨wl.heap.size, 0, none⟩) 1 1) 1 [.string name, .int .i64 mb, .int .i64 size, .slice la n1 lc, .slice ya n2 yc] rfl ?c2 ?c3 ?c4 ?c5 ?c6 ?_)
            case c2 => exact cells_fresh (cs := [_, _, _, _, _]) (heap_new _ _)
            case c3 => exact ⟨rfl, rfl, rfl, rfl, rfl⟩
            case c4 => unfold maxLen; omega
            case c5 => omega
            case c6 => omega
            · intro nv w6 own6 grow6
              have K6 : Chg (fun k => (Value.slice oa i oc).ownBlock = some k) wl w6 := ((Chg.refl _ _).alloc _).trans (Chg.of_grown grow6 fun k h => h)
              have B6 : Below w.heap.size w w6 := K6.below_of (hbr.trans (HBl.out.mono hsz)) (by omega) (fun k h => (hOw.lt k h).1)
              have O6 : Off wl (fun k => (Value.slice oa i oc).ownBlock = some k) [3, 4] := off_row hOw (by decide)
              have hfin : OwnMades w6 w.heap.size nv (madeL (fs.take (i + 1))) := by
                rw [take_snoc HK.out, madeL_snoc]
                have h2 := HRL.out
                have h3 := HGL.out
                refine OwnMades.snoc (rs := rs) (r := [.string name, .int .i64 mb, .int .i64 size, .slice la n1 lc, .slice ya n2 yc]) HOw.out.1 (by rw [h2, h3]) ?_ (by rw [h2, ← HRF.out]; exact own6) ?_
                · intro k f hk
                  obtain ⟨r, hr, he⟩ := HRows.out k f hk
                  exact ⟨r, hr, (he.off (Chg.of_below (M := fun _ => False) HBl.out) (fun _ _ _ _ h => h.elim)).off K6 O6⟩
                · have := OM.out.off K6 O6
                  obtain ⟨lv, yv, e1, e2, e3, e4⟩ := this
                  exact ⟨lv, yv, e1, owns_mono e2 hsz, owns_mono e3 hsz, e4⟩
              have HFIN := Lib.hid hfin
              have hfm : ∃ a c, nv = .slice a (i + 1) c := by
                rcases own6.2 with ⟨h, h'⟩ | ⟨g, cap, cur, h, _⟩
                · omega
                · exact ⟨_, _, h⟩
              obtain ⟨na, nc, rfl⟩ := hfm
              clear hfin own6 grow6 K6 O6 hOw HOw HRows HRL HGL HRF HBl l0 l1 l2 l3 l4 OM HM
              go_wp2
              go_roundg (fs.length - (i + 1))
              case measure => omega
              case rel => exact ⟨i + 1, by go_num, by omega, rfl, HFIN.out, B6⟩
    · have hi2 : i = fs.length := by omega
      subst hi2
      rw [List.take_length] at HOM
      have hns : ¬ ((fs.length : Int) < (fs.length : Int)) := by omega
      clear hlt hOw hrows HOw HRows HC HV HRL HGL
      go_wp2
      go_ret
      exact ⟨_, rfl, HOM.out, hbr⟩
end Go.Proofs.YtmijedghihebjaaGreatFmt
