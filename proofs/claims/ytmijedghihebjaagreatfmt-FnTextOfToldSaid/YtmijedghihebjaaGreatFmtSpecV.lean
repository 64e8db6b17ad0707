/- spec.sound, spec.Valid. -/
import Derived.Test.YtmijedghihebjaaGreatFmtGiven
namespace Go.Proofs.YtmijedghihebjaaGreatFmt
open Go.RowKit Go.MuLone Go.RwLone

set_option maxRecDepth 100000 in
set_option maxHeartbeats 1000000 in
theorem sound_any (name : ByteArray) (base size : Int) (gev ev : Value) (e : GEdit) (w : World) (he : Ints w ev e.lines) :
    Calls Tryz.prog 29 #[.agg #[.string name, .int .i64 base, .int .i64 size, gev], .agg #[.int .i64 e.kind, ev, .int .i64 e.line]] w fun en w' => en = .returned (.bool (decide (soundE size e))) ∧ Below w.heap.size w w' := by
  obtain ⟨kind, els, line⟩ := e
  simp only at he ⊢
  have HB : Below w.heap.size w ((w.alloc (.cells #[.string name, .int .i64 base, .int .i64 size, gev] 71)).alloc (.cells #[.int .i64 kind, ev, .int .i64 line] 72)) := ((Below.refl _ _).alloc (Nat.le_refl _) _).alloc (by simp) _
  obtain ⟨a, c, rfl, hc⟩ := he.cell
  by_cases k1 : kind = 1
  · subst k1
    cases els with
    | nil =>
      by_cases hs : size = 0
      · subst hs
        rw [show decide (soundE 0 ⟨1, [], line⟩) = true by simp [soundE]]
        clear hc he
        go_enter Tryz.func29, Tryz.ntmps29
        go_wp2
        go_ret
        exact ⟨rfl, HB⟩
      · rw [show decide (soundE size ⟨1, [], line⟩) = false by simp [soundE, hs]]
        have hs2 : (size == 0) = false := by simpa using hs
        clear hc he
        go_enter Tryz.func29, Tryz.ntmps29
        go_wp2
        go_ret
        exact ⟨rfl, HB⟩
    | cons y ys =>
      obtain ⟨g, o, rfl, h⟩ := hc.resolve_left (by simp)
      have h0 := h 0 (by simp)
      simp only [Nat.add_zero, List.getD_cons_zero] at h0
      have h1 : g < w.heap.size := World.block_lt_of_cell? w _ h0
      have h2 : ((w.alloc (.cells #[.string name, .int .i64 base, .int .i64 size, gev] 71)).alloc (.cells #[.int .i64 1, .slice (some ⟨g, o, none⟩) (y :: ys).length c, .int .i64 line] 72)).cell? ⟨g, o, none⟩ = some (.int .i64 y) := by
        rw [World.cell?_alloc_lt _ _ _ (by simp; omega), World.cell?_alloc_lt _ _ _ h1]; exact h0
      obtain ⟨n, hn⟩ : ∃ n, n = (y :: ys).length := ⟨_, rfl⟩
      have hn1 : 1 ≤ n := by rw [hn]; simp
      have hn2 : ¬ n = 0 := by omega
      by_cases hy : y = 0
      · subst hy
        rw [show decide (soundE size ⟨1, 0 :: ys, line⟩) = true by simp [soundE]]
        rw [← hn] at h2 HB ⊢
        clear hc he h h0 hn
        go_enter Tryz.func29, Tryz.ntmps29
        go_wp2
        go_ret
        exact ⟨rfl, HB⟩
      · rw [show decide (soundE size ⟨1, y :: ys, line⟩) = false by simp [soundE, hy]]
        rw [← hn] at h2 HB ⊢
        have hy2 : (y == 0) = false := by simpa using hy
        clear hc he h h0 hn
        go_enter Tryz.func29, Tryz.ntmps29
        go_wp2
        go_ret
        exact ⟨rfl, HB⟩
  · rw [show decide (soundE size ⟨kind, els, line⟩) = true by simp [soundE, k1]]
    have hk2 : (kind != 1) = true := by simpa using k1
    clear hc he
    go_enter Tryz.func29, Tryz.ntmps29
    go_wp2
    go_ret
    exact ⟨rfl, HB⟩

set_option maxRecDepth 100000 in
set_option maxHeartbeats 2000000 in
theorem valid_any (fv : Value) (fs : List GFile) (w : World) (hf : Files w fv fs) : Calls Tryz.prog 22 #[fv] w fun e w' => e = .returned (.bool (decide (validL fs))) ∧ Below w.heap.size w w' := by
  obtain ⟨fa, fc, rfl, hcell⟩ := hf.cell
  have hlen := hf.1
  have HC := Lib.hid hcell
  obtain ⟨b, hbq⟩ : ∃ b, b = decide (validL fs) := ⟨_, rfl⟩
  rw [← hbq]
  have HBQ := Lib.hid hbq
  have hbw : Below w.heap.size w w := Below.refl _ _
  clear hcell hbq hf
  go_enter Tryz.func22, Tryz.ntmps22
  go_wp2_with fail
  go_loopg [11, 3] fs.length (fun k v nv wr => ∃ (i : Nat), v = .int .i64 i ∧ i ≤ fs.length ∧ k = fs.length - i ∧ nv = .int .i64 (baseOf (fs.take i)) ∧ validL (fs.take i) ∧ Below w.heap.size w wr)
  case atStart => exact ⟨0, rfl, by omega, by omega, rfl, trivial, hbw⟩
  case round =>
    rename World => wo
    obtain ⟨i, rfl, hi', rfl, rfl, hval, hbr⟩ := hrel
    clear hbw
    obtain ⟨nx, hnx⟩ : ∃ nx, nx = baseOf (fs.take i) := ⟨_, rfl⟩
    have v1 := (valid_bounds hval).1
    have v2 := baseOf_le hval
    rw [← hnx] at v1 v2 ⊢
    have HNX := Lib.hid hnx
    have HVAL := Lib.hid hval
    clear hnx hval
    by_cases hlt : i < fs.length
    · obtain ⟨f, hfk⟩ : ∃ f, fs[i]? = some f := ⟨_, List.getElem?_eq_getElem hlt⟩
      obtain ⟨g, o, ev, rfl, c0, c1, c2, c3, hE⟩ := HC.out i f hfk
      have d0 := (hbr.cell (p := ⟨g, o + i * 4, none⟩) (World.block_lt_of_cell? w _ c0)).trans c0
      have d1 := (hbr.cell (p := ⟨g, o + i * 4 + 1, none⟩) (World.block_lt_of_cell? w _ c1)).trans c1
      have d2 := (hbr.cell (p := ⟨g, o + i * 4 + 2, none⟩) (World.block_lt_of_cell? w _ c2)).trans c2
      have d3 := (hbr.cell (p := ⟨g, o + i * 4 + 3, none⟩) (World.block_lt_of_cell? w _ c3)).trans c3
      obtain ⟨ea, ec, rfl, hEc⟩ := hE.cell
      have HEc := Lib.hid hEc
      have heL := hE.1
      have hsz := hbr.size
      obtain ⟨name, base, size, edits⟩ := f
      simp only at d0 d1 d2 d3 heL HEc
      have BAD : Hid (¬ okFile nx ⟨name, base, size, edits⟩ → b = false) := fun h => by
        rw [HBQ.out, decide_eq_false_iff_not]
        intro hv
        have := valid_at hv hfk
        rw [← HNX.out] at this
        exact h this
      have HNEXT : Hid (okFile nx ⟨name, base, size, edits⟩ → validL (fs.take (i + 1)) ∧ baseOf (fs.take (i + 1)) = (make nx ⟨name, base, size, edits⟩).base + size + 1) := fun h => by
        rw [take_snoc hfk, validL_snoc, baseOf_snoc, ← HNX.out]
        exact ⟨⟨HVAL.out, h⟩, rfl⟩
      have hmk := make_base nx ⟨name, base, size, edits⟩
      simp only at hmk
      have HOKI : Hid (∀ mb : Int, mb = (make nx ⟨name, base, size, edits⟩).base → (¬ (0 ≤ size ∧ size ≤ 1099511627776 ∧ nx ≤ mb ∧ mb ≤ 1099511627776) → b = false)) := fun mb hm hno => BAD.out (fun ⟨h1, h2, h3, h4, _⟩ => hno (by rw [hm]; exact ⟨h1, h2, h3, h4⟩))
      have hb2 : Below w.heap.size w (wo.alloc (.cells #[.string name, .int .i64 base, .int .i64 size, .slice ea edits.length ec] 71)) := hbr.alloc hsz _
      obtain ⟨mb, hmb⟩ : ∃ mb, mb = (make nx ⟨name, base, size, edits⟩).base := ⟨_, rfl⟩
      rw [← hmb] at hmk
      have BAD2 := Lib.hid (HOKI.out mb hmb)
      have HMB := Lib.hid hmb
      clear hE hEc hfk c0 c1 c2 c3 hmb HOKI
      by_cases s1 : 0 ≤ size
      · by_cases s2 : size ≤ 1099511627776
        · by_cases s3 : nx ≤ mb
          · by_cases s4 : mb ≤ 1099511627776
            · have hgx : Hid ((wo.alloc (.cells #[.string name, .int .i64 base, .int .i64 size, .slice ea edits.length ec] 71)).heap[wo.heap.size]? = some (.cells #[.string name, .int .i64 base, .int .i64 size, .slice ea edits.length ec] 71 (0, 0))) := heap_new _ _
              have hOK : Hid ((∀ e ∈ edits, soundE size e) → okFile nx ⟨name, base, size, edits⟩) := fun h => by
                have := HMB.out
                exact ⟨s1, s2, by rw [← this]; exact s3, by rw [← this]; exact s4, h⟩
              have HNS : Hid (∀ e ∈ edits, ¬ soundE size e → b = false) := fun e he hn => BAD.out (fun h => hn (h.2.2.2.2 e he))
              have B0 : Below wo.heap.size wo (wo.alloc (.cells #[.string name, .int .i64 base, .int .i64 size, .slice ea edits.length ec] 71)) := (Below.refl _ _).alloc (Nat.le_refl _) _
              clear BAD BAD2
              rcases hmk with ⟨hneg, rfl⟩ | ⟨hneg, rfl⟩
              all_goals
                go_wp2_with fail
                go_loopg [40] edits.length (fun k v wl => ∃ (j : Nat), v = .int .i64 j ∧ j ≤ edits.length ∧ k = edits.length - j ∧ Below (wo.heap.size + 1) (wo.alloc (.cells #[.string name, .int .i64 _, .int .i64 size, .slice ea edits.length ec] 71)) wl ∧ ∀ e ∈ edits.take j, soundE size e)
                case atStart => exact ⟨0, rfl, by omega, by omega, Below.refl _ _, by simp⟩
                case round =>
                  rename World => wl
                  obtain ⟨j, rfl, hj', rfl, hBl, hSo⟩ := hrel
                  clear B0
                  have hG := (hBl.block wo.heap.size (by omega)).trans hgx.out
                  have l0 := cell_of hG 0
                  have l1 := cell_of hG 1
                  have l2 := cell_of hG 2
                  have l3 := cell_of hG 3
                  simp only [List.getElem?_toArray, List.getElem?_cons_zero, List.getElem?_cons_succ] at l0 l1 l2 l3
                  have hszl := hBl.size
                  simp only [World.size_alloc] at hszl
                  have hbl : Below w.heap.size w wl := hb2.trans (hBl.mono (by omega))
                  have HSO := Lib.hid hSo
                  clear hG hSo d0 d1 d2 d3 hb2
                  by_cases hjl : j < edits.length
                  · obtain ⟨ed, hek⟩ : ∃ ed, edits[j]? = some ed := ⟨_, List.getElem?_eq_getElem hjl⟩
                    obtain ⟨eg, eo, elv, rfl, e0, e1, e2, hI, hIl⟩ := HEc.out j ed hek
                    have f0 := (hbl.cell (p := ⟨eg, eo + j * 3, none⟩) (World.block_lt_of_cell? w _ e0)).trans e0
                    have f1 := (hbl.cell (p := ⟨eg, eo + j * 3 + 1, none⟩) (World.block_lt_of_cell? w _ e1)).trans e1
                    have f2 := (hbl.cell (p := ⟨eg, eo + j * 3 + 2, none⟩) (World.block_lt_of_cell? w _ e2)).trans e2
                    have hI' := hI.below hbl
                    obtain ⟨la, lc, rfl⟩ : ∃ la lc, elv = .slice la ed.lines.length lc := by obtain ⟨a, c, h, _⟩ := hI; exact ⟨a, c, by simpa using h⟩
                    have HEK := Lib.hid hek
                    clear e0 e1 e2 hI hek hIl
                    have hEB : Below wl.heap.size wl (wl.alloc (.cells #[.int .i64 ed.kind, .slice la ed.lines.length lc, .int .i64 ed.line] 72)) := (Below.refl _ _).alloc (Nat.le_refl _) _
                    have m0 := (hEB.cell (p := ⟨wo.heap.size, 0, none⟩) (by show wo.heap.size < wl.heap.size; omega)).trans l0
                    have m1 := (hEB.cell (p := ⟨wo.heap.size, 1, none⟩) (by show wo.heap.size < wl.heap.size; omega)).trans l1
                    have m2 := (hEB.cell (p := ⟨wo.heap.size, 2, none⟩) (by show wo.heap.size < wl.heap.size; omega)).trans l2
                    have m3 := (hEB.cell (p := ⟨wo.heap.size, 3, none⟩) (by show wo.heap.size < wl.heap.size; omega)).trans l3
                    have hI2 := hI'.below hEB
                    have hbl2 := hbl.trans (hEB.mono (by omega))
                    go_wp2_with fail
                    refine (sound_any name _ size _ _ ed _ hI2).mono ?_
                    rintro e w5 ⟨rfl, hb5⟩
                    have hb6 : Below w.heap.size w w5 := hbl2.trans (hb5.mono (by simp; omega))
                    have hb7 : Below (wo.heap.size + 1) wl w5 := (hEB.mono (by omega)).trans (hb5.mono (by simp; omega))
                    clear hb5 hEB m0 m1 m2 m3 hI2 hI' hbl2 f0 f1 f2
                    by_cases hsd : soundE size ed
                    · have HS2 : Hid (∀ e ∈ edits.take (j + 1), soundE size e) := by
                        rw [take_snoc HEK.out]
                        intro e he
                        rcases List.mem_append.1 he with h | h
                        · exact HSO.out e h
                        · simp at h; subst h; exact hsd
                      have hsd2 : decide (soundE size ed) = true := decide_eq_true hsd
                      rw [hsd2]
                      clear hsd hsd2 HSO HEK
                      go_wp2
                      go_roundg (edits.length - (j + 1))
                      case measure => omega
                      case rel => exact ⟨j + 1, by go_num, by omega, rfl, hBl.trans hb7, HS2.out⟩
                    · have hbf := HNS.out ed (List.mem_of_getElem? HEK.out) hsd
                      have hsd2 : decide (soundE size ed) = false := decide_eq_false hsd
                      rw [hsd2]
                      subst hbf
                      clear hsd hsd2 HSO HEK HNS HBQ hOK HNEXT
                      go_wp2
                      go_ret
                      exact ⟨rfl, hb6⟩
                  · have hj2 : j = edits.length := by omega
                    subst hj2
                    have hsa := HSO.out
                    rw [List.take_length] at hsa
                    obtain ⟨hN1, hN2⟩ := HNEXT.out (hOK.out hsa)
                    rw [← HMB.out] at hN2
                    have HN1 := Lib.hid hN1
                    have HN2 := Lib.hid hN2
                    have hns : ¬ ((edits.length : Int) < (edits.length : Int)) := by omega
                    clear hsa hN1 hN2 hOK HNEXT HNS HBQ HSO hjl hj' HMB
                    go_wp2
                    go_roundg (fs.length - (i + 1))
                    case measure => omega
                    case rel => exact ⟨i + 1, by go_num, by omega, rfl, by rw [HN2.out], HN1.out, hbl⟩
            · have s4' : 1099511627776 < mb := by omega
              have hbf := BAD2.out (by omega)
              subst hbf
              clear BAD BAD2 HNEXT HMB HBQ HEc
              rcases hmk with ⟨hneg, rfl⟩ | ⟨hneg, rfl⟩
              all_goals
                first
                | omega
                | (go_wp2
                   go_ret
                   exact ⟨rfl, hb2⟩)
          · have s3' : mb < nx := by omega
            have hbf := BAD2.out (by omega)
            subst hbf
            clear BAD BAD2 HNEXT HMB HBQ HEc
            rcases hmk with ⟨hneg, rfl⟩ | ⟨hneg, rfl⟩
            all_goals
              first
              | omega
              | (go_wp2
                 go_ret
                 exact ⟨rfl, hb2⟩)
        · have s2' : 1099511627776 < size := by omega
          have hbf := BAD2.out (by omega)
          subst hbf
          clear BAD BAD2 HNEXT HMB HBQ HEc
          rcases hmk with ⟨hneg, rfl⟩ | ⟨hneg, rfl⟩
          all_goals
            first
            | omega
            | (go_wp2
               go_ret
               exact ⟨rfl, hb2⟩)
      · have s1' : size < 0 := by omega
        have hbf := BAD2.out (by omega)
        subst hbf
        clear BAD BAD2 HNEXT HMB HBQ HEc
        rcases hmk with ⟨hneg, rfl⟩ | ⟨hneg, rfl⟩
        all_goals
          first
          | omega
          | (go_wp2
             go_ret
             exact ⟨rfl, hb2⟩)
    · have hi2 : i = fs.length := by omega
      subst hi2
      have hns : ¬ ((fs.length : Int) < (fs.length : Int)) := by omega
      have hbt : b = true := by
        rw [HBQ.out]
        have := HVAL.out
        rw [List.take_length] at this
        exact decide_eq_true this
      subst hbt
      clear HBQ HVAL HNX hlt
      go_wp2
      go_ret
      exact ⟨rfl, hbr⟩
end Go.Proofs.YtmijedghihebjaaGreatFmt
