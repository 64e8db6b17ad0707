/- laws.with: a script with one more edit of one file. -/
import Derived.Test.YtigjdicghjofoaaFmtWithH
namespace Go.Proofs.YtigjdicghjofoaaFmt
open Go.RowKit Go.MuLone Go.RwLone

set_option maxRecDepth 100000 in
set_option maxHeartbeats 4000000 in
theorem with_any (fv : Value) (fs : List GFile) (k : Nat) (f : GFile) (kind line : Int) (lv : Value) (ls : List Int) (w : World) (hf : Files w fv fs) (hk : fs[k]? = some f) (hr : f.edits.length * 40 ≤ 140737488351232) (hI : Ints w lv ls) (hIl : ls.length * 8 ≤ 140737488355328) :
    Calls Tryf.prog 28 #[fv, .int .i64 k, .agg #[.int .i64 kind, lv, .int .i64 line]] w fun r w' => ∃ v, r = .returned v ∧ Files w' v (withL fs k f ⟨kind, ls, line⟩) ∧ Below w.heap.size w w' := by
  obtain ⟨i0, hi, hz0, hz1, hz2⟩ := info_parts Tryf.infosIEdit
  obtain ⟨j0, hj, hy0, hy1, hy2⟩ := info_parts Tryf.infosIFile
  obtain ⟨hlen, rs, hR, hrl, hrow⟩ := hf
  have hkl : k < fs.length := (List.getElem?_eq_some_iff.1 hk).1
  obtain ⟨la, lc, hlv, _⟩ := hI.cell
  have hIE : EditRow w ⟨kind, ls, line⟩ [.int .i64 kind, lv, .int .i64 line] := ⟨_, rfl, hI, hIl⟩
  rw [hlv] at hIE ⊢
  obtain ⟨r0, hr0, ev, hr0e, hE⟩ := hrow k f hk
  obtain ⟨hel, ers, hER, herl, hErow⟩ := hE
  obtain ⟨ea, ec, hev, _⟩ := hER.cell
  have hLN : ∃ ln, ln = ls.length := ⟨_, rfl⟩
  obtain ⟨ln, hln⟩ := hLN
  rw [← hln] at hIE ⊢
  obtain ⟨m, hm⟩ : ∃ m, m = ers.length := ⟨_, rfl⟩
  have HONEF := Lib.hid (files_one hrl hrow)
  have HONE := Lib.hid (edits_one herl hErow)
  have HONE1 : Hid (∀ u ∈ [Value.int .i64 kind, .slice la ln lc, .int .i64 line], u.oneCell' = true) := fun u hu => by simp at hu; rcases hu with rfl | rfl | rfl <;> rfl
  have B1 : Below w.heap.size w ((w.alloc (.cells #[.int .i64 kind, .slice la ln lc, .int .i64 line] 50)).alloc (.cells #[] 55)) := ((Below.refl _ _).alloc (Nat.le_refl _) _).alloc (by simp) _
  have own0 : ((w.alloc (.cells #[.int .i64 kind, .slice la ln lc, .int .i64 line] 50)).alloc (.cells #[] 55)).ownsRow w.heap.size 55 4 (.slice (some ⟨w.heap.size + 1, 0, none⟩) 0 0) 0 [] := empty_own (by omega) (made_block3 w _ _)
  have X1 : ((w.alloc (.cells #[.int .i64 kind, .slice la ln lc, .int .i64 line] 50)).alloc (.cells #[] 55)).heap[w.heap.size]? = some (.cells #[.int .i64 kind, .slice la ln lc, .int .i64 line] 50 (0, 0)) := made_block2 w _ _
  obtain ⟨fa, fc, hfv, _⟩ := hR.cell
  have srcF := hR.2.below B1
  obtain ⟨lnF, byF⟩ := bd_files rs.length (by rw [hrl]; exact hlen)
  obtain ⟨n, hn⟩ : ∃ n, n = rs.length := ⟨_, rfl⟩
  rw [← hn] at srcF lnF byF hfv
  subst hfv
  have hmm : m * 40 ≤ 140737488351232 := by rw [hm, herl]; exact hr
  obtain ⟨lnA, lnB⟩ := bd_ln m hmm
  obtain ⟨byA, byB⟩ := bd_by m hmm
  have hsrcE : Cells w 3 ev m ers.flatten := by rw [hm]; exact hER.2
  have hkn : k < n := by rw [hn, hrl]; exact hkl
  have FINL := Lib.hid (fun w2 gb c cur own hgb hcur hb2 => with_fin (w2 := w2) (gb := gb) (c := c) (cur := cur) hlen hrl hR.1 hrow hk hr hn hm hER.1 herl hErow hIE own hgb hcur hb2)
  have HR0 := Lib.hid hr0
  have HR0E := Lib.hid hr0e
  have HEV := Lib.hid hev
  have HSRC := Lib.hid hsrcE
  have HRR := Lib.hid hR
  have HN := Lib.hid hn
  have HM := Lib.hid hm
  clear hI hIE hlv hln hr0 hr0e hev hsrcE hR hrow hErow hER herl hel hk hn hm hrl hlen hr hIl
  go_enter Tryf.func28, Tryf.ntmps28
  go_wp2_with (at_builtin; refine wpList_append_any rfl _ _ 22 rfl w.heap.size 55 j0 (.agg #[.string ⟨#[]⟩, .int .i64 0, .int .i64 0, .slice none 0 0]) 4 56 Tryf.underlying22 hj hy0 hy1 hy2 rfl (by decide) _ 0 [] rfl own0 (.slice fa n fc) n rs.flatten rfl ?c2 ?c3 ?c4 ?c5 ?c6 ?_)
  case c2 => exact srcF
  case c3 => exact HONEF.out
  case c4 => exact lnF
  case c5 => exact byF
  case c6 => exact B1.size
  intro ov w2 ownA growA
  try simp only [Nat.zero_add, List.nil_append] at ownA
  have KF : Chg (fun k => k = w.heap.size + 1) ((w.alloc (.cells #[.int .i64 kind, .slice la ln lc, .int .i64 line] 50)).alloc (.cells #[] 55)) w2 := Chg.of_grown growA (fun k h => by simp [Value.ownBlock] at h; omega)
  have hb2 : Below w.heap.size w w2 := KF.below_of B1 B1.size (fun k h => by omega)
  have X2 := KF.at X1 (by omega)
  obtain ⟨gb, c, cur, rfl, hgb, hcur⟩ : ∃ gb c cur, ov = .slice (some ⟨gb, 0, none⟩) n c ∧ w.heap.size ≤ gb ∧ w2.heap[gb]? = some (.cells cur 55 (0, 0)) := by
    rcases ownA.2 with ⟨rfl, h⟩ | ⟨g, cap, cur, rfl, h1, h2, _⟩
    · omega
    · exact ⟨_, _, _, rfl, h1, h2⟩
  have FIN := Lib.hid (FINL.out w2 gb c cur ownA hgb hcur hb2)
  have hev := HEV.out
  rw [← HM.out] at hev
  have c3 : w2.cell? ⟨gb, k * 4 + 3, none⟩ = some (.slice ea m ec) := by
    obtain ⟨a, c', he, h⟩ := (show RowsL w2 4 (.slice (some ⟨gb, 0, none⟩) n c) rs from ⟨HRR.out.1, by rw [← HN.out]; exact owns_cells ownA⟩).cell
    simp at he
    rcases h with h | ⟨g, o, ha, h⟩
    · have := HR0.out; rw [h] at this; simp at this
    · rw [← he.1] at ha
      simp at ha
      obtain ⟨rfl, rfl⟩ := ha
      have := h k r0 HR0.out 3 ev (by rw [HR0E.out]; rfl)
      rw [Nat.zero_add, hev] at this
      exact this
  have SRC : Hid (∀ W : World, Chg (fun _ => False) w2 W → Cells W 3 (.slice ea m ec) m ers.flatten) := fun W K => by
    have := HSRC.out.below (K.below_of hb2 hb2.size (fun _ h => h.elim))
    rwa [hev] at this
  have OWN0 : Hid (∀ (W : World) (b : Nat), W.heap[b]? = some (.cells #[] 50 (0, 0)) → w2.heap.size ≤ b → W.ownsRow w2.heap.size 50 3 (.slice (some ⟨b, 0, none⟩) 0 0) 0 []) := fun W b h hb => empty_own hb h
  have hszg : gb < w2.heap.size := lt_of_heap hcur
  have hszw : w.heap.size < w2.heap.size := lt_of_heap X2
  have HS : Hid (∀ W : World, Chg (fun _ => False) w2 W → W.cell? ⟨gb, k * 4 + 3, none⟩ = some (.slice ea m ec) ∧ W.cell? ⟨w.heap.size, 0, none⟩ = some (.int .i64 kind) ∧ W.cell? ⟨w.heap.size, 1, none⟩ = some (.slice la ln lc) ∧ W.cell? ⟨w.heap.size, 2, none⟩ = some (.int .i64 line)) := fun W K => by
    have X3 := K.at X2 id
    exact ⟨(World.cell?_of_block (K.block gb hszg id)).trans c3, cell_of X3 0, cell_of X3 1, cell_of X3 2⟩
  clear FINL own0 X1 X2 srcF growA ownA KF hev c3 HRR HSRC HR0 HR0E HEV hcur HONEF B1
  go_wp2_with fail
  refine wp_region_noPanic ?_
  refine wp_region_E (S := fun w' => w'.cell? ⟨gb, k * 4 + 3, none⟩ = some (.slice ea m ec) ∧ w'.cell? ⟨w.heap.size, 0, none⟩ = some (.int .i64 kind) ∧ w'.cell? ⟨w.heap.size, 1, none⟩ = some (.slice la ln lc) ∧ w'.cell? ⟨w.heap.size, 2, none⟩ = some (.int .i64 line)) (z := 14) (by kernel_rfl) ?_
  refine wpAnyE_take (i := 0) (oi := { dst := some 11, op := Op.move (Operand.tmp 7), type := 22, pos := "laws.go:11", after := #[], guard := none }) (v := ?_) rfl (by kernel_rfl) (by kernel_rfl) (by kernel_rfl) (by kernel_rfl) (fun _ _ _ h => h) (Or.inl ⟨by rfl, ?_⟩) (HS.out _ (Chg.refl _ _).drew) ?_
  rotate_left
  · intro w hSw
    obtain ⟨hSw0, hSw1, hSw2, hSw3⟩ := hSw
    first | (go_simp; done) | (go_simp; with_reducible rfl)
  try simp only [Act.put, List.setIfInBounds_toArray, List.set_cons_zero, List.set_cons_succ]
  refine wpAnyE_take (i := 1) (oi := { dst := some 12, op := Op.move (Operand.tmp 1), type := 3, pos := "laws.go:11", after := #[], guard := none }) (v := ?_) rfl (by kernel_rfl) (by kernel_rfl) (by kernel_rfl) (by kernel_rfl) (fun _ _ _ h => h) (Or.inl ⟨by rfl, ?_⟩) (HS.out _ (Chg.refl _ _).drew) ?_
  rotate_left
  · intro w hSw
    obtain ⟨hSw0, hSw1, hSw2, hSw3⟩ := hSw
    first | (go_simp; done) | (go_simp; with_reducible rfl)
  try simp only [Act.put, List.setIfInBounds_toArray, List.set_cons_zero, List.set_cons_succ]
  refine wpAnyE_take (i := 3) (oi := { dst := some 14, op := Op.move (Operand.tmp 7), type := 22, pos := "laws.go:11", after := #[], guard := none }) (v := ?_) rfl (by kernel_rfl) (by kernel_rfl) (by kernel_rfl) (by kernel_rfl) (fun _ _ _ h => h) (Or.inl ⟨by rfl, ?_⟩) (HS.out _ (Chg.refl _ _).drew) ?_
  rotate_left
  · intro w hSw
    obtain ⟨hSw0, hSw1, hSw2, hSw3⟩ := hSw
    first | (go_simp; done) | (go_simp; with_reducible rfl)
  try simp only [Act.put, List.setIfInBounds_toArray, List.set_cons_zero, List.set_cons_succ]
  refine wpAnyE_take (i := 4) (oi := { dst := some 15, op := Op.move (Operand.tmp 1), type := 3, pos := "laws.go:11", after := #[], guard := none }) (v := ?_) rfl (by kernel_rfl) (by kernel_rfl) (by kernel_rfl) (by kernel_rfl) (fun _ _ _ h => h) (Or.inl ⟨by rfl, ?_⟩) (HS.out _ (Chg.refl _ _).drew) ?_
  rotate_left
  · intro w hSw
    obtain ⟨hSw0, hSw1, hSw2, hSw3⟩ := hSw
    first | (go_simp; done) | (go_simp; with_reducible rfl)
  try simp only [Act.put, List.setIfInBounds_toArray, List.set_cons_zero, List.set_cons_succ]
  refine wpAnyE_take (i := 5) (oi := { dst := some 16, op := Op.indexAddr 22 (Operand.tmp 14) (Operand.tmp 15), type := 0, pos := "laws.go:11", after := #[{ on := 3, ground := Ground.data }, { on := 4, ground := Ground.data }], guard := none }) (v := ?_) rfl (by kernel_rfl) (by kernel_rfl) (by kernel_rfl) (by kernel_rfl) (fun _ _ _ h => h) (Or.inl ⟨by rfl, ?_⟩) (HS.out _ (Chg.refl _ _).drew) ?_
  rotate_left
  · intro w hSw
    obtain ⟨hSw0, hSw1, hSw2, hSw3⟩ := hSw
    first | (go_simp; done) | (go_simp; with_reducible rfl)
  try simp only [Act.put, List.setIfInBounds_toArray, List.set_cons_zero, List.set_cons_succ]
  refine wpAnyE_take (i := 6) (oi := { dst := some 17, op := Op.fieldAddr 55 (Operand.tmp 16) 3, type := 0, pos := "laws.go:11", after := #[{ on := 5, ground := Ground.data }], guard := none }) (v := ?_) rfl (by kernel_rfl) (by kernel_rfl) (by kernel_rfl) (by kernel_rfl) (fun _ _ _ h => h) (Or.inl ⟨by rfl, ?_⟩) (HS.out _ (Chg.refl _ _).drew) ?_
  rotate_left
  · intro w hSw
    obtain ⟨hSw0, hSw1, hSw2, hSw3⟩ := hSw
    first | (go_simp; done) | (go_simp; with_reducible rfl)
  try simp only [Act.put, List.setIfInBounds_toArray, List.set_cons_zero, List.set_cons_succ]
  refine wpAnyE_take (i := 7) (oi := { dst := some 18, op := Op.load 53 (Operand.tmp 17), type := 53, pos := "laws.go:11", after := #[{ on := 6, ground := Ground.data }], guard := none }) (v := ?_) rfl (by kernel_rfl) (by kernel_rfl) (by kernel_rfl) (by kernel_rfl) (fun _ _ _ h => h) (Or.inl ⟨by rfl, ?_⟩) (HS.out _ (Chg.refl _ _).drew) ?_
  rotate_left
  · intro w hSw
    obtain ⟨hSw0, hSw1, hSw2, hSw3⟩ := hSw
    first | (go_simp; done) | (go_simp; with_reducible rfl)
  try simp only [Act.put, List.setIfInBounds_toArray, List.set_cons_zero, List.set_cons_succ]
  refine wpAnyE_take (i := 9) (oi := { dst := some 20, op := Op.load 50 (Operand.tmp 5), type := 50, pos := "laws.go:11", after := #[], guard := none }) (v := ?_) rfl (by kernel_rfl) (by kernel_rfl) (by kernel_rfl) (by kernel_rfl) (fun _ _ _ h => h) (Or.inl ⟨by rfl, ?_⟩) (HS.out _ (Chg.refl _ _).drew) ?_
  rotate_left
  · intro w hSw
    obtain ⟨hSw0, hSw1, hSw2, hSw3⟩ := hSw
    first | (go_simp; done) | (go_simp; with_reducible rfl)
  try simp only [Act.put, List.setIfInBounds_toArray, List.set_cons_zero, List.set_cons_succ]
  refine wpAnyE_two (i := 2) (j := 10) (oi := { dst := some 13, op := Op.buildSlice 53 0 #[], type := 53, pos := "laws.go:11", after := #[], guard := none }) (oj := { dst := some 21, op := Op.buildSlice 53 1 #[(0, Operand.tmp 20)], type := 53, pos := "laws.go:11", after := #[{ on := 9, ground := Ground.data }], guard := none }) (by kernel_rfl) rfl rfl rfl rfl ?_ ?_
  · intro K hK
    have KA : Chg (fun _ => False) w2 (w2.alloc (.cells #[] 50)).drew := ((Chg.refl _ _).alloc _).drew
    go_simp
    refine hK.out _ _ (.inr (HS.out _ KA)) ?_
    clear hK K
    try simp only [Act.put, List.setIfInBounds_toArray, List.set_cons_zero, List.set_cons_succ]
    refine wpAnyE_two (i := 8) (j := 10) (oi := { dst := some 19, op := Op.call { callee := Callee.builtin Builtin.append, args := #[Operand.tmp 13, Operand.tmp 18], argTypes := #[53, 53] }, type := 53, pos := "laws.go:11", after := #[{ on := 2, ground := Ground.data }, { on := 7, ground := Ground.data }], guard := none }) (oj := { dst := some 21, op := Op.buildSlice 53 1 #[(0, Operand.tmp 20)], type := 53, pos := "laws.go:11", after := #[{ on := 9, ground := Ground.data }], guard := none }) (by kernel_rfl) rfl rfl rfl rfl ?_ ?_
    · intro K hK
      refine wp_append_any (.tmp 13) (.tmp 18) 53 rfl w2.heap.size 50 i0 (.agg #[.int .i64 0, .slice none 0 0, .int .i64 0]) 3 40 Tryf.underlying53 hi hz0 hz1 hz2 rfl (by decide) (.slice (some ⟨w2.heap.size, 0, none⟩) 0 0) 0 [] rfl (OWN0.out _ _ (made_block w2 _) (by omega)) _ m ers.flatten rfl (SRC.out _ KA) HONE.out lnA byA (KA).size ?_
      intro v3 w3 own3 grow3
      simp only [Nat.zero_add, List.nil_append] at own3
      have K3 : Chg (fun _ => False) w2 w3 := KA.step (Chg.of_grown (M := fun k => k = w2.heap.size) grow3 (fun k h => by simp [Value.ownBlock] at h; omega)) (fun k hk h => by omega)
      refine hK.out _ _ (.inr (HS.out _ K3)) ?_
      clear hK K
      try simp only [Act.put, List.setIfInBounds_toArray, List.set_cons_zero, List.set_cons_succ]
      refine wpAnyE_one (i := 10) (o := { dst := some 21, op := Op.buildSlice 53 1 #[(0, Operand.tmp 20)], type := 53, pos := "laws.go:11", after := #[{ on := 9, ground := Ground.data }], guard := none }) (by kernel_rfl) rfl rfl ?_
      intro K hK
      have KB : Chg (fun _ => False) w2 (w3.alloc (.cells #[.int .i64 kind, .slice la ln lc, .int .i64 line] 50)) := K3.alloc _
      go_simp
      refine hK.out _ _ (.inr (HS.out _ KB)) ?_
      clear hK K
      try simp only [Act.put, List.setIfInBounds_toArray, List.set_cons_zero, List.set_cons_succ]
      refine wpAnyE_one (i := 11) (o := { dst := some 22, op := Op.call { callee := Callee.builtin Builtin.append, args := #[Operand.tmp 19, Operand.tmp 21], argTypes := #[53, 53] }, type := 53, pos := "laws.go:11", after := #[{ on := 8, ground := Ground.data }, { on := 10, ground := Ground.data }, { on := 8, ground := Ground.chain }], guard := none }) (by kernel_rfl) rfl rfl ?_
      intro K hK
      refine wp_append_any (.tmp 19) (.tmp 21) 53 rfl w2.heap.size 50 i0 (.agg #[.int .i64 0, .slice none 0 0, .int .i64 0]) 3 40 Tryf.underlying53 hi hz0 hz1 hz2 rfl (by decide) _ m ers.flatten rfl (own3.alloc _) (.slice (some ⟨w3.heap.size, 0, none⟩) 1 1) 1 [.int .i64 kind, .slice la ln lc, .int .i64 line] rfl (cells_fresh (heap_new w3 _)) HONE1.out lnB byB (KB).size ?_
      intro v4 w4 own4 grow4
      have K4 : Chg (fun _ => False) w2 w4 := KB.step (Chg.of_grown (M := fun k => v3.ownBlock = some k) grow4 (fun k h => h)) (fun k hk h => absurd hk (Nat.not_lt_of_le (own3.lt k h).1))
      obtain ⟨va, vc, rfl⟩ := owns_formN own4
      obtain ⟨z0, fin⟩ := FIN.out _ _ _ K4 own4
      refine hK.out _ _ (.inr (HS.out _ K4)) ?_
      clear hK K
      try simp only [Act.put, List.setIfInBounds_toArray, List.set_cons_zero, List.set_cons_succ]
      refine wpAnyE_one (i := 12) (o := { dst := some 23, op := Op.indexAddr 22 (Operand.tmp 11) (Operand.tmp 12), type := 0, pos := "laws.go:11", after := #[{ on := 0, ground := Ground.data }, { on := 1, ground := Ground.data }, { on := 0, ground := Ground.phase }, { on := 1, ground := Ground.phase }, { on := 2, ground := Ground.phase }, { on := 3, ground := Ground.phase }, { on := 4, ground := Ground.phase }, { on := 5, ground := Ground.phase }, { on := 6, ground := Ground.phase }, { on := 7, ground := Ground.phase }, { on := 8, ground := Ground.phase }, { on := 9, ground := Ground.phase }, { on := 10, ground := Ground.phase }, { on := 11, ground := Ground.phase }], guard := none }) (by kernel_rfl) rfl rfl ?_
      intro K hK
      go_simp
      refine hK.out _ _ (.inr (HS.out _ K4)) ?_
      clear hK K
      try simp only [Act.put, List.setIfInBounds_toArray, List.set_cons_zero, List.set_cons_succ]
      refine wpAnyE_take (i := 13) (oi := { dst := some 24, op := Op.fieldAddr 55 (Operand.tmp 23) 3, type := 0, pos := "laws.go:11", after := #[{ on := 12, ground := Ground.data }, { on := 0, ground := Ground.phase }, { on := 1, ground := Ground.phase }, { on := 2, ground := Ground.phase }, { on := 3, ground := Ground.phase }, { on := 4, ground := Ground.phase }, { on := 5, ground := Ground.phase }, { on := 6, ground := Ground.phase }, { on := 7, ground := Ground.phase }, { on := 8, ground := Ground.phase }, { on := 9, ground := Ground.phase }, { on := 10, ground := Ground.phase }, { on := 11, ground := Ground.phase }], guard := none }) (v := ?_) rfl (by kernel_rfl) (by kernel_rfl) (by kernel_rfl) (by kernel_rfl) (fun _ _ _ h => h) (Or.inl ⟨by rfl, ?_⟩) (HS.out _ K4) ?_
      rotate_left
      · intro w hSw
        obtain ⟨hSw0, hSw1, hSw2, hSw3⟩ := hSw
        first | (go_simp; done) | (go_simp; with_reducible rfl)
      try simp only [Act.put, List.setIfInBounds_toArray, List.set_cons_zero, List.set_cons_succ]
      refine wpAnyE_one (i := 14) (o := { dst := none, op := Op.store 53 (Operand.tmp 24) (Operand.tmp 22), type := 0, pos := "laws.go:11", after := #[{ on := 13, ground := Ground.data }, { on := 11, ground := Ground.data }, { on := 11, ground := Ground.chain }, { on := 0, ground := Ground.phase }, { on := 1, ground := Ground.phase }, { on := 2, ground := Ground.phase }, { on := 3, ground := Ground.phase }, { on := 4, ground := Ground.phase }, { on := 5, ground := Ground.phase }, { on := 6, ground := Ground.phase }, { on := 7, ground := Ground.phase }, { on := 8, ground := Ground.phase }, { on := 9, ground := Ground.phase }, { on := 10, ground := Ground.phase }, { on := 11, ground := Ground.phase }], guard := none }) (by kernel_rfl) rfl rfl ?_
      intro K hK
      obtain ⟨sA, sB, sC, sD⟩ := HS.out _ K4
      go_simp
      refine hK.out _ _ (.inl rfl) ?_
      clear hK K
      refine wpAnyE_done (by kernel_rfl) ?_ _
      refine NoPanic.normal ?_
      have FF := Lib.hid fin
      clear fin own4 grow4 own3 grow3 sA sB sC sD z0
      go_wp2
      go_ret
      exact FF.out
    · intro K hK
      have KB : Chg (fun _ => False) w2 ((w2.alloc (.cells #[] 50)).alloc (.cells #[.int .i64 kind, .slice la ln lc, .int .i64 line] 50)).drew := (((Chg.refl _ _).alloc _).alloc _).drew
      go_simp
      refine hK.out _ _ (.inr (HS.out _ KB)) ?_
      clear hK K
      try simp only [Act.put, List.setIfInBounds_toArray, List.set_cons_zero, List.set_cons_succ]
      refine wpAnyE_one (i := 8) (o := { dst := some 19, op := Op.call { callee := Callee.builtin Builtin.append, args := #[Operand.tmp 13, Operand.tmp 18], argTypes := #[53, 53] }, type := 53, pos := "laws.go:11", after := #[{ on := 2, ground := Ground.data }, { on := 7, ground := Ground.data }], guard := none }) (by kernel_rfl) rfl rfl ?_
      intro K hK
      refine wp_append_any (.tmp 13) (.tmp 18) 53 rfl w2.heap.size 50 i0 (.agg #[.int .i64 0, .slice none 0 0, .int .i64 0]) 3 40 Tryf.underlying53 hi hz0 hz1 hz2 rfl (by decide) (.slice (some ⟨w2.heap.size, 0, none⟩) 0 0) 0 [] rfl (OWN0.out _ _ (made_block2 w2 _ _) (by omega)) _ m ers.flatten rfl (SRC.out _ KB) HONE.out lnA byA (KB).size ?_
      intro v3 w3 own3 grow3
      simp only [Nat.zero_add, List.nil_append] at own3
      have K3 : Chg (fun _ => False) w2 w3 := KB.step (Chg.of_grown (M := fun k => k = w2.heap.size) grow3 (fun k h => by simp [Value.ownBlock] at h; omega)) (fun k hk h => by omega)
      have hE1 : w3.heap[w2.heap.size + 1]? = some (.cells #[.int .i64 kind, .slice la ln lc, .int .i64 line] 50 (0, 0)) := grown_at grow3 (by simp [Value.ownBlock]) (made_block3 w2 _ _)
      refine hK.out _ _ (.inr (HS.out _ K3)) ?_
      clear hK K
      try simp only [Act.put, List.setIfInBounds_toArray, List.set_cons_zero, List.set_cons_succ]
      refine wpAnyE_one (i := 11) (o := { dst := some 22, op := Op.call { callee := Callee.builtin Builtin.append, args := #[Operand.tmp 19, Operand.tmp 21], argTypes := #[53, 53] }, type := 53, pos := "laws.go:11", after := #[{ on := 8, ground := Ground.data }, { on := 10, ground := Ground.data }, { on := 8, ground := Ground.chain }], guard := none }) (by kernel_rfl) rfl rfl ?_
      intro K hK
      refine wp_append_any (.tmp 19) (.tmp 21) 53 rfl w2.heap.size 50 i0 (.agg #[.int .i64 0, .slice none 0 0, .int .i64 0]) 3 40 Tryf.underlying53 hi hz0 hz1 hz2 rfl (by decide) _ m ers.flatten rfl own3 (.slice (some ⟨w2.heap.size + 1, 0, none⟩) 1 1) 1 [.int .i64 kind, .slice la ln lc, .int .i64 line] rfl (cells_fresh hE1) HONE1.out lnB byB (K3).size ?_
      intro v4 w4 own4 grow4
      have K4 : Chg (fun _ => False) w2 w4 := K3.step (Chg.of_grown (M := fun k => v3.ownBlock = some k) grow4 (fun k h => h)) (fun k hk h => absurd hk (Nat.not_lt_of_le (own3.lt k h).1))
      obtain ⟨va, vc, rfl⟩ := owns_formN own4
      obtain ⟨z0, fin⟩ := FIN.out _ _ _ K4 own4
      refine hK.out _ _ (.inr (HS.out _ K4)) ?_
      clear hK K
      try simp only [Act.put, List.setIfInBounds_toArray, List.set_cons_zero, List.set_cons_succ]
      refine wpAnyE_one (i := 12) (o := { dst := some 23, op := Op.indexAddr 22 (Operand.tmp 11) (Operand.tmp 12), type := 0, pos := "laws.go:11", after := #[{ on := 0, ground := Ground.data }, { on := 1, ground := Ground.data }, { on := 0, ground := Ground.phase }, { on := 1, ground := Ground.phase }, { on := 2, ground := Ground.phase }, { on := 3, ground := Ground.phase }, { on := 4, ground := Ground.phase }, { on := 5, ground := Ground.phase }, { on := 6, ground := Ground.phase }, { on := 7, ground := Ground.phase }, { on := 8, ground := Ground.phase }, { on := 9, ground := Ground.phase }, { on := 10, ground := Ground.phase }, { on := 11, ground := Ground.phase }], guard := none }) (by kernel_rfl) rfl rfl ?_
      intro K hK
      go_simp
      refine hK.out _ _ (.inr (HS.out _ K4)) ?_
      clear hK K
      try simp only [Act.put, List.setIfInBounds_toArray, List.set_cons_zero, List.set_cons_succ]
      refine wpAnyE_take (i := 13) (oi := { dst := some 24, op := Op.fieldAddr 55 (Operand.tmp 23) 3, type := 0, pos := "laws.go:11", after := #[{ on := 12, ground := Ground.data }, { on := 0, ground := Ground.phase }, { on := 1, ground := Ground.phase }, { on := 2, ground := Ground.phase }, { on := 3, ground := Ground.phase }, { on := 4, ground := Ground.phase }, { on := 5, ground := Ground.phase }, { on := 6, ground := Ground.phase }, { on := 7, ground := Ground.phase }, { on := 8, ground := Ground.phase }, { on := 9, ground := Ground.phase }, { on := 10, ground := Ground.phase }, { on := 11, ground := Ground.phase }], guard := none }) (v := ?_) rfl (by kernel_rfl) (by kernel_rfl) (by kernel_rfl) (by kernel_rfl) (fun _ _ _ h => h) (Or.inl ⟨by rfl, ?_⟩) (HS.out _ K4) ?_
      rotate_left
      · intro w hSw
        obtain ⟨hSw0, hSw1, hSw2, hSw3⟩ := hSw
        first | (go_simp; done) | (go_simp; with_reducible rfl)
      try simp only [Act.put, List.setIfInBounds_toArray, List.set_cons_zero, List.set_cons_succ]
      refine wpAnyE_one (i := 14) (o := { dst := none, op := Op.store 53 (Operand.tmp 24) (Operand.tmp 22), type := 0, pos := "laws.go:11", after := #[{ on := 13, ground := Ground.data }, { on := 11, ground := Ground.data }, { on := 11, ground := Ground.chain }, { on := 0, ground := Ground.phase }, { on := 1, ground := Ground.phase }, { on := 2, ground := Ground.phase }, { on := 3, ground := Ground.phase }, { on := 4, ground := Ground.phase }, { on := 5, ground := Ground.phase }, { on := 6, ground := Ground.phase }, { on := 7, ground := Ground.phase }, { on := 8, ground := Ground.phase }, { on := 9, ground := Ground.phase }, { on := 10, ground := Ground.phase }, { on := 11, ground := Ground.phase }], guard := none }) (by kernel_rfl) rfl rfl ?_
      intro K hK
      obtain ⟨sA, sB, sC, sD⟩ := HS.out _ K4
      go_simp
      refine hK.out _ _ (.inl rfl) ?_
      clear hK K
      refine wpAnyE_done (by kernel_rfl) ?_ _
      refine NoPanic.normal ?_
      have FF := Lib.hid fin
      clear fin own4 grow4 own3 grow3 sA sB sC sD z0
      go_wp2
      go_ret
      exact FF.out
  · intro K hK
    have KA : Chg (fun _ => False) w2 (w2.alloc (.cells #[.int .i64 kind, .slice la ln lc, .int .i64 line] 50)).drew := ((Chg.refl _ _).alloc _).drew
    go_simp
    refine hK.out _ _ (.inr (HS.out _ KA)) ?_
    clear hK K
    try simp only [Act.put, List.setIfInBounds_toArray, List.set_cons_zero, List.set_cons_succ]
    refine wpAnyE_one (i := 2) (o := { dst := some 13, op := Op.buildSlice 53 0 #[], type := 53, pos := "laws.go:11", after := #[], guard := none }) (by kernel_rfl) rfl rfl ?_
    intro K hK
    have KB : Chg (fun _ => False) w2 ((w2.alloc (.cells #[.int .i64 kind, .slice la ln lc, .int .i64 line] 50)).alloc (.cells #[] 50)).drew := (((Chg.refl _ _).alloc _).alloc _).drew
    go_simp
    refine hK.out _ _ (.inr (HS.out _ KB)) ?_
    clear hK K
    try simp only [Act.put, List.setIfInBounds_toArray, List.set_cons_zero, List.set_cons_succ]
    refine wpAnyE_one (i := 8) (o := { dst := some 19, op := Op.call { callee := Callee.builtin Builtin.append, args := #[Operand.tmp 13, Operand.tmp 18], argTypes := #[53, 53] }, type := 53, pos := "laws.go:11", after := #[{ on := 2, ground := Ground.data }, { on := 7, ground := Ground.data }], guard := none }) (by kernel_rfl) rfl rfl ?_
    intro K hK
    refine wp_append_any (.tmp 13) (.tmp 18) 53 rfl w2.heap.size 50 i0 (.agg #[.int .i64 0, .slice none 0 0, .int .i64 0]) 3 40 Tryf.underlying53 hi hz0 hz1 hz2 rfl (by decide) (.slice (some ⟨w2.heap.size + 1, 0, none⟩) 0 0) 0 [] rfl (OWN0.out _ _ (made_block3 w2 _ _) (by omega)) _ m ers.flatten rfl (SRC.out _ KB) HONE.out lnA byA (KB).size ?_
    intro v3 w3 own3 grow3
    simp only [Nat.zero_add, List.nil_append] at own3
    have K3 : Chg (fun _ => False) w2 w3 := KB.step (Chg.of_grown (M := fun k => k = w2.heap.size + 1) grow3 (fun k h => by simp [Value.ownBlock] at h; omega)) (fun k hk h => by omega)
    have hE1 : w3.heap[w2.heap.size]? = some (.cells #[.int .i64 kind, .slice la ln lc, .int .i64 line] 50 (0, 0)) := grown_at grow3 (by simp [Value.ownBlock]) (made_block2 w2 _ _)
    refine hK.out _ _ (.inr (HS.out _ K3)) ?_
    clear hK K
    try simp only [Act.put, List.setIfInBounds_toArray, List.set_cons_zero, List.set_cons_succ]
    refine wpAnyE_one (i := 11) (o := { dst := some 22, op := Op.call { callee := Callee.builtin Builtin.append, args := #[Operand.tmp 19, Operand.tmp 21], argTypes := #[53, 53] }, type := 53, pos := "laws.go:11", after := #[{ on := 8, ground := Ground.data }, { on := 10, ground := Ground.data }, { on := 8, ground := Ground.chain }], guard := none }) (by kernel_rfl) rfl rfl ?_
    intro K hK
    refine wp_append_any (.tmp 19) (.tmp 21) 53 rfl w2.heap.size 50 i0 (.agg #[.int .i64 0, .slice none 0 0, .int .i64 0]) 3 40 Tryf.underlying53 hi hz0 hz1 hz2 rfl (by decide) _ m ers.flatten rfl own3 (.slice (some ⟨w2.heap.size, 0, none⟩) 1 1) 1 [.int .i64 kind, .slice la ln lc, .int .i64 line] rfl (cells_fresh hE1) HONE1.out lnB byB (K3).size ?_
    intro v4 w4 own4 grow4
    have K4 : Chg (fun _ => False) w2 w4 := K3.step (Chg.of_grown (M := fun k => v3.ownBlock = some k) grow4 (fun k h => h)) (fun k hk h => absurd hk (Nat.not_lt_of_le (own3.lt k h).1))
    obtain ⟨va, vc, rfl⟩ := owns_formN own4
    obtain ⟨z0, fin⟩ := FIN.out _ _ _ K4 own4
    refine hK.out _ _ (.inr (HS.out _ K4)) ?_
    clear hK K
    try simp only [Act.put, List.setIfInBounds_toArray, List.set_cons_zero, List.set_cons_succ]
    refine wpAnyE_one (i := 12) (o := { dst := some 23, op := Op.indexAddr 22 (Operand.tmp 11) (Operand.tmp 12), type := 0, pos := "laws.go:11", after := #[{ on := 0, ground := Ground.data }, { on := 1, ground := Ground.data }, { on := 0, ground := Ground.phase }, { on := 1, ground := Ground.phase }, { on := 2, ground := Ground.phase }, { on := 3, ground := Ground.phase }, { on := 4, ground := Ground.phase }, { on := 5, ground := Ground.phase }, { on := 6, ground := Ground.phase }, { on := 7, ground := Ground.phase }, { on := 8, ground := Ground.phase }, { on := 9, ground := Ground.phase }, { on := 10, ground := Ground.phase }, { on := 11, ground := Ground.phase }], guard := none }) (by kernel_rfl) rfl rfl ?_
    intro K hK
    go_simp
    refine hK.out _ _ (.inr (HS.out _ K4)) ?_
    clear hK K
    try simp only [Act.put, List.setIfInBounds_toArray, List.set_cons_zero, List.set_cons_succ]
    refine wpAnyE_take (i := 13) (oi := { dst := some 24, op := Op.fieldAddr 55 (Operand.tmp 23) 3, type := 0, pos := "laws.go:11", after := #[{ on := 12, ground := Ground.data }, { on := 0, ground := Ground.phase }, { on := 1, ground := Ground.phase }, { on := 2, ground := Ground.phase }, { on := 3, ground := Ground.phase }, { on := 4, ground := Ground.phase }, { on := 5, ground := Ground.phase }, { on := 6, ground := Ground.phase }, { on := 7, ground := Ground.phase }, { on := 8, ground := Ground.phase }, { on := 9, ground := Ground.phase }, { on := 10, ground := Ground.phase }, { on := 11, ground := Ground.phase }], guard := none }) (v := ?_) rfl (by kernel_rfl) (by kernel_rfl) (by kernel_rfl) (by kernel_rfl) (fun _ _ _ h => h) (Or.inl ⟨by rfl, ?_⟩) (HS.out _ K4) ?_
    rotate_left
    · intro w hSw
      obtain ⟨hSw0, hSw1, hSw2, hSw3⟩ := hSw
      first | (go_simp; done) | (go_simp; with_reducible rfl)
    try simp only [Act.put, List.setIfInBounds_toArray, List.set_cons_zero, List.set_cons_succ]
    refine wpAnyE_one (i := 14) (o := { dst := none, op := Op.store 53 (Operand.tmp 24) (Operand.tmp 22), type := 0, pos := "laws.go:11", after := #[{ on := 13, ground := Ground.data }, { on := 11, ground := Ground.data }, { on := 11, ground := Ground.chain }, { on := 0, ground := Ground.phase }, { on := 1, ground := Ground.phase }, { on := 2, ground := Ground.phase }, { on := 3, ground := Ground.phase }, { on := 4, ground := Ground.phase }, { on := 5, ground := Ground.phase }, { on := 6, ground := Ground.phase }, { on := 7, ground := Ground.phase }, { on := 8, ground := Ground.phase }, { on := 9, ground := Ground.phase }, { on := 10, ground := Ground.phase }, { on := 11, ground := Ground.phase }], guard := none }) (by kernel_rfl) rfl rfl ?_
    intro K hK
    obtain ⟨sA, sB, sC, sD⟩ := HS.out _ K4
    go_simp
    refine hK.out _ _ (.inl rfl) ?_
    clear hK K
    refine wpAnyE_done (by kernel_rfl) ?_ _
    refine NoPanic.normal ?_
    have FF := Lib.hid fin
    clear fin own4 grow4 own3 grow3 sA sB sC sD z0
    go_wp2
    go_ret
    exact FF.out
end Go.Proofs.YtigjdicghjofoaaFmt
