/- impl.edit. -/
import Derived.Test.YtmijedghihebjaaGreatFmtModel
namespace Go.Proofs.YtmijedghihebjaaGreatFmt
open Go.RowKit Go.MuLone Go.RwLone

set_option maxRecDepth 100000 in
set_option maxHeartbeats 1000000 in
theorem edit_any (B fb : Nat) (name : ByteArray) (base size : Int) (lv ev : Value) (ls : List Int) (e : GEdit) (w : World) (H : FileSt w B fb name base size lv ls) (hB : B ≤ fb) (he : Ints w ev e.lines) (hlen : e.lines.length * 8 ≤ 140737488355328) (hs : soundE size e) :
    Calls Tryz.prog 26 #[.pointer (some ⟨fb, 0, none⟩), .agg #[.int .i64 e.kind, ev, .int .i64 e.line]] w (LeavesEdit B fb name base size lv (stepL size ls e) (stepB size ls e) w) := by
  obtain ⟨i0, hi, hz0, hz1, hz2⟩ := info_parts Tryz.infoInt
  have hfb : fb < w.heap.size := lt_of_heap H.file
  have hBw : B ≤ w.heap.size := by omega
  obtain ⟨kind, els, line⟩ := e
  simp only at he hlen ⊢
  have hbox : Below w.heap.size w (w.alloc (.cells #[.int .i64 kind, ev, .int .i64 line] 67)) := (Below.refl _ _).alloc (Nat.le_refl _) _
  have H1 := H.below hbox
  have hN : (w.alloc (.cells #[.int .i64 kind, ev, .int .i64 line] 67)).heap[w.heap.size]? = some (.cells #[.int .i64 kind, ev, .int .i64 line] 67 (0, 0)) := heap_new _ _
  have hez := he.below hbox
  by_cases k1 : kind = 1
  · subst k1
    have h0 : els = [] ∨ els.getD 0 0 = 0 := by
      rcases hs with h | ⟨h, _⟩ | ⟨_, h⟩
      · simp at h
      · exact .inl h
      · exact .inr h
    have e1 : stepL size ls ⟨1, els, line⟩ = if rise size els then els else ls := by simp [stepL]
    have e2 : stepB size ls ⟨1, els, line⟩ = rise size els := by simp [stepB]
    rw [e1, e2]
    obtain ⟨L, hL⟩ : ∃ L, L = (if rise size els then els else ls) := ⟨_, rfl⟩
    obtain ⟨b, hb⟩ : ∃ b, b = rise size els := ⟨_, rfl⟩
    rw [← hL, ← hb]
    have HL := Lib.hid hL
    have HBB := Lib.hid hb
    have HE := Lib.hid hez.cells
    have H0 := Lib.hid h0
    have i1 : els.length ≤ 17592186044416 := by omega
    clear e1 e2 hs he hL hb hN h0 hlen hez
    obtain ⟨ea, ec, rfl⟩ : ∃ ea ec, ev = .slice ea els.length ec := by obtain ⟨_, a, c, h, _⟩ := HE.out; exact ⟨a, c, by simpa using h⟩
    have own0 : ((w.alloc (.cells #[.int .i64 1, .slice ea els.length ec, .int .i64 line] 67)).alloc (.cells #[] 3)).ownsRow B 3 1 (.slice (some ⟨w.heap.size + 1, 0, none⟩) 0 0) 0 [] := by
      have := World.ownsRow_made (base := B) (size := 1) (e := 3) (w.alloc (.cells #[.int .i64 1, .slice ea els.length ec, .int .i64 line] 67)) #[] 0 (by simp; omega) (by simp [maxLen]) (by simp)
      rwa [World.size_alloc] at this
    go_enter Tryz.func26, Tryz.ntmps26
    go_wp2_with (at_builtin; refine wpList_append_any rfl _ _ 23 rfl B 3 i0 (.int .i64 0) 1 8 Tryz.underlying23 hi hz0 hz1 hz2 rfl (by decide) _ 0 [] rfl own0 (.slice ea els.length ec) els.length (els.map (Value.int .i64)) rfl ?c2 ?c3 ?c4 ?c5 ?c6 ?_)
    case c2 => have := HE.out.below (w' := (w.alloc (.cells #[.int .i64 1, .slice ea els.length ec, .int .i64 line] 67)).alloc (.cells #[] 3)) ((Below.refl _ _).alloc (Nat.le_refl _) _); simpa using this
    case c3 => exact ints_one _
    case c4 => unfold maxLen; omega
    case c5 => omega
    case c6 => simp; omega
    · intro nv w1 own1 grow1
      have hb1 : Below w.heap.size w w1 := (((Below.refl _ _).alloc (Nat.le_refl _) _).alloc (by simp) _).grown grow1 (by simp; omega) (fun k hk => by simp [Value.ownBlock] at hk; omega)
      have FS1 := H.below hb1
      clear own0 HE hbox H1 H grow1
      obtain ⟨na, nc, rfl⟩ := owns_form own1
      go_wp2_with fail
      refine (setLines_any B fb name base size lv _ ls els w1 FS1 own1 (by omega) H0.out).mono ?_
      rintro e w2 ⟨rfl, FS2, hb2⟩
      rw [← HL.out] at FS2
      rw [← HBB.out]
      have hb3 : Chg (fun k => k = fb ∨ lv.ownBlock = some k) w w2 := (Chg.of_below hb1).trans (hb2.mono fun _ _ h => .inl h)
      clear own1 hb1 hb2 FS1 HL HBB
      go_wp2
      go_ret
      exact ⟨rfl, FS2, hb3⟩
  · by_cases k2 : kind = 2
    · subst k2
      have e1 : stepL size ls ⟨2, els, line⟩ = mergeL ls line := by simp [stepL]
      have e2 : stepB size ls ⟨2, els, line⟩ = mergeOk ls line := by simp [stepB]
      rw [e1, e2]
      have HM := Lib.hid (merge_any B fb name base size lv ls line _ H1)
      generalize mergeL ls line = L at *
      generalize mergeOk ls line = b at *
      have HB2 := Lib.hid hbox
      clear e1 e2 hs he hN hez H1 hbox k1
      go_enter Tryz.func26, Tryz.ntmps26
      go_wp2_with fail
      refine HM.out.mono ?_
      rintro e w2 ⟨rfl, FS2, hb2⟩
      have hb3 : Chg (fun k => k = fb ∨ lv.ownBlock = some k) w w2 := (Chg.of_below HB2.out).trans hb2
      clear HM HB2 hb2
      go_wp2
      go_ret
      exact ⟨rfl, FS2, hb3⟩
    · have e1 : stepL size ls ⟨kind, els, line⟩ = ls := by simp [stepL, k1, k2]
      have e2 : stepB size ls ⟨kind, els, line⟩ = true := by simp [stepB, k1, k2]
      rw [e1, e2]
      have HB2 := Lib.hid hbox
      clear e1 e2 hs he hN hez hbox
      go_enter Tryz.func26, Tryz.ntmps26
      go_wp2
      go_ret
      exact ⟨rfl, ⟨_, H1⟩, Chg.of_below HB2.out⟩
end Go.Proofs.YtmijedghihebjaaGreatFmt
