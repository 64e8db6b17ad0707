/- What laws.with leaves: a script with one more edit of one file. -/
import Derived.Test.YtigjdicghjofoaaFmtWithP
import Derived.Test.YtigjdicghjofoaaFmtHeldE
import Derived.Test.YtigjdicghjofoaaFmtOpenF
namespace Go.Proofs.YtigjdicghjofoaaFmt
open Go.RowKit Go.MuLone Go.RwLone

theorem Tryf.infosIEdit : (Tryf.prog.info? 50).map (fun i => (i.zero, i.size, i.bytes)) = some (some (.agg #[.int .i64 0, .slice none 0 0, .int .i64 0]), 3, 40) := by kernel_rfl
theorem Tryf.infosIFile : (Tryf.prog.info? 55).map (fun i => (i.zero, i.size, i.bytes)) = some (some (.agg #[.string ⟨#[]⟩, .int .i64 0, .int .i64 0, .slice none 0 0]), 4, 56) := by kernel_rfl

/-- Two alone may come up. -/
theorem wpAnyE_two {P : Program} {ops : Array Oper} {Q : Exit → Act → World → Prop} {md : Region.Mode} {S : World → Prop} {z i j : Nat} {oi oj : Oper} {fuel : Nat} {listed : Array Bool} {a : Act} {w : World} (hr : Region.ready md ops listed = [i, j]) (hi : ops[i]? = some oi) (hj : ops[j]? = some oj) (gi : oi.guard = none) (gj : oj.guard = none)
    (h1 : ∀ K : Act → World → Prop, Shut (∀ a w, (i = z ∨ S w) → wpAnyE P md ops Q S z fuel (listed.setIfInBounds i true) a w → K a w) → Oper.wp P oi a w K Q)
    (h2 : ∀ K : Act → World → Prop, Shut (∀ a w, (j = z ∨ S w) → wpAnyE P md ops Q S z fuel (listed.setIfInBounds j true) a w → K a w) → Oper.wp P oj a w K Q) : wpAnyE P md ops Q S z (fuel + 1) listed a w := by
  refine ⟨(fun h0 => by rw [hr] at h0; cases h0), fun l hl => ?_⟩
  rw [hr] at hl
  simp at hl
  rcases hl with rfl | rfl
  · refine wpOp_step hi (fun K hK => ?_)
    have hw : Region.wanted oi (yielded ops a.tmps) = true := by simp [Region.wanted, gi]
    rw [if_pos hw]
    exact h1 K (fun a w h1 h2 => hK a w ⟨h1, h2⟩)
  · refine wpOp_step hj (fun K hK => ?_)
    have hw : Region.wanted oj (yielded ops a.tmps) = true := by simp [Region.wanted, gj]
    rw [if_pos hw]
    exact h2 K (fun a w h1 h2 => hK a w ⟨h1, h2⟩)

theorem owns_formN {w : World} {B : Nat} {e : TypeId} {sz : Nat} {v : Value} {n : Nat} {xs : List Value} (h : w.ownsRow B e sz v n xs) : ∃ a cap, v = .slice a n cap := by
  rcases h.2 with ⟨rfl, rfl⟩ | ⟨g, cap, cur, rfl, _⟩
  · exact ⟨_, _, rfl⟩
  · exact ⟨_, _, rfl⟩
theorem made_block (w : World) (o : Obj) : (w.alloc o).drew.heap[w.heap.size]? = some o := heap_new w o
theorem made_block2 (w : World) (o o' : Obj) : ((w.alloc o).alloc o').drew.heap[w.heap.size]? = some o := (heap_new_ne (w := w.alloc o) o' (by simp)).trans (heap_new w o)
theorem made_block3 (w : World) (o o' : Obj) : ((w.alloc o).alloc o').drew.heap[w.heap.size + 1]? = some o' := by
  have := heap_new (w.alloc o) o'
  rwa [World.size_alloc] at this
theorem grown_at {w w' : World} {row : Option Nat} {b : Nat} {o : Obj} (h : w.grownBy w' row) (hb : row ≠ some b) (ho : w.heap[b]? = some o) : w'.heap[b]? = some o :=
  (Chg.of_grown (M := fun k => row = some k) h (fun _ h => h)).at ho hb
/-- An empty row that was made. -/
theorem empty_own {w : World} {B b : Nat} {e : TypeId} {size : Nat} (hB : B ≤ b) (h : w.heap[b]? = some (.cells #[] e (0, 0))) : w.ownsRow B e size (.slice (some ⟨b, 0, none⟩) 0 0) 0 [] :=
  ⟨by simp, .inr ⟨b, 0, #[], rfl, hB, h, by simp, by simp [maxLen], by simp, by simp⟩⟩

theorem bd_ln (n : Nat) (h : n * 40 ≤ 140737488351232) : 0 + n ≤ maxLen ∧ n + 1 ≤ maxLen := by unfold maxLen; omega
theorem bd_by (n : Nat) (h : n * 40 ≤ 140737488351232) : ((0 + n) + (0 + n) / 4 + 192) * 40 ≤ 281474976710656 ∧ ((n + 1) + (n + 1) / 4 + 192) * 40 ≤ 281474976710656 := by omega
theorem bd_files (n : Nat) (h : n * 56 ≤ 140737488355328) : 0 + n ≤ maxLen ∧ ((0 + n) + (0 + n) / 4 + 192) * 56 ≤ 281474976710656 := by unfold maxLen; omega
theorem edits_one {w : World} {es : List GEdit} {rs : List (List Value)} (h2 : rs.length = es.length) (h3 : ∀ (k : Nat) (e : GEdit), es[k]? = some e → ∃ r, rs[k]? = some r ∧ EditRow w e r) : ∀ u ∈ rs.flatten, u.oneCell' = true := by
  intro u hu
  obtain ⟨r, hr, hur⟩ := List.mem_flatten.1 hu
  obtain ⟨k, hk⟩ := List.getElem?_of_mem hr
  have hl : k < es.length := by have := (List.getElem?_eq_some_iff.1 hk).1; omega
  obtain ⟨r', hr', lv, rfl, hI, _⟩ := h3 k _ (List.getElem?_eq_getElem hl)
  rw [hk] at hr'
  obtain rfl := Option.some.inj hr'
  obtain ⟨a, c, rfl, _⟩ := hI.cell
  simp at hur
  rcases hur with rfl | rfl | rfl <;> rfl
theorem files_one {w : World} {fs : List GFile} {rs : List (List Value)} (h2 : rs.length = fs.length) (h3 : ∀ (k : Nat) (f : GFile), fs[k]? = some f → ∃ r, rs[k]? = some r ∧ FileRow w f r) : ∀ u ∈ rs.flatten, u.oneCell' = true := by
  intro u hu
  obtain ⟨r, hr, hur⟩ := List.mem_flatten.1 hu
  obtain ⟨k, hk⟩ := List.getElem?_of_mem hr
  have hl : k < fs.length := by have := (List.getElem?_eq_some_iff.1 hk).1; omega
  obtain ⟨r', hr', ev, rfl, hE⟩ := h3 k _ (List.getElem?_eq_getElem hl)
  rw [hk] at hr'
  obtain rfl := Option.some.inj hr'
  obtain ⟨a, c, rfl, _⟩ := hE.cell
  simp at hur
  rcases hur with rfl | rfl | rfl | rfl <;> rfl

/-- The script in memory, its row k's last cell written over. -/
theorem with_files {w w5 : World} {fs : List GFile} {rs : List (List Value)} {k gb c : Nat} {f : GFile} {e : GEdit} {v : Value} (hl : fs.length * 56 ≤ 140737488355328) (hrl : rs.length = fs.length) (hal : AllLen 4 rs)
    (hrow : ∀ (j : Nat) (f : GFile), fs[j]? = some f → ∃ r, rs[j]? = some r ∧ FileRow w f r) (hk : fs[k]? = some f) (hgb : w.heap.size ≤ gb)
    (hcell : ∀ j r, rs[j]? = some r → ∀ i u, r[i]? = some u → w5.cell? ⟨gb, j * 4 + i, none⟩ = some u) (hb : Below w.heap.size w w5)
    (hE : Edits (w5.setCell ⟨gb, k * 4 + 3, none⟩ v) v (f.edits ++ [e])) : Files (w5.setCell ⟨gb, k * 4 + 3, none⟩ v) (.slice (some ⟨gb, 0, none⟩) fs.length c) (withL fs k f e) := by
  have hkl : k < fs.length := (List.getElem?_eq_some_iff.1 hk).1
  have hb6 : Below w.heap.size w (w5.setCell ⟨gb, k * 4 + 3, none⟩ v) := hb.setCell hgb _
  obtain ⟨r0, hr0, ev, rfl, hE0⟩ := hrow k f hk
  refine ⟨by simp [withL]; omega, rs.set k [.string f.name, .int .i64 f.base, .int .i64 f.size, v], ?_, by simp [withL, hrl], fun j x hj => ?_⟩
  · refine rows_of (by omega) (by simp [hrl]) (fun r hr => ?_) (fun j r hj i u hi => ?_)
    · rcases List.mem_or_eq_of_mem_set hr with h | h
      · exact hal r h
      · rw [h]; rfl
    · rw [Go.WideShapes.add_plain, Nat.zero_add]
      rw [List.getElem?_set] at hj
      split at hj
      · rename_i hkj
        subst hkj
        rw [if_pos (by omega)] at hj
        simp at hj
        subst hj
        match i, hi with
        | 0, hi => rw [World.cell?_setCell_other _ _ _ _ (fun h => by injection h with h1 h2 h3; omega)]; exact hcell k _ hr0 0 u (by simpa using hi)
        | 1, hi => rw [World.cell?_setCell_other _ _ _ _ (fun h => by injection h with h1 h2 h3; omega)]; exact hcell k _ hr0 1 u (by simpa using hi)
        | 2, hi => rw [World.cell?_setCell_other _ _ _ _ (fun h => by injection h with h1 h2 h3; omega)]; exact hcell k _ hr0 2 u (by simpa using hi)
        | 3, hi =>
          simp at hi
          subst hi
          have h3 := hcell k _ hr0 3 ev rfl
          exact World.cell?_setCell_same _ _ _ h3
      · rename_i hkj
        have hlen := hal r (List.mem_of_getElem? hj)
        have hi4 : i < 4 := by have := (List.getElem?_eq_some_iff.1 hi).1; omega
        rw [World.cell?_setCell_other _ _ _ _ (fun h => by injection h with h1 h2 h3; omega)]
        exact hcell j r hj i u hi
  · rw [withL, List.getElem?_set] at hj
    split at hj
    · rename_i hkj
      subst hkj
      simp at hj
      subst hj
      exact ⟨_, by rw [List.getElem?_set_self (by omega)], _, rfl, hE⟩
    · rename_i hkj
      obtain ⟨r, hr, hfr⟩ := hrow j x hj
      exact ⟨r, by rw [List.getElem?_set_ne hkj]; exact hr, hfr.below hb6⟩

theorem with_fin {w : World} {fs : List GFile} {rs ers : List (List Value)} {k n m ln lc : Nat} {f : GFile} {kind line : Int} {la : Option Addr} {ls : List Int} (hlen : fs.length * 56 ≤ 140737488355328) (hrl : rs.length = fs.length) (hal : AllLen 4 rs)
    (hrow : ∀ (j : Nat) (f : GFile), fs[j]? = some f → ∃ r, rs[j]? = some r ∧ FileRow w f r) (hk : fs[k]? = some f) (hr : f.edits.length * 40 ≤ 140737488351232) (hn : n = rs.length) (hm : m = ers.length) (heal : AllLen 3 ers) (herl : ers.length = f.edits.length)
    (hErow : ∀ (j : Nat) (e : GEdit), f.edits[j]? = some e → ∃ r, ers[j]? = some r ∧ EditRow w e r) (hIE : EditRow w ⟨kind, ls, line⟩ [.int .i64 kind, .slice la ln lc, .int .i64 line])
    {w2 : World} {gb c : Nat} {cur : Array Value} (own : w2.ownsRow w.heap.size 55 4 (.slice (some ⟨gb, 0, none⟩) n c) n rs.flatten) (hgb : w.heap.size ≤ gb) (hcur : w2.heap[gb]? = some (.cells cur 55 (0, 0))) (hb2 : Below w.heap.size w w2)
    (w4 : World) (va : Option Addr) (vc : Nat) (K4 : Chg (fun _ => False) w2 w4) (own4 : w4.ownsRow w2.heap.size 50 3 (.slice va (m + 1) vc) (m + 1) (ers.flatten ++ [.int .i64 kind, .slice la ln lc, .int .i64 line])) :
    w4.frozen? ⟨gb, k * 4 + 3, none⟩ = false ∧ ∃ v, Ending.returned (.slice (some ⟨gb, 0, none⟩) n c) = .returned v ∧ Files (w4.setCell ⟨gb, k * 4 + 3, none⟩ (.slice va (m + 1) vc)) v (withL fs k f ⟨kind, ls, line⟩) ∧ Below w.heap.size w (w4.setCell ⟨gb, k * 4 + 3, none⟩ (.slice va (m + 1) vc)) := by
  have hb4 : Below w.heap.size w w4 := K4.below_of hb2 hb2.size (fun _ h => h.elim)
  have hcur4 := K4.at hcur id
  have own' := owns_chg own K4 (fun g _ => id)
  refine ⟨free_of hcur4 _, _, rfl, ?_, hb4.setCell hgb _⟩
  have hrows : RowsL w4 4 (.slice (some ⟨gb, 0, none⟩) n c) rs := ⟨hal, by rw [← hn]; exact owns_cells own'⟩
  rw [show n = fs.length by omega]
  refine with_files hlen hrl hal hrow hk hgb (fun j r hj i u hi => ?_) hb4 ?_
  · obtain ⟨a, c', he, h⟩ := hrows.cell
    simp at he
    rcases h with h | ⟨g, o, ha, h⟩
    · rw [h] at hj; simp at hj
    · rw [← he.1] at ha
      simp at ha
      obtain ⟨rfl, rfl⟩ := ha
      have := h j r hj i u hi
      rwa [Nat.zero_add] at this
  · have hb6 : Below w.heap.size w (w4.setCell ⟨gb, k * 4 + 3, none⟩ (.slice va (m + 1) vc)) := hb4.setCell hgb _
    have own6 := owns_chg own4 (M := fun b => b = gb) (w' := w4.setCell ⟨gb, k * 4 + 3, none⟩ (.slice va (m + 1) vc)) (Chg.set (M := fun b => b = gb) (Chg.refl _ _) (a := ⟨gb, k * 4 + 3, none⟩) (.inl rfl) _) (fun g hg => owns_ne own4 hcur4 (by decide) g hg)
    subst hm
    refine ⟨by simp; omega, ers ++ [[.int .i64 kind, .slice la ln lc, .int .i64 line]], (OwnsL.snoc heal rfl own6).rows, by simp [herl], fun j x hj => ?_⟩
    rcases snoc_at hj with ⟨_, hj⟩ | ⟨rfl, rfl⟩
    · obtain ⟨r', hr', he⟩ := hErow j x hj
      exact ⟨r', at_snoc hr', he.below hb6⟩
    · exact ⟨_, by rw [← herl]; simp, hIE.below hb6⟩
end Go.Proofs.YtigjdicghjofoaaFmt
