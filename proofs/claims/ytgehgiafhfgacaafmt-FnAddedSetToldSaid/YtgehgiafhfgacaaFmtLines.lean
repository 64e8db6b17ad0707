/- AddLine. -/
import Derived.Test.YtgehgiafhfgacaaFmtPosn
namespace Go.Proofs.YtgehgiafhfgacaaFmt
open Go.RowKit Go.MuLone Go.RwLone

theorem Tryf.infoInt : (Tryf.prog.info? 3).map (fun i => (i.zero, i.size, i.bytes)) = some (some (.int .i64 0), 1, 8) := by kernel_rfl

theorem Below.toChg {B : Nat} {w w' : World} (h : Below B w w') : Chg (fun k => B ≤ k) w w' := ⟨h.os, h.tape, h.output, h.size, fun i _ hm => h.block i (by omega)⟩

theorem Inc.append {ls : List Int} {x : Int} (h : Inc ls) (hx : ∀ y ∈ ls, y < x) : Inc (ls ++ [x]) := by
  unfold Inc
  rw [List.pairwise_append]
  exact ⟨h, by simp, fun a ha b hb => by simp at hb; subst hb; exact hx a ha⟩

/-- In a rising list the last is the greatest. -/
theorem Inc.last {ls : List Int} (h : Inc ls) : ∀ y ∈ ls, y ≤ ls.getD (ls.length - 1) 0 := by
  intro y hy
  obtain ⟨k, hk, rfl⟩ := List.getElem_of_mem hy
  have hlen : 0 < ls.length := by omega
  rw [List.getD_eq_getElem?_getD, List.getElem?_eq_getElem (by omega)]
  simp only [Option.getD_some]
  rcases Nat.lt_or_ge k (ls.length - 1) with hlt | hge
  · have := List.pairwise_iff_getElem.1 h k (ls.length - 1) hk (by omega) hlt
    omega
  · have : k = ls.length - 1 := by omega
    subst this
    exact Int.le_refl _

/-- An owned slice's block is none of another type. -/
theorem owns_ne {w : World} {B : Nat} {e t : TypeId} {sz : Nat} {v : Value} {n : Nat} {xs : List Value} {fb : Nat} {c : Array Value} {fr : Nat × Nat} (h : w.ownsRow B e sz v n xs) (hf : w.heap[fb]? = some (.cells c t fr)) (hne : e ≠ t) : ∀ g, v.ownBlock = some g → ¬ g = fb := by
  intro g hg
  rcases h.2 with ⟨rfl, _⟩ | ⟨g', cap, cur, rfl, _, hh, _⟩
  · simp [Value.ownBlock] at hg
  · simp [Value.ownBlock] at hg
    subst hg
    exact ne_of_type hh hf hne

/-- The lines behind AddLine. -/
def addL (size : Int) (ls : List Int) (off : Int) : List Int := if ls.getD (ls.length - 1) 0 < off ∧ off < size then ls ++ [off] else ls

/-- What AddLine leaves: the file with its lines; only the file and its old lines' row have changed. -/
def LeavesLines (B fb : Nat) (name : ByteArray) (base size : Int) (lv : Value) (ls : List Int) (w : World) (e : Ending) (w' : World) : Prop :=
  e = .returned (.tuple #[]) ∧ (∃ lv', FileSt w' B fb name base size lv' ls) ∧ Chg (fun k => k = fb ∨ lv.ownBlock = some k) w w'

set_option maxRecDepth 100000 in
set_option maxHeartbeats 1000000 in
theorem addLine_any (B fb : Nat) (name : ByteArray) (base size : Int) (lv : Value) (ls : List Int) (off : Int) (w : World) (H : FileSt w B fb name base size lv ls) (hne : ls ≠ []) (hB : B ≤ fb) (hlen : (ls.length + 1) * 8 ≤ 140737488355328) :
    Calls Tryf.prog 32 #[.pointer (some ⟨fb, 0, none⟩), .int .i64 off] w (LeavesLines B fb name base size lv (addL size ls off) w) := by
  obtain ⟨i0, hi, hz0, hz1, hz2⟩ := info_parts Tryf.infoInt
  have hfb : fb < w.heap.size := lt_of_heap H.file
  have c3 := H.file.c3
  have f3 := H.file.fz 3
  obtain ⟨m, hm⟩ : ∃ m, ls.length = m + 1 := ⟨ls.length - 1, by have := List.length_pos_iff.2 hne; omega⟩
  have hlast := H.inc.last
  have hnn := H.nneg
  rcases H.own.2 with ⟨_, h0⟩ | ⟨g, cap, cur, rfl, hgB, hg, hcap⟩
  · omega
  have hgf : ¬ g = fb := ne_of_type hg H.file (by decide)
  have hc := owns_cell H.own m (by omega)
  -- the world under the lock
  have HB1 : Chg (fun k => k = fb ∨ (Value.slice (some ⟨g, 0, none⟩) ls.length cap).ownBlock = some k) w (w.setCell ⟨fb, 3, none⟩ (.int .i32 1)) := by refine Chg.set (Chg.refl _ _) ?_ _; simp
  have F1 : fileIs (w.setCell ⟨fb, 3, none⟩ (.int .i32 1)) fb name base size (.int .i32 1) (.int .u32 0) (.slice (some ⟨g, 0, none⟩) ls.length cap) (.slice none 0 0) := (heap_set H.file 3 _).trans rfl
  have own1 : (w.setCell ⟨fb, 3, none⟩ (.int .i32 1)).ownsRow B 3 1 (.slice (some ⟨g, 0, none⟩) ls.length cap) ls.length (ls.map (Value.int .i64)) := owns_chg (M := fun k => k = fb) H.own (by refine Chg.set (Chg.refl _ _) ?_ _; simp) (fun g' e => by simp [Value.ownBlock] at e; omega)
  have c1 : (w.setCell ⟨fb, 3, none⟩ (.int .i32 1)).cell? ⟨g, m, none⟩ = some (.int .i64 (ls.getD m 0)) := owns_cell own1 m (by omega)
  have hsz : (w.setCell ⟨fb, 3, none⟩ (.int .i32 1)).heap.size ≥ w.heap.size := Nat.le_of_eq (World.size_setCell _ _ _).symm
  rw [hm] at F1 own1 HB1
  have Hm := Lib.hid hm
  have HI := Lib.hid H.inc
  have Hla := Lib.hid hlast
  have Hnn := Lib.hid hnn
  have hlen1 : (m + 1 + 1) * 8 ≤ 140737488355328 := by omega
  clear hc hg hcap hlast hnn
  obtain ⟨y, hy⟩ : ∃ y, y = ls.getD m 0 := ⟨_, rfl⟩
  rw [← hy] at c1
  have Hy := Lib.hid hy
  clear hy
  have go1 : Hid (addL size ls off = if y < off ∧ off < size then ls ++ [off] else ls) := by
    show addL size ls off = _
    unfold addL
    rw [Hm.out, Hy.out]
    rfl
  clear hm hlen
  go_enter Tryf.func32, Tryf.ntmps32
  go_wp2_with fail
  refine (lock_free Tryf.muLib ⟨fb, 3, none⟩ _ c3 f3).mono ?_
  rintro e w1 ⟨rfl, hw1⟩
  rw [← hw1] at HB1 F1 own1 c1 hsz
  clear hw1 c3 f3
  have d2 : w1.cell? ⟨fb, 2, none⟩ = some (.int .i64 size) := by rw [cell_of F1]; rfl
  have d5 : w1.cell? ⟨fb, 5, none⟩ = some (.slice (some ⟨g, 0, none⟩) (m + 1) cap) := by rw [cell_of F1]; rfl
  have d3 : w1.cell? ⟨fb, 3, none⟩ = some (.int .i32 1) := by rw [cell_of F1]; rfl
  have e3 := free_of F1 3
  by_cases h1 : y < off
  · by_cases h2 : off < size
    · go_wp2_with (at_builtin; refine wpList_append_own _ rfl _ _ 23 rfl B 3 i0 (.int .i64 0) 1 8 Tryf.underlying23 hi hz0 hz1 hz2 rfl (by decide) _ _ _ rfl (own1.alloc _) ⟨w1.heap.size, 0, none⟩ 1 1 [.int .i64 off] rfl rfl ?c1 ?c2 ?c3 ?c4 ?c5 ?_)
      case c1 =>
        intro j u hj
        match j, hj with
        | 0, hj => simp at hj; subst hj; simp [Addr.add]
      case c2 => intro u hu; simp at hu; subst hu; rfl
      case c3 => unfold maxLen; omega
      case c4 => omega
      case c5 => simp; omega
      · intro v' w2 own2 grow2 _
        have K2 : Chg (fun k => k = g) w1 w2 := ((Chg.refl _ _).alloc _).trans (Chg.of_grown grow2 (fun k hk => by simp [Value.ownBlock] at hk; exact hk.symm))
        have F2 : fileIs w2 fb name base size (.int .i32 1) (.int .u32 0) (.slice (some ⟨g, 0, none⟩) (m + 1) cap) (.slice none 0 0) := F1.chg K2 (fun e => hgf e.symm)
        have HB2 := HB1.step K2 (fun i _ hi => .inr (by rw [hi]; rfl))
        have hsz2 : w.heap.size ≤ w2.heap.size := Nat.le_trans hsz K2.size
        obtain ⟨a', cap', rfl⟩ := owns_form own2
        have e5 : w2.cell? ⟨fb, 5, none⟩ = some (.slice (some ⟨g, 0, none⟩) (m + 1) cap) := by rw [cell_of F2]; rfl
        have z5 := free_of F2 5
        have F3 : fileIs (w2.setCell ⟨fb, 5, none⟩ (.slice a' (m + 1 + 1) cap')) fb name base size (.int .i32 1) (.int .u32 0) (.slice a' (m + 1 + 1) cap') (.slice none 0 0) := (heap_set F2 5 _).trans rfl
        have d3' : (w2.setCell ⟨fb, 5, none⟩ (.slice a' (m + 1 + 1) cap')).cell? ⟨fb, 3, none⟩ = some (.int .i32 1) := by rw [cell_of F3]; rfl
        have e3' := free_of F3 3
        have gov := go1.out
        rw [if_pos ⟨h1, h2⟩] at gov
        have hown3 := owns_ne own2 F2 (by decide)
        have GV := Lib.hid gov
        clear grow2 own1 c1 d2 d3 d5 e3 F1 HB1 K2 H go1 gov
        go_wp2_with fail
        refine (unlock_held Tryf.muLib ⟨fb, 3, none⟩ _ d3' e3').mono ?_
        rintro e w4 ⟨rfl, hw4⟩
        have F4 : fileOK w4 fb name base size (.slice a' (m + 1 + 1) cap') := by rw [hw4]; exact (heap_set F3 3 _).trans rfl
        have K4 : Chg (fun k => k = fb) w2 w4 := by rw [hw4]; refine Chg.set (Chg.set (Chg.refl _ _) ?_ _) ?_ _ <;> simp
        have own4 := owns_chg own2 K4 hown3
        have HB4 := HB2.step K4 (fun i _ hi => .inl hi)
        have hle : ∀ z ∈ ls, z < off := fun z hz => by have := Hla.out z hz; rw [Hm.out] at this; have h3 := Hy.out; simp at this h3; omega
        have FS : FileSt w4 B fb name base size (.slice a' (m + 1 + 1) cap') (ls ++ [off]) := by
          refine ⟨F4, ?_, HI.out.append hle, ?_, ?_⟩
          · have : (ls ++ [off]).length = m + 1 + 1 := by simp [Hm.out]
            rw [this]
            simpa using own4
          · intro z hz
            simp at hz
            rcases hz with hz | rfl
            · exact Hnn.out z hz
            · have := Hnn.out _ (getD_mem (ls := ls) (k := m) (by rw [Hm.out]; omega))
              have h3 := Hy.out
              omega
          · simp [Hm.out]; omega
        rw [← GV.out] at FS
        clear F4 K4 own4 hle hw4 F3 F2 d3' e3' e5 z5 own2 HB2 hown3
        go_wp2
        go_end0
        exact ⟨rfl, ⟨_, FS⟩, HB4⟩
    · have gov := go1.out
      rw [if_neg (by omega)] at gov
      have GV := Lib.hid gov
      have h2' : size ≤ off := by omega
      have hgo := Lib.hid (owns_ne own1 F1 (by decide))
      clear gov go1 h2
      go_wp2_with fail
      refine (unlock_held Tryf.muLib ⟨fb, 3, none⟩ _ d3 e3).mono ?_
      rintro e w4 ⟨rfl, hw4⟩
      have F4 : fileOK w4 fb name base size (.slice (some ⟨g, 0, none⟩) (m + 1) cap) := by rw [hw4]; exact (heap_set F1 3 _).trans rfl
      have K4 : Chg (fun k => k = fb) w1 w4 := by rw [hw4]; refine Chg.set (Chg.refl _ _) ?_ _; simp
      have own4 := owns_chg own1 K4 hgo.out
      have HB4 := HB1.step K4 (fun i _ hi => .inl hi)
      have FS : FileSt w4 B fb name base size (.slice (some ⟨g, 0, none⟩) (m + 1) cap) ls := ⟨F4, by rw [Hm.out]; exact own4, HI.out, Hnn.out, by rw [Hm.out]; omega⟩
      rw [← GV.out] at FS
      clear F4 K4 own4 hw4 own1 c1 d2 d3 d5 e3 F1 HB1 H
      go_wp2
      go_end0
      exact ⟨rfl, ⟨_, FS⟩, HB4⟩
  · have gov := go1.out
    rw [if_neg (by omega)] at gov
    have GV := Lib.hid gov
    have h1' : off ≤ y := by omega
    have hgo := Lib.hid (owns_ne own1 F1 (by decide))
    clear gov go1 h1
    go_wp2_with fail
    refine (unlock_held Tryf.muLib ⟨fb, 3, none⟩ _ d3 e3).mono ?_
    rintro e w4 ⟨rfl, hw4⟩
    have F4 : fileOK w4 fb name base size (.slice (some ⟨g, 0, none⟩) (m + 1) cap) := by rw [hw4]; exact (heap_set F1 3 _).trans rfl
    have K4 : Chg (fun k => k = fb) w1 w4 := by rw [hw4]; refine Chg.set (Chg.refl _ _) ?_ _; simp
    have own4 := owns_chg own1 K4 hgo.out
    have HB4 := HB1.step K4 (fun i _ hi => .inl hi)
    have FS : FileSt w4 B fb name base size (.slice (some ⟨g, 0, none⟩) (m + 1) cap) ls := ⟨F4, by rw [Hm.out]; exact own4, HI.out, Hnn.out, by rw [Hm.out]; omega⟩
    rw [← GV.out] at FS
    clear F4 K4 own4 hw4 own1 c1 d2 d3 d5 e3 F1 HB1 H
    go_wp2
    go_end0
    exact ⟨rfl, ⟨_, FS⟩, HB4⟩
end Go.Proofs.YtgehgiafhfgacaaFmt
