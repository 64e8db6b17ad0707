/- position, PositionFor, Position, Line, Offset, Pos of a file. -/
import Derived.Test.YtmijedghihebjaaGreatFmtPos
namespace Go.Proofs.YtmijedghihebjaaGreatFmt
open Go.RowKit Go.MuLone Go.RwLone

theorem owns_chg {M : Nat → Prop} {w w' : World} {B : Nat} {e : TypeId} {sz : Nat} {v : Value} {n : Nat} {xs : List Value} (h : w.ownsRow B e sz v n xs) (hc : Chg M w w') (hm : ∀ g, v.ownBlock = some g → ¬ M g) : w'.ownsRow B e sz v n xs := by
  refine ⟨h.1, ?_⟩
  rcases h.2 with h | ⟨g, cap, cur, hv, hg, hh, r⟩
  · exact .inl h
  · exact .inr ⟨g, cap, cur, hv, hg, hc.at hh (hm g (by rw [hv]; rfl)), r⟩

theorem FileSt.chg {M : Nat → Prop} {w w' : World} {B fb : Nat} {name : ByteArray} {base size : Int} {lv : Value} {ls : List Int} (H : FileSt w B fb name base size lv ls) (hc : Chg M w w') (hf : ¬ M fb) (hm : ∀ g, lv.ownBlock = some g → ¬ M g) : FileSt w' B fb name base size lv ls :=
  ⟨H.file.chg hc hf, owns_chg H.own hc hm, H.inc, H.nneg, H.len⟩
theorem FileSt.below {w w' : World} {B fb : Nat} {name : ByteArray} {base size : Int} {lv : Value} {ls : List Int} (H : FileSt w B fb name base size lv ls) (hb : Below w.heap.size w w') : FileSt w' B fb name base size lv ls :=
  H.chg (Chg.of_below (M := fun _ => False) hb) id (fun _ _ => id)

/-- The place of a position in a file. -/
def placeV (name : ByteArray) (off line col : Int) : Value := .agg #[.string name, .int .i64 off, .int .i64 line, .int .i64 col]

theorem fixOff_bd (size off : Int) (h : 0 ≤ size) : 0 ≤ fixOff size off ∧ fixOff size off ≤ size := by unfold fixOff; omega

set_option maxRecDepth 100000 in
set_option maxHeartbeats 1000000 in
theorem position_any (B fb : Nat) (name : ByteArray) (base size : Int) (lv : Value) (ls : List Int) (p : Int) (w : World) (H : FileSt w B fb name base size lv ls) (g1 : 0 ≤ base) (g2 : base ≤ 1099511627776) (g3 : 0 ≤ size) (g4 : size ≤ 1099511627776) (g5 : -4398046511104 ≤ p) (g6 : p ≤ 4398046511104) :
    Calls Tryz.prog 27 #[.pointer (some ⟨fb, 0, none⟩), .int .i64 p, .bool true] w fun e w' => e = .returned (placeV name (fixOff size (p - base)) (lineCol ls (fixOff size (p - base))).1 (lineCol ls (fixOff size (p - base))).2) ∧ Below w.heap.size w w' := by
  have hfb : fb < w.heap.size := lt_of_heap H.file
  obtain ⟨b1, b2⟩ := fixOff_bd size (p - base) g3
  obtain ⟨o, ho⟩ : ∃ o, o = fixOff size (p - base) := ⟨_, rfl⟩
  rw [← ho] at b1 b2 ⊢
  have HO := Lib.hid ho
  obtain ⟨ln, hln⟩ : ∃ ln, ln = (lineCol ls o).1 := ⟨_, rfl⟩
  obtain ⟨cl, hcl⟩ : ∃ cl, cl = (lineCol ls o).2 := ⟨_, rfl⟩
  rw [← hln, ← hcl]
  have HL := Lib.hid hln
  have HC := Lib.hid hcl
  clear ho hln hcl
  go_enter Tryz.func27, Tryz.ntmps27
  have c1 := H.file.c1
  go_wp2_with fail
  have HB : Below w.heap.size w (w.alloc (.cells #[.string ⟨#[]⟩, .int .i64 0, .int .i64 0, .int .i64 0] 39)) := (Below.refl _ _).alloc (Nat.le_refl _) _
  have H1 := H.below HB
  refine (fixOffset_any fb name base size (p - base) lv _ H1.file g3).mono ?_
  rintro e w1 ⟨rfl, rfl⟩
  rw [← HO.out]
  have HB2 : Below w.heap.size w (w.alloc (.cells #[.string ⟨#[]⟩, .int .i64 o, .int .i64 0, .int .i64 0] 39)) := (Below.refl _ _).alloc (Nat.le_refl _) _
  have H2 := H.below HB2
  have hn := heap_new w (.cells #[.string ⟨#[]⟩, .int .i64 o, .int .i64 0, .int .i64 0] 39)
  go_wp2_with fail
  refine (unpack_any B fb name base size lv ls o _ H2 b1 (by omega)).mono ?_
  rintro e w2 ⟨rfl, n, hw2⟩
  rw [← HL.out, ← HC.out]
  have HB3 : Below w.heap.size w w2 := by rw [hw2]; exact below_drewN HB2 n
  have hn2 : w2.heap[w.heap.size]? = some (.cells #[.string ⟨#[]⟩, .int .i64 o, .int .i64 0, .int .i64 0] 39 (0, 0)) := by rw [hw2]; exact hn
  have d0 : w2.cell? ⟨w.heap.size, 0, none⟩ = some (.string ⟨#[]⟩) := by rw [cell_of hn2]; rfl
  have d1 : w2.cell? ⟨w.heap.size, 1, none⟩ = some (.int .i64 o) := by rw [cell_of hn2]; rfl
  have d2 : w2.cell? ⟨w.heap.size, 2, none⟩ = some (.int .i64 0) := by rw [cell_of hn2]; rfl
  have d3 : w2.cell? ⟨w.heap.size, 3, none⟩ = some (.int .i64 0) := by rw [cell_of hn2]; rfl
  have z0 := free_of hn2 0
  have z2 := free_of hn2 2
  have z3 := free_of hn2 3
  clear hw2 hn hn2 HB HB2 H H1 H2 c1
  go_wp2
  refine bodyPost_ret (v := placeV name o ln cl) (by simp [results, Tryz.results27, go_sem, d0, d1, d2, d3, placeV]) rfl ?_
  refine ⟨rfl, ?_⟩
  repeat (first | exact HB3 | refine Below.drew ?_ | refine Below.setCell ?_ (by exact Nat.le_refl _) _)

/-- The place of a position: the zero place for no position. -/
def placeOf (name : ByteArray) (base size : Int) (ls : List Int) (p : Int) : Value :=
  if p = 0 then placeV ⟨#[]⟩ 0 0 0 else placeV name (fixOff size (p - base)) (lineCol ls (fixOff size (p - base))).1 (lineCol ls (fixOff size (p - base))).2

set_option maxRecDepth 100000 in
set_option maxHeartbeats 1000000 in
theorem positionFor_any (B fb : Nat) (name : ByteArray) (base size : Int) (lv : Value) (ls : List Int) (p : Int) (w : World) (H : FileSt w B fb name base size lv ls) (g1 : 0 ≤ base) (g2 : base ≤ 1099511627776) (g3 : 0 ≤ size) (g4 : size ≤ 1099511627776) (g5 : -4398046511104 ≤ p) (g6 : p ≤ 4398046511104) :
    Calls Tryz.prog 18 #[.pointer (some ⟨fb, 0, none⟩), .int .i64 p, .bool true] w fun e w' => e = .returned (placeOf name base size ls p) ∧ Below w.heap.size w w' := by
  have HB : Below w.heap.size w (w.alloc (.cells #[.string ⟨#[]⟩, .int .i64 0, .int .i64 0, .int .i64 0] 39)) := (Below.refl _ _).alloc (Nat.le_refl _) _
  have H1 := H.below HB
  by_cases hp : p = 0
  · subst hp
    have HB' := Lib.hid HB
    clear H H1 HB
    go_enter Tryz.func18, Tryz.ntmps18
    go_wp2
    refine bodyPost_ret (v := placeV ⟨#[]⟩ 0 0 0) (by simp [results, Tryz.results18, go_sem, placeV]) rfl ?_
    exact ⟨rfl, HB'.out⟩
  · have hv : placeOf name base size ls p = placeV name (fixOff size (p - base)) (lineCol ls (fixOff size (p - base))).1 (lineCol ls (fixOff size (p - base))).2 := by simp [placeOf, hp]
    have HV := Lib.hid hv
    have hp1 : (p == 0) = false := by simpa using hp
    have hp2 : (p != 0) = true := by simpa using hp
    have hc := Lib.hid (position_any B fb name base size lv ls p _ H1 g1 g2 g3 g4 g5 g6)
    generalize fixOff size (p - base) = o at *
    generalize (lineCol ls o).1 = ln at *
    generalize (lineCol ls o).2 = cl at *
    clear hv hp H H1
    go_enter Tryz.func18, Tryz.ntmps18
    go_wp2_with fail
    refine hc.out.mono ?_
    rintro e w2 ⟨rfl, hb2⟩
    have HB3 : Below w.heap.size w w2 := HB.trans (hb2.mono HB.size)
    have hn2 : w2.heap[w.heap.size]? = some (.cells #[.string ⟨#[]⟩, .int .i64 0, .int .i64 0, .int .i64 0] 39 (0, 0)) := (hb2.block w.heap.size (by simp)).trans (heap_new _ _)
    have d0 : w2.cell? ⟨w.heap.size, 0, none⟩ = some (.string ⟨#[]⟩) := by rw [cell_of hn2]; rfl
    have d1 : w2.cell? ⟨w.heap.size, 1, none⟩ = some (.int .i64 0) := by rw [cell_of hn2]; rfl
    have d2 : w2.cell? ⟨w.heap.size, 2, none⟩ = some (.int .i64 0) := by rw [cell_of hn2]; rfl
    have d3 : w2.cell? ⟨w.heap.size, 3, none⟩ = some (.int .i64 0) := by rw [cell_of hn2]; rfl
    have z0 := free_of hn2 0
    have z1 := free_of hn2 1
    have z2 := free_of hn2 2
    have z3 := free_of hn2 3
    clear hn2 hb2 HB hc
    unfold placeV
    go_wp2
    refine bodyPost_ret (v := placeV name o ln cl) (by simp [results, Tryz.results18, go_sem, d0, d1, d2, d3, placeV]) rfl ?_
    rw [HV.out]
    refine ⟨rfl, ?_⟩
    repeat (first | exact HB3 | refine Below.drew ?_ | refine Below.setCell ?_ (by exact Nat.le_refl _) _)

theorem placeOf_form (name : ByteArray) (base size : Int) (ls : List Int) (p : Int) : ∃ nm o ln cl, placeOf name base size ls p = placeV nm o ln cl := by
  unfold placeOf
  split
  · exact ⟨_, _, _, _, rfl⟩
  · exact ⟨_, _, _, _, rfl⟩

set_option maxRecDepth 100000 in
set_option maxHeartbeats 1000000 in
theorem filePosition_any (B fb : Nat) (name : ByteArray) (base size : Int) (lv : Value) (ls : List Int) (p : Int) (w : World) (H : FileSt w B fb name base size lv ls) (g1 : 0 ≤ base) (g2 : base ≤ 1099511627776) (g3 : 0 ≤ size) (g4 : size ≤ 1099511627776) (g5 : -4398046511104 ≤ p) (g6 : p ≤ 4398046511104) :
    Calls Tryz.prog 12 #[.pointer (some ⟨fb, 0, none⟩), .int .i64 p] w fun e w' => e = .returned (placeOf name base size ls p) ∧ Below w.heap.size w w' := by
  have HB : Below w.heap.size w (w.alloc (.cells #[.string ⟨#[]⟩, .int .i64 0, .int .i64 0, .int .i64 0] 39)) := (Below.refl _ _).alloc (Nat.le_refl _) _
  have H1 := H.below HB
  have hc := Lib.hid (positionFor_any B fb name base size lv ls p _ H1 g1 g2 g3 g4 g5 g6)
  obtain ⟨nm, o, ln, cl, hv⟩ := placeOf_form name base size ls p
  rw [hv] at hc ⊢
  clear hv H H1
  go_enter Tryz.func12, Tryz.ntmps12
  go_wp2_with fail
  refine hc.out.mono ?_
  rintro e w2 ⟨rfl, hb2⟩
  have HB3 : Below w.heap.size w w2 := HB.trans (hb2.mono HB.size)
  have hn2 : w2.heap[w.heap.size]? = some (.cells #[.string ⟨#[]⟩, .int .i64 0, .int .i64 0, .int .i64 0] 39 (0, 0)) := (hb2.block w.heap.size (by simp)).trans (heap_new _ _)
  have d0 : w2.cell? ⟨w.heap.size, 0, none⟩ = some (.string ⟨#[]⟩) := by rw [cell_of hn2]; rfl
  have d1 : w2.cell? ⟨w.heap.size, 1, none⟩ = some (.int .i64 0) := by rw [cell_of hn2]; rfl
  have d2 : w2.cell? ⟨w.heap.size, 2, none⟩ = some (.int .i64 0) := by rw [cell_of hn2]; rfl
  have d3 : w2.cell? ⟨w.heap.size, 3, none⟩ = some (.int .i64 0) := by rw [cell_of hn2]; rfl
  have z0 := free_of hn2 0
  have z1 := free_of hn2 1
  have z2 := free_of hn2 2
  have z3 := free_of hn2 3
  clear hn2 hb2 HB hc
  unfold placeV
  go_wp2
  refine bodyPost_ret (v := placeV nm o ln cl) (by simp [results, Tryz.results12, go_sem, d0, d1, d2, d3, placeV]) rfl ?_
  refine ⟨rfl, ?_⟩
  repeat (first | exact HB3 | refine Below.drew ?_ | refine Below.setCell ?_ (by exact Nat.le_refl _) _)

/-- The line of a place. -/
def lineV : Value → Value
  | .agg #[_, _, l, _] => l
  | v => v

theorem positionLine (nm : ByteArray) (o ln cl : Int) (w : World) : (Instr.field 39 (.agg #[.string nm, .int .i64 o, .int .i64 ln, .int .i64 cl]) 2).run Tryz.prog w = .ok (.int .i64 ln) w := by kernel_rfl



end Go.Proofs.YtmijedghihebjaaGreatFmt
