/- What the small methods of go/token's tree nodes do to memory. -/
import Derived.Test.YtmijedghihebjaaGreatFmtProg
import Derived.Test.YtmijedghihebjaaGreatFmtTree
import Derived.WalkSpells
import Derived.Outline
import Derived.Deep.QuietTactic
import Derived.BigQuiet
import Derived.LaidEqlPtr
namespace Go.Proofs.YtmijedghihebjaaGreatFmt
open Go.RowKit

/-- A file set's cells: the lock (six), the base, the tree's root, the last file. -/
def setIs (w : World) (S : Nat) (m0 m1 m2 m3 m4 m5 : Value) (base : Int) (root last : Option Nat) : Prop :=
  w.heap[S]? = some (.cells #[m0, m1, m2, m3, m4, m5, .int .i64 base, ptr root, ptr last] 96 (0, 0))

section
variable {w : World} {b : Nat} {p l r f : Option Nat} {lo hi bal h : Int}
theorem nodeIs.c0 (H : nodeIs w b p l r f lo hi bal h) : w.cell? ⟨b, 0, none⟩ = some (ptr p) := by rw [cell_of H]; rfl
theorem nodeIs.c1 (H : nodeIs w b p l r f lo hi bal h) : w.cell? ⟨b, 1, none⟩ = some (ptr l) := by rw [cell_of H]; rfl
theorem nodeIs.c2 (H : nodeIs w b p l r f lo hi bal h) : w.cell? ⟨b, 2, none⟩ = some (ptr r) := by rw [cell_of H]; rfl
theorem nodeIs.c3 (H : nodeIs w b p l r f lo hi bal h) : w.cell? ⟨b, 3, none⟩ = some (ptr f) := by rw [cell_of H]; rfl
theorem nodeIs.c4 (H : nodeIs w b p l r f lo hi bal h) : w.cell? ⟨b, 4, none⟩ = some (.int .i64 lo) := by rw [cell_of H]; rfl
theorem nodeIs.c5 (H : nodeIs w b p l r f lo hi bal h) : w.cell? ⟨b, 5, none⟩ = some (.int .i64 hi) := by rw [cell_of H]; rfl
theorem nodeIs.c6 (H : nodeIs w b p l r f lo hi bal h) : w.cell? ⟨b, 6, none⟩ = some (.int .i32 bal) := by rw [cell_of H]; rfl
theorem nodeIs.c7 (H : nodeIs w b p l r f lo hi bal h) : w.cell? ⟨b, 7, none⟩ = some (.int .i32 h) := by rw [cell_of H]; rfl
theorem nodeIs.fz (H : nodeIs w b p l r f lo hi bal h) (i : Nat) : w.frozen? ⟨b, i, none⟩ = false := free_of H i
theorem nodeIs.set0 (H : nodeIs w b p l r f lo hi bal h) (q : Option Nat) : nodeIs (w.setCell ⟨b, 0, none⟩ (ptr q)) b q l r f lo hi bal h := (heap_set H 0 (ptr q)).trans rfl
theorem nodeIs.set1 (H : nodeIs w b p l r f lo hi bal h) (q : Option Nat) : nodeIs (w.setCell ⟨b, 1, none⟩ (ptr q)) b p q r f lo hi bal h := (heap_set H 1 (ptr q)).trans rfl
theorem nodeIs.set2 (H : nodeIs w b p l r f lo hi bal h) (q : Option Nat) : nodeIs (w.setCell ⟨b, 2, none⟩ (ptr q)) b p l q f lo hi bal h := (heap_set H 2 (ptr q)).trans rfl
theorem nodeIs.set6 (H : nodeIs w b p l r f lo hi bal h) (x : Int) : nodeIs (w.setCell ⟨b, 6, none⟩ (.int .i32 x)) b p l r f lo hi x h := (heap_set H 6 _).trans rfl
theorem nodeIs.set7 (H : nodeIs w b p l r f lo hi bal h) (x : Int) : nodeIs (w.setCell ⟨b, 7, none⟩ (.int .i32 x)) b p l r f lo hi bal x := (heap_set H 7 _).trans rfl
theorem nodeIs.other (H : nodeIs w b p l r f lo hi bal h) {c : Nat} (hne : ¬ b = c) (i : Nat) (v : Value) : nodeIs (w.setCell ⟨c, i, none⟩ v) b p l r f lo hi bal h := (heap_set_ne i v hne).trans H
theorem nodeIs.drewN (H : nodeIs w b p l r f lo hi bal h) (n : Nat) : nodeIs (w.drewN n) b p l r f lo hi bal h := H
theorem nodeIs.chg {M : Nat → Prop} {w' : World} (H : nodeIs w b p l r f lo hi bal h) (hc : Chg M w w') (hm : ¬ M b) : nodeIs w' b p l r f lo hi bal h := hc.at H hm
end

/-- The height that safeHeight reads off a pointer. -/
def HtAt (w : World) (p : Option Nat) (h : Int) : Prop := match p with | none => h = -1 | some a => w.cell? ⟨a, 7, none⟩ = some (.int .i32 h)
theorem HtAt.drewN {w : World} {p : Option Nat} {h : Int} (H : HtAt w p h) (n : Nat) : HtAt (w.drewN n) p h := by
  cases p <;> exact H
theorem T.At.ht {w : World} {t : T} {p : Option Nat} (h : t.At w p) : HtAt w t.root t.ht := by
  cases t with
  | nil => rfl
  | node b l f lo hi r => exact h.1.c7

theorem safeHeight_nil (w : World) : Calls Tryz.prog 98 #[.pointer none] w fun e w' => e = .returned (.int .i32 (-1)) ∧ w' = w := by
  go_enter Tryz.func98, Tryz.ntmps98
  go_wp2
  go_ret
  exact ⟨rfl, rfl⟩
theorem safeHeight_some (b : Nat) (h : Int) (w : World) (hc : w.cell? ⟨b, 7, none⟩ = some (.int .i32 h)) : Calls Tryz.prog 98 #[.pointer (some ⟨b, 0, none⟩)] w fun e w' => e = .returned (.int .i32 h) ∧ w' = w := by
  go_enter Tryz.func98, Tryz.ntmps98
  go_wp2
  go_ret
  exact ⟨rfl, rfl⟩
theorem safeHeight_any (p : Option Nat) (h : Int) (w : World) (H : HtAt w p h) : Calls Tryz.prog 98 #[ptr p] w fun e w' => e = .returned (.int .i32 h) ∧ w' = w := by
  cases p with
  | none => exact (safeHeight_nil w).mono fun e w' ⟨he, hw⟩ => ⟨by rw [he]; simp [HtAt] at H; rw [H], hw⟩
  | some a => exact safeHeight_some a h w H

set_option maxHeartbeats 400000 in
theorem update_any (b : Nat) (p l r f : Option Nat) (lo hi hl hr b0 h0 : Int) (w : World) (H : nodeIs w b p l r f lo hi b0 h0)
    (HL : HtAt w l hl) (HR : HtAt w r hr) (g1 : -1 ≤ hl) (g2 : hl ≤ 1000) (g3 : -1 ≤ hr) (g4 : hr ≤ 1000) :
    Calls Tryz.prog 85 #[.pointer (some ⟨b, 0, none⟩)] w fun e w' => e = .returned (.tuple #[]) ∧ nodeIs w' b p l r f lo hi (hr - hl) (max hl hr + 1) ∧ Chg (· = b) w w' := by
  have c1 := H.c1
  have c2 := H.c2
  have c6 := H.c6
  have c7 := H.c7
  have f6 := H.fz 6
  have f7 := H.fz 7
  go_enter Tryz.func85, Tryz.ntmps85
  go_wp2_with fail
  go_quiet ((go_at_call 98; first | (with_reducible exact Calls.quiet_of_same (safeHeight_any l hl _ (HL.drewN _))) | (with_reducible exact Calls.quiet_of_same (safeHeight_any r hr _ (HR.drewN _)))))
  go_wp2
  all_goals go_end0
  · refine ⟨rfl, ?_, ?_⟩
    · rw [show max hl hr = hr by omega]
      exact ((H.drewN _).set7 _).set6 _
    · refine Chg.set (Chg.set (Chg.drewN (Chg.refl _ _) _) ?_ _) ?_ _ <;> simp
  · refine ⟨rfl, ?_, ?_⟩
    · rw [show max hl hr = hl by omega]
      exact ((H.drewN _).set7 _).set6 _
    · refine Chg.set (Chg.set (Chg.drewN (Chg.refl _ _) _) ?_ _) ?_ _ <;> simp

set_option maxHeartbeats 400000 in
theorem checkBalance_any (b : Nat) (p l r f : Option Nat) (lo hi hl hr : Int) (w : World) (H : nodeIs w b p l r f lo hi (hr - hl) (max hl hr + 1))
    (HL : HtAt w l hl) (HR : HtAt w r hr) (g1 : -1 ≤ hl) (g2 : hl ≤ 1000) (g3 : -1 ≤ hr) (g4 : hr ≤ 1000) (g5 : -2 ≤ hr - hl) (g6 : hr - hl ≤ 2) :
    Calls Tryz.prog 99 #[.pointer (some ⟨b, 0, none⟩)] w fun e w' => e = .returned (.tuple #[]) ∧ ∃ n, w' = w.drewN n := by
  have c1 := H.c1
  have c2 := H.c2
  have c6 := H.c6
  have c7 := H.c7
  have t1 : ((hr - hl) != (hr - hl)) = false := by simp
  go_enter Tryz.func99, Tryz.ntmps99
  go_wp2_with fail
  go_quiet ((go_at_call 98; first | (with_reducible exact Calls.quiet_of_same (safeHeight_any l hl _ (HL.drewN _))) | (with_reducible exact Calls.quiet_of_same (safeHeight_any r hr _ (HR.drewN _)))))
  rcases Int.lt_or_le hl hr with hlt | hge
  · rw [show max hl hr = hr by omega] at c7
    go_wp2
    all_goals go_end0
    all_goals exact ⟨rfl, _, rfl⟩
  · rw [show max hl hr = hl by omega] at c7
    go_wp2
    all_goals go_end0
    all_goals exact ⟨rfl, _, rfl⟩

theorem setLeft_nil (b : Nat) (p l r f : Option Nat) (lo hi bal h : Int) (w : World) (H : nodeIs w b p l r f lo hi bal h) :
    Calls Tryz.prog 100 #[.pointer (some ⟨b, 0, none⟩), .pointer none] w fun e w' => e = .returned (.tuple #[]) ∧ w' = w.setCell ⟨b, 1, none⟩ (ptr none) := by
  have c1 := H.c1
  have f1 := H.fz 1
  go_enter Tryz.func100, Tryz.ntmps100
  go_wp2
  go_end0
  exact ⟨rfl, rfl⟩
theorem setLeft_some (b c : Nat) (p l r f : Option Nat) (lo hi bal h : Int) (p' l' r' f' : Option Nat) (lo' hi' bal' h' : Int) (w : World) (H : nodeIs w b p l r f lo hi bal h) (H' : nodeIs w c p' l' r' f' lo' hi' bal' h') (_hbc : ¬ c = b) :
    Calls Tryz.prog 100 #[.pointer (some ⟨b, 0, none⟩), .pointer (some ⟨c, 0, none⟩)] w fun e w' => e = .returned (.tuple #[]) ∧ w' = (w.setCell ⟨b, 1, none⟩ (ptr (some c))).setCell ⟨c, 0, none⟩ (ptr (some b)) := by
  have c1 := H.c1
  have f1 := H.fz 1
  have c0 := H'.c0
  have f0 := H'.fz 0
  go_enter Tryz.func100, Tryz.ntmps100
  go_wp2
  go_end0
  exact ⟨rfl, rfl⟩
theorem setRight_nil (b : Nat) (p l r f : Option Nat) (lo hi bal h : Int) (w : World) (H : nodeIs w b p l r f lo hi bal h) :
    Calls Tryz.prog 101 #[.pointer (some ⟨b, 0, none⟩), .pointer none] w fun e w' => e = .returned (.tuple #[]) ∧ w' = w.setCell ⟨b, 2, none⟩ (ptr none) := by
  have c1 := H.c2
  have f1 := H.fz 2
  go_enter Tryz.func101, Tryz.ntmps101
  go_wp2
  go_end0
  exact ⟨rfl, rfl⟩
theorem setRight_some (b c : Nat) (p l r f : Option Nat) (lo hi bal h : Int) (p' l' r' f' : Option Nat) (lo' hi' bal' h' : Int) (w : World) (H : nodeIs w b p l r f lo hi bal h) (H' : nodeIs w c p' l' r' f' lo' hi' bal' h') (_hbc : ¬ c = b) :
    Calls Tryz.prog 101 #[.pointer (some ⟨b, 0, none⟩), .pointer (some ⟨c, 0, none⟩)] w fun e w' => e = .returned (.tuple #[]) ∧ w' = (w.setCell ⟨b, 2, none⟩ (ptr (some c))).setCell ⟨c, 0, none⟩ (ptr (some b)) := by
  have c1 := H.c2
  have f1 := H.fz 2
  have c0 := H'.c0
  have f0 := H'.fz 0
  go_enter Tryz.func101, Tryz.ntmps101
  go_wp2
  go_end0
  exact ⟨rfl, rfl⟩

/-- setRight of a subtree's root: the subtree hangs below b then. -/
theorem setRight_tree (b : Nat) (p l r f : Option Nat) (lo hi bal h : Int) (t : T) (q : Option Nat) (w : World) (H : nodeIs w b p l r f lo hi bal h) (ht : t.At w q) (hb : b ∉ t.nodes) (hnd : t.nodes.Nodup) :
    Calls Tryz.prog 101 #[.pointer (some ⟨b, 0, none⟩), ptr t.root] w fun e w' => e = .returned (.tuple #[]) ∧ nodeIs w' b p l t.root f lo hi bal h ∧ t.At w' (some b) ∧ Chg (fun k => k = b ∨ k ∈ t.nodes) w w' := by
  cases t with
  | nil =>
    refine (setRight_nil b p l r f lo hi bal h w H).mono fun e w' ⟨he, hw⟩ => ⟨he, ?_, True.intro, ?_⟩
    · rw [hw]; exact H.set2 none
    · rw [hw]; exact Chg.set (Chg.refl _ _) (by simp) _
  | node c cl cf clo chi cr =>
    have hcb : ¬ c = b := fun e => hb (by simp [T.nodes, e])
    refine (setRight_some b c p l r f lo hi bal h q cl.root cr.root (some cf) clo chi _ _ w H ht.1 hcb).mono fun e w' ⟨he, hw⟩ => ⟨he, ?_, ?_, ?_⟩
    · rw [hw]; exact (H.set2 (some c)).other (fun e => hcb e.symm) 0 _
    · have hnd' : ∀ x, x ∈ cl.nodes ∨ x ∈ cr.nodes → ¬ x = c := by
        intro x hx e
        subst e
        simp only [T.nodes] at hnd
        rw [List.nodup_append] at hnd
        obtain ⟨_, h2, h3⟩ := hnd
        rcases hx with hx | hx
        · exact h3 x hx x (by simp) rfl
        · exact (List.nodup_cons.1 h2).1 hx
      have hbx : ∀ x, x ∈ cl.nodes ∨ x ∈ cr.nodes → ¬ x = b := fun x hx e => hb (by subst e; simp only [T.nodes, List.mem_append, List.mem_cons]; rcases hx with hx | hx <;> simp [hx])
      refine ht.reparent ?_ ?_ ?_
      · rw [hw]; exact (ht.1.other hcb 2 _).set0 (some b)
      · intro x hx; rw [hw, heap_set_ne 0 _ (hnd' x (.inl hx)), heap_set_ne 2 _ (hbx x (.inl hx))]
      · intro x hx; rw [hw, heap_set_ne 0 _ (hnd' x (.inr hx)), heap_set_ne 2 _ (hbx x (.inr hx))]
    · rw [hw]
      refine Chg.set (Chg.set (Chg.refl _ _) ?_ _) ?_ _ <;> simp [T.nodes]

theorem setRoot_some (S c : Nat) (m0 m1 m2 m3 m4 m5 : Value) (base : Int) (root last : Option Nat) (p' l' r' f' : Option Nat) (lo' hi' bal' h' : Int) (w : World) (H : setIs w S m0 m1 m2 m3 m4 m5 base root last) (H' : nodeIs w c p' l' r' f' lo' hi' bal' h') :
    Calls Tryz.prog 103 #[.pointer (some ⟨S, 7, none⟩), .pointer (some ⟨c, 0, none⟩)] w fun e w' => e = .returned (.tuple #[]) ∧ w' = (w.setCell ⟨S, 7, none⟩ (ptr (some c))).setCell ⟨c, 0, none⟩ (ptr none) := by
  have hne : ¬ c = S := ne_of_type H' H (by decide)
  have c1 : w.cell? ⟨S, 7, none⟩ = some (ptr root) := by rw [cell_of H]; rfl
  have f1 := free_of H 7
  have c0 := H'.c0
  have f0 := H'.fz 0
  go_enter Tryz.func103, Tryz.ntmps103
  go_wp2
  go_end0
  exact ⟨rfl, rfl⟩

end Go.Proofs.YtmijedghihebjaaGreatFmt
