/- impl.position, Position.IsValid, impl.IsValid. -/
import Derived.Test.YtmijedghihebjaaGreatFmtProg
import Derived.WalkKit
import Derived.WalkSpells
import Derived.Outline
import Derived.Below
import Derived.Lib.Hide
import Derived.Deep.RegionHeld3
import Derived.WalkSmall
namespace Go.Proofs.YtmijedghihebjaaGreatFmt
open Go.RowKit

theorem implPosition_any (nm : ByteArray) (o l c : Int) (w : World) :
    Calls Tryz.prog 13 #[.agg #[.string nm, .int .i64 o, .int .i64 l, .int .i64 c]] w fun e w' => e = .returned (.agg #[.string nm, .int .i64 o, .int .i64 l, .int .i64 c]) ∧ Below w.heap.size w w' := by
  have HB : Hid (∀ a b, Below w.heap.size w ((w.alloc a).alloc b)) := fun a b => ((Below.refl _ _).alloc (Nat.le_refl _) _).alloc (by simp) _
  go_enter Tryz.func13, Tryz.ntmps13
  go_wp2
  refine bodyPost_ret (v := .agg #[.string nm, .int .i64 o, .int .i64 l, .int .i64 c]) (by simp [results, Tryz.results13, go_sem]) rfl ?_
  exact ⟨rfl, HB.out _ _⟩

theorem posIsValid_any (b : Nat) (l : Int) (w : World) (h : w.cell? ⟨b, 2, none⟩ = some (.int .i64 l)) :
    Calls Tryz.prog 15 #[.pointer (some ⟨b, 0, none⟩)] w fun e w' => e = .returned (.bool (decide (0 < l))) ∧ w' = w := by
  go_enter Tryz.func15, Tryz.ntmps15
  go_wp2
  go_ret
  exact ⟨rfl, rfl⟩

theorem implIsValid_any (nm : ByteArray) (o l c : Int) (w : World) :
    Calls Tryz.prog 8 #[.agg #[.string nm, .int .i64 o, .int .i64 l, .int .i64 c]] w fun e w' => e = .returned (.bool (decide (0 < l))) ∧ Below w.heap.size w w' := by
  have HB : Below w.heap.size w (w.alloc (.cells #[.string nm, .int .i64 o, .int .i64 l, .int .i64 c] 30)) := (Below.refl _ _).alloc (Nat.le_refl _) _
  obtain ⟨bb, hbb⟩ : ∃ bb, bb = decide (0 < l) := ⟨_, rfl⟩
  rw [← hbb]
  have HBB := Lib.hid hbb
  clear hbb
  go_enter Tryz.func8, Tryz.ntmps8
  go_wp2_with fail
  refine (implPosition_any nm o l c _).mono ?_
  rintro e w1 ⟨rfl, hb1⟩
  have hb2 := HB.trans (hb1.mono HB.size)
  have hsz := hb2.size
  clear HB hb1
  go_wp2_with fail
  refine (posIsValid_any w1.heap.size l _ (by simp)).mono ?_
  rintro e w2 ⟨rfl, rfl⟩
  rw [← HBB.out]
  go_wp2
  go_ret
  exact ⟨rfl, hb2.alloc hsz _⟩
end Go.Proofs.YtmijedghihebjaaGreatFmt
