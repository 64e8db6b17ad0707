/- impl.position, Position.IsValid, impl.IsValid. -/
import Derived.Test.YtmijedghihebjaaFmtProg
import Derived.WalkKit
import Derived.WalkSpells
import Derived.Outline
import Derived.Below
import Derived.Lib.Hide
import Derived.Deep.RegionHeld3
import Derived.WalkSmall
namespace Go.Proofs.YtmijedghihebjaaFmt
open Go.RowKit

theorem implPosition_any (nm : ByteArray) (o l c : Int) (w : World) :
    Calls Tryf.prog 6 #[.agg #[.string nm, .int .i64 o, .int .i64 l, .int .i64 c]] w fun e w' => e = .returned (.agg #[.string nm, .int .i64 o, .int .i64 l, .int .i64 c]) ∧ Below w.heap.size w w' := by
  have HB : Hid (∀ a b, Below w.heap.size w ((w.alloc a).alloc b)) := fun a b => ((Below.refl _ _).alloc (Nat.le_refl _) _).alloc (by simp) _
  go_enter Tryf.func6, Tryf.ntmps6
  go_wp2
  refine bodyPost_ret (v := .agg #[.string nm, .int .i64 o, .int .i64 l, .int .i64 c]) (by simp [results, Tryf.results6, go_sem]) rfl ?_
  exact ⟨rfl, HB.out _ _⟩

theorem posIsValid_any (b : Nat) (l : Int) (w : World) (h : w.cell? ⟨b, 2, none⟩ = some (.int .i64 l)) :
    Calls Tryf.prog 9 #[.pointer (some ⟨b, 0, none⟩)] w fun e w' => e = .returned (.bool (decide (0 < l))) ∧ w' = w := by
  go_enter Tryf.func9, Tryf.ntmps9
  go_wp2
  go_ret
  exact ⟨rfl, rfl⟩

end Go.Proofs.YtmijedghihebjaaFmt
