/- impl.LineStart in a file that has lines. -/
import Derived.Test.YtgehgiafhfgacaaFmtPlace
import Derived.Test.YtgehgiafhfgacaaFmtStart
namespace Go.Proofs.YtgehgiafhfgacaaFmt
open Go.RowKit

theorem start_good (fv : Value) (fs : List GFile) (k : Int) (m : MFile) (j : Nat) (w : World) (hf : Files w fv fs) (hk : HasK fs k m) (hs : 0 < m.size) (hj : j < m.lines.length) :
    Calls Tryf.prog 14 #[fv, .int .i64 k, .int .i64 ((j : Int) + 1)] w fun e w' => e = .returned (.tuple #[.int .i64 (m.base + m.lines.getD j 0), .bool true]) ∧ Below w.heap.size w w' := by
  have hg := good_of hk.1 hk.2.2 hs
  have hb := hasK_bd hk
  have := implLineStart_any fv fs k.toNat m ((j : Int) + 1) w hf hk.1 hk.2.2 (fun y hy => by have := hg.lt y hy; omega)
  have hok : 1 ≤ (j : Int) + 1 ∧ (j : Int) + 1 ≤ m.lines.length := by omega
  rw [Int.toNat_of_nonneg hk.2.1, if_pos hok, decide_eq_true hok, show ((j : Int) + 1 - 1).toNat = j by omega] at this
  exact this
end Go.Proofs.YtgehgiafhfgacaaFmt
