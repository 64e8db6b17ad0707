/- fmt.Sprintf of integers: it returns a string of the tape's. -/
import Derived.Test.YtmijedghihebjaaGreatFmtProg
import Derived.WalkKit
import Derived.KernelRfl
import Derived.Stop.CallBack
import Derived.Stop.IfaceNil
import Derived.Stop.FmtLaws
import Derived.Stop.Walk2
import Derived.WalkSpells
import GoSem.ClaimData
namespace Go.Proofs.YtmijedghihebjaaGreatFmt
open Go.Extern.Stop Go.Stop Go.Extern

theorem sprintf_call (args : Array Value) (w : World) : (callFunc 20 args).run Tryz.prog w = ((FmtStop.sprintf #[9, 180] #[9] args).run Tryz.prog w).andThen fun v w' => .ok (.value v) w' :=
  run_callFunc_extern Tryz.func20 (by kernel_rfl) (by kernel_rfl) (by kernel_rfl) (by kernel_rfl) args w
theorem fmt_guard (name : String) (w : World) : (FmtStop.guard name).run Tryz.prog w = .ok () w := by kernel_rfl
def shapeInt : List UInt8 := [5, 3, 0, 0, 0, 0, 0, 0, 0, 105, 110, 116]
theorem opInt (name : String) (x : Int) (w : World) : (FmtStop.operand name false 100 false (.iface 3 (.int .i64 x))).run Tryz.prog w = .ok (shapeInt, Go.Extern.Stop.digits 8 (x % 2 ^ 64).toNat) w := by kernel_rfl

theorem sprintf_d1 (f : ByteArray) (hp : FmtStop.printed? f 1 = some [(0, 100, false)]) (b : Nat) (x : Int) (w : World) (hc : w.cell? ⟨b, 0, none⟩ = some (.iface 3 (.int .i64 x))) :
    ∃ s, (callFunc 20 #[.string f, .slice (some ⟨b, 0, none⟩) 1 1]).run Tryz.prog w = .ok (.value (.string s)) w.drew := by
  simp only [sprintf_call]
  simp [go_sem, fmt_guard, hp, opInt, hc]

theorem sprintf_d2 (f : ByteArray) (hp : FmtStop.printed? f 2 = some [(0, 100, false), (1, 100, false)]) (b : Nat) (x y : Int) (w : World) (hc : w.cell? ⟨b, 0, none⟩ = some (.iface 3 (.int .i64 x))) (hd : w.cell? ⟨b, 1, none⟩ = some (.iface 3 (.int .i64 y))) :
    ∃ s, (callFunc 20 #[.string f, .slice (some ⟨b, 0, none⟩) 2 2]).run Tryz.prog w = .ok (.value (.string s)) w.drew := by
  simp only [sprintf_call]
  simp [go_sem, fmt_guard, hp, opInt, hc, hd]
end Go.Proofs.YtmijedghihebjaaGreatFmt
