/- impl.Text and spec.Text: the text of a place. -/
import Derived.Test.YtmijedghihebjaaGreatFmtText
namespace Go.Proofs.YtmijedghihebjaaGreatFmt
open Go.RowKit Go.Extern.Stop Go.Stop Go.Extern Go.Kit

set_option maxRecDepth 100000 in
set_option maxHeartbeats 400000 in
theorem implText_any (F : Interp) (nm : ByteArray) (o l c : Int) (w : World) (hF : F.told.answers w.tape) (ht : Tab w) (l1 : l ≤ 9223372036854775807) (c0 : -9223372036854775808 ≤ c) (c1 : c ≤ 9223372036854775807) (hn : nm.size ≤ 1152921504606846976) :
    Calls Tryz.prog 7 #[.agg #[.string nm, .int .i64 o, .int .i64 l, .int .i64 c]] w fun e w' => e = .returned (.string (textS nm l c)) ∧ Below w.heap.size w w' := by
  have HP := Lib.hid (fun W => implPosition_any nm o l c W)
  have HS : Hid (∀ W, Below w.heap.size w W → Calls Tryz.prog 14 #[.agg #[.string nm, .int .i64 o, .int .i64 l, .int .i64 c]] W fun e w' => e = .returned (.string (textS nm l c)) ∧ Below W.heap.size W w') :=
    fun W hb => posString_any F nm o l c W (by rw [hb.tape]; exact hF) (tab_below ht hb) l1 c0 c1 hn
  have HB : Below w.heap.size w (w.alloc (.cells #[.string nm, .int .i64 o, .int .i64 l, .int .i64 c] 30)) := (Below.refl _ _).alloc (Nat.le_refl _) _
  clear hF ht
  generalize textS nm l c = T at *
  go_enter Tryz.func7, Tryz.ntmps7
  go_wp2_with fail
  refine (HP.out _).mono ?_
  rintro e w2 ⟨rfl, hb2⟩
  have hb3 : Below w.heap.size w w2 := HB.trans (hb2.mono HB.size)
  clear HP HB hb2
  go_wp2_with fail
  refine (HS.out _ hb3).mono ?_
  rintro e w4 ⟨rfl, hb4⟩
  have hb5 : Below w.heap.size w w4 := hb3.trans (hb4.mono hb3.size)
  clear HS hb3 hb4
  go_wp2
  go_ret
  exact ⟨rfl, hb5⟩

end Go.Proofs.YtmijedghihebjaaGreatFmt
