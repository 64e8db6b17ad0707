/- impl.Text and spec.Text: the text of a place. -/
import Derived.Test.YtmijedghihebjaaFmtText
namespace Go.Proofs.YtmijedghihebjaaFmt
open Go.RowKit Go.Extern.Stop Go.Stop Go.Extern Go.Kit

set_option maxRecDepth 100000 in
set_option maxHeartbeats 400000 in
theorem implText_any (F : Interp) (nm : ByteArray) (o l c : Int) (w : World) (hF : F.told.answers w.tape) (ht : Tab w) (l1 : l ≤ 9223372036854775807) (c0 : -9223372036854775808 ≤ c) (c1 : c ≤ 9223372036854775807) (hn : nm.size ≤ 1152921504606846976) :
    Calls Tryf.prog 4 #[.agg #[.string nm, .int .i64 o, .int .i64 l, .int .i64 c]] w fun e w' => e = .returned (.string (textS nm l c)) ∧ Below w.heap.size w w' := by
  have HP := Lib.hid (fun W => implPosition_any nm o l c W)
  have HS : Hid (∀ W, Below w.heap.size w W → Calls Tryf.prog 7 #[.agg #[.string nm, .int .i64 o, .int .i64 l, .int .i64 c]] W fun e w' => e = .returned (.string (textS nm l c)) ∧ Below W.heap.size W w') :=
    fun W hb => posString_any F nm o l c W (by rw [hb.tape]; exact hF) (tab_below ht hb) l1 c0 c1 hn
  have HB : Below w.heap.size w (w.alloc (.cells #[.string nm, .int .i64 o, .int .i64 l, .int .i64 c] 23)) := (Below.refl _ _).alloc (Nat.le_refl _) _
  clear hF ht
  generalize textS nm l c = T at *
  go_enter Tryf.func4, Tryf.ntmps4
  go_wp2_with fail
  refine (HP.out _).mono ?_
  rintro e w2 ⟨rfl, hb2⟩
  have hb3 : Below w.heap.size w w2 := HB.trans (hb2.mono HB.size)
  clear HP HB hb2
  go_wp2_with fail
  refine (HS.out _ hb3).mono ?_
  rintro e w4 ⟨rfl, hb4⟩
  have hb5 : Below w.heap.size w w4 := hb3.trans (hb4.mono hb3.size)
  clear HS hb3 hb4
  go_wp2
  go_ret
  exact ⟨rfl, hb5⟩

set_option maxRecDepth 100000 in
set_option maxHeartbeats 1000000 in
theorem specText_any (nm : ByteArray) (o l c : Int) (w : World) (l1 : l ≤ 9223372036854775807) (c0 : -9223372036854775808 ≤ c) (c1 : c ≤ 9223372036854775807) (hn : nm.size ≤ 1152921504606846976) :
    Calls Tryf.prog 5 #[.agg #[.string nm, .int .i64 o, .int .i64 l, .int .i64 c]] w fun e w' => e = .returned (.string (textS nm l c)) ∧ Below w.heap.size w w' := by
  have HB : Below w.heap.size w (w.alloc (.cells #[.string nm, .int .i64 o, .int .i64 l, .int .i64 c] 26)) := (Below.refl _ _).alloc (Nat.le_refl _) _
  have p2 : (w.alloc (.cells #[.string nm, .int .i64 o, .int .i64 l, .int .i64 c] 26)).cell? ⟨w.heap.size, 2, none⟩ = some (.int .i64 l) := by simp
  have p3 : (w.alloc (.cells #[.string nm, .int .i64 o, .int .i64 l, .int .i64 c] 26)).cell? ⟨w.heap.size, 3, none⟩ = some (.int .i64 c) := by simp
  have hlt : w.heap.size < (w.alloc (.cells #[.string nm, .int .i64 o, .int .i64 l, .int .i64 c] 26)).heap.size := by simp
  have HC := Lib.hid (fun W => decimal_any c c0 c1 W)
  have h5 := numS_size c c0 c1
  by_cases hl : 0 < l
  · have HI := Lib.hid (fun W => decimal_any l (by omega) l1 W)
    have hsz := numS_size l (by omega) l1
    have hps := headS_size nm l (by omega) l1 hn
    unfold textS
    rw [if_pos hl]
    by_cases hm : nm = ⟨#[]⟩
    · subst hm
      have he : headS ⟨#[]⟩ l = numS l := by unfold headS; rw [if_pos rfl]
      rw [he] at hps ⊢
      have hea := empty_app (numS l)
      by_cases hc : c = 0
      · subst hc
        rw [if_pos rfl]
        have hq := isEmpty_pos hps.1
        generalize numS l = n at *
        go_enter Tryf.func5, Tryf.ntmps5
        go_wp2_with fail
        refine (HI.out _).mono ?_
        rintro e w2 ⟨rfl, hb2⟩
        have p4 := (hb2.cell (p := ⟨w.heap.size, 3, none⟩) hlt).trans p3
        have hb3 : Below w.heap.size w w2 := HB.trans (hb2.mono HB.size)
        clear HI p2 p3 hb2 HB hlt
        clear HC
        go_wp2
        go_ret
        exact ⟨rfl, hb3⟩
      · rw [if_neg hc, ← ByteArray.append_assoc]
        unfold colS
        have hq := isEmpty_pos (s := numS l ++ ⟨#[58]⟩ ++ numS c) (by rw [ByteArray.size_append, ByteArray.size_append]; omega)
        generalize numS c = q at *
        generalize numS l = n at *
        go_enter Tryf.func5, Tryf.ntmps5
        go_wp2_with fail
        refine (HI.out _).mono ?_
        rintro e w2 ⟨rfl, hb2⟩
        have p4 := (hb2.cell (p := ⟨w.heap.size, 3, none⟩) hlt).trans p3
        have hb3 : Below w.heap.size w w2 := HB.trans (hb2.mono HB.size)
        clear HI p2 p3 hb2 HB hlt
        go_wp2_with fail
        refine (HC.out _).mono ?_
        rintro e w4 ⟨rfl, hb4⟩
        have hb5 : Below w.heap.size w w4 := hb3.trans (hb4.mono hb3.size)
        clear HC hb3 hb4 p4
        go_wp2
        go_ret
        exact ⟨rfl, hb5⟩
    · have he : headS nm l = nm ++ colS ++ numS l := by unfold headS; rw [if_neg hm]
      rw [he] at hps ⊢
      have hm2 := isEmpty_ne hm
      clear he
      unfold colS at hps ⊢
      by_cases hc : c = 0
      · subst hc
        rw [if_pos rfl]
        have hq := isEmpty_pos hps.1
        generalize numS l = n at *
        go_enter Tryf.func5, Tryf.ntmps5
        go_wp2_with fail
        refine (HI.out _).mono ?_
        rintro e w2 ⟨rfl, hb2⟩
        have p4 := (hb2.cell (p := ⟨w.heap.size, 3, none⟩) hlt).trans p3
        have hb3 : Below w.heap.size w w2 := HB.trans (hb2.mono HB.size)
        clear HI p2 p3 hb2 HB hlt
        clear HC
        go_wp2
        go_ret
        exact ⟨rfl, hb3⟩
      · rw [if_neg hc, ← ByteArray.append_assoc]
        have hq := isEmpty_pos (s := nm ++ ⟨#[58]⟩ ++ numS l ++ ⟨#[58]⟩ ++ numS c) (by rw [ByteArray.size_append, ByteArray.size_append]; omega)
        generalize numS c = q at *
        generalize numS l = n at *
        go_enter Tryf.func5, Tryf.ntmps5
        go_wp2_with fail
        refine (HI.out _).mono ?_
        rintro e w2 ⟨rfl, hb2⟩
        have p4 := (hb2.cell (p := ⟨w.heap.size, 3, none⟩) hlt).trans p3
        have hb3 : Below w.heap.size w w2 := HB.trans (hb2.mono HB.size)
        clear HI p2 p3 hb2 HB hlt
        go_wp2_with fail
        refine (HC.out _).mono ?_
        rintro e w4 ⟨rfl, hb4⟩
        have hb5 : Below w.heap.size w w4 := hb3.trans (hb4.mono hb3.size)
        clear HC hb3 hb4 p4
        go_wp2
        go_ret
        exact ⟨rfl, hb5⟩
  · unfold textS
    rw [if_neg hl]
    clear HC h5
    by_cases hm : nm = ⟨#[]⟩
    · subst hm
      rw [if_pos rfl]
      go_enter Tryf.func5, Tryf.ntmps5
      go_wp2
      go_ret
      exact ⟨rfl, HB⟩
    · rw [if_neg hm]
      have hm2 := isEmpty_ne hm
      go_enter Tryf.func5, Tryf.ntmps5
      go_wp2
      go_ret
      exact ⟨rfl, HB⟩
end Go.Proofs.YtmijedghihebjaaFmt
