/- (Position).String, impl.Text, spec.Text: the text of a place, for every place (the table of strconv's as its initialiser lays it; fmt's text told). -/
import Derived.Test.YtmijedghihebjaaFmtDec
import Derived.Test.YtmijedghihebjaaFmtValid
import Derived.Test.YtmijedghihebjaaFmtShelf
import Derived.Test.YtmijedghihebjaaFmtFmt
import Derived.Stop.FmtTextKit
import Derived.Stop.Texts
import Derived.Stop.Told
import Derived.Lib.LaidTab
namespace Go.Proofs.YtmijedghihebjaaFmt
open Go.RowKit Go.Extern.Stop Go.Stop Go.Extern Go.Kit

theorem tabIs_name {P : Program} {w : World} {a b : String} {k : IntKind} {zs : List Int} (h : P.globalNamed a = P.globalNamed b) (hb : Lib.TabIs P w b k zs) : Lib.TabIs P w a k zs := by
  unfold Lib.TabIs World.var? at hb ⊢
  rw [h]
  exact hb
/-- strconv's table of powers (the program's first variable), as its initialiser lays it. -/
def Tab (w : World) : Prop := ∀ name, Tryf.prog.globalNamed name = some 0 → Lib.TabIs Tryf.prog w name .u64 Lib.pow10Tab
theorem tab_below {w w' : World} (h : Tab w) (hb : Below w.heap.size w w') : Tab w' := by
  intro name hg
  have h := h name hg
  unfold Lib.TabIs World.var? at h ⊢
  rw [hg] at h ⊢
  simp only [Option.bind_some] at h ⊢
  have hlt : 0 < w.heap.size := by
    rcases Nat.lt_or_ge 0 w.heap.size with h' | h'
    · exact h'
    · rw [Array.getElem?_eq_none h'] at h; cases h
  rw [hb.block 0 hlt]
  exact h

theorem itoa_any (n : Int) (h0 : -9223372036854775808 ≤ n) (h1 : n ≤ 9223372036854775807) (w : World) (ht : Tab w) :
    Calls Tryf.prog 10 #[.int .i64 n] w fun e w' => e = .returned (.string (numS n)) ∧ Below w.heap.size w w' := by
  refine (Any.strconv_Itoa Tryf.laysM171 n h0 h1 w (ht _ (by kernel_rfl))).mono ?_
  rintro e w' ⟨rfl, k, os, rfl⟩
  refine ⟨rfl, ⟨rfl, rfl, rfl, by simp, fun i hi => ?_⟩⟩
  rw [Sort.heap_grow_old _ _ (by simpa using hi)]
  simp

def colS : ByteArray := ⟨#[58]⟩
def dashS : ByteArray := ⟨#[45]⟩

theorem d_parse : (FmtText.parse [58, 37, 100]).map FmtText.glue = some [.lit [58], .verb {} 100] := by rfl
theorem d_text (x : Int) (hw : (Lit.int .i64 x).wf = true) : FmtText.text "fmt.Sprintf" [[58, 37, 100], shapeInt, Go.Extern.Stop.digits 8 (x % 18446744073709551616).toNat] = some (58 :: Lib.itoa x) := by
  have hi := FmtText.operand_int_at (sh := shapeInt) (k := .i64) rfl rfl x hw
  rw [FmtText.text_sprintf_glued d_parse (FmtText.operands_cons hi FmtText.operands_nil)]
  simp [FmtText.render, FmtText.printArg_d _ _ hw]
theorem fmtD : FmtStop.printed? ⟨#[58, 37, 100]⟩ 1 = some [(0, 100, false)] := by kernel_rfl

theorem sprintf_told (F : Interp) (b : Nat) (x : Int) (h0 : -9223372036854775808 ≤ x) (h1 : x ≤ 9223372036854775807) (w : World) (hF : F.told.answers w.tape) (hc : w.cell? ⟨b, 0, none⟩ = some (.iface 3 (.int .i64 x))) :
    (callFunc 11 #[.string ⟨#[58, 37, 100]⟩, .slice (some ⟨b, 0, none⟩) 1 1]).run Tryf.prog w = .ok (.value (.string (colS ++ numS x))) w.drew := by
  have hF' := answers_open hF
  have hw : (Lit.int .i64 x).wf = true := by
    have e1 : IntKind.i64.min = -9223372036854775808 := rfl
    have e2 : IntKind.i64.max = 9223372036854775807 := rfl
    simp [Lit.wf, e1, e2]
    omega
  have hl := Lib.itoa_length_le x h0 h1
  have ht := told_string F (d_text x hw) (by simp; omega)
  have hx : FmtStop.textOf (F.told "fmt.Sprintf" [[58, 37, 100], shapeInt, Go.Extern.Stop.digits 8 (x % 18446744073709551616).toNat] 0) = colS ++ numS x := by
    apply ByteArray.ext
    apply Array.toList_inj.1
    rw [textOf_list, ht]
    simp [colS, numS]
  simp only [sprintf_call]
  simp [go_sem, fmt_guard, fmtD, opInt, hc, hF', hx]

/-- The text of a place. -/
def headS (nm : ByteArray) (l : Int) : ByteArray := if nm = ⟨#[]⟩ then numS l else nm ++ colS ++ numS l
def textS (nm : ByteArray) (l c : Int) : ByteArray :=
  if 0 < l then (if c = 0 then headS nm l else headS nm l ++ (colS ++ numS c)) else if nm = ⟨#[]⟩ then dashS else nm
theorem numS_pos (n : Int) (h0 : 0 ≤ n) : 0 < (numS n).size := by
  obtain ⟨u, rfl⟩ : ∃ u : Nat, n = u := ⟨n.toNat, by omega⟩
  by_cases h : u < 10
  · rw [numS_digit h, digS_size]; omega
  · rw [numS_more h, ByteArray.size_append, digS_size]; omega
theorem ne_of_pos {s : ByteArray} (h : 0 < s.size) : s ≠ ⟨#[]⟩ := by
  rintro rfl
  simp [ByteArray.size] at h
theorem isEmpty_pos {s : ByteArray} (h : 0 < s.size) : s.toList.isEmpty = false := by
  rw [ByteArray.toList_eq]
  cases s with
  | mk a =>
    simp [ByteArray.size] at h ⊢
    intro e
    subst e
    simp at h
theorem isEmpty_ne {s : ByteArray} (h : s ≠ ⟨#[]⟩) : s.toList.isEmpty = false := by
  rw [ByteArray.toList_eq]
  cases s with
  | mk a =>
    simp
    intro e
    subst e
    exact h rfl
theorem empty_app (s : ByteArray) : (⟨#[]⟩ : ByteArray) ++ s = s := by
  apply ByteArray.ext
  simp
theorem headS_size (nm : ByteArray) (l : Int) (h0 : 0 ≤ l) (h1 : l ≤ 9223372036854775807) (hn : nm.size ≤ 1152921504606846976) : 0 < (headS nm l).size ∧ (headS nm l).size ≤ 1152921504606847000 := by
  have h2 := numS_pos l h0
  have h3 := numS_size l (by omega) h1
  have h4 : colS.size = 1 := rfl
  unfold headS
  split
  · omega
  · rw [ByteArray.size_append, ByteArray.size_append]; omega

-- STRING (mk_text.py)
set_option maxRecDepth 100000 in
set_option maxHeartbeats 1000000 in
theorem posString_any (F : Interp) (nm : ByteArray) (o l c : Int) (w : World) (hF : F.told.answers w.tape) (ht : Tab w) (l1 : l ≤ 9223372036854775807) (c0 : -9223372036854775808 ≤ c) (c1 : c ≤ 9223372036854775807) (hn : nm.size ≤ 1152921504606846976) :
    Calls Tryf.prog 7 #[.agg #[.string nm, .int .i64 o, .int .i64 l, .int .i64 c]] w fun e w' => e = .returned (.string (textS nm l c)) ∧ Below w.heap.size w w' := by
  have HB : Below w.heap.size w (w.alloc (.cells #[.string nm, .int .i64 o, .int .i64 l, .int .i64 c] 28)) := (Below.refl _ _).alloc (Nat.le_refl _) _
  have HT := Lib.hid (tab_below ht HB)
  have p2 : (w.alloc (.cells #[.string nm, .int .i64 o, .int .i64 l, .int .i64 c] 28)).cell? ⟨w.heap.size, 2, none⟩ = some (.int .i64 l) := by simp
  have p3 : (w.alloc (.cells #[.string nm, .int .i64 o, .int .i64 l, .int .i64 c] 28)).cell? ⟨w.heap.size, 3, none⟩ = some (.int .i64 c) := by simp
  have hlt : w.heap.size < (w.alloc (.cells #[.string nm, .int .i64 o, .int .i64 l, .int .i64 c] 28)).heap.size := by simp
  have HV := Lib.hid (posIsValid_any w.heap.size l _ p2)
  have HS := Lib.hid (fun b W hF hc => sprintf_told F b c c0 c1 W hF hc)
  have h5 : (colS ++ numS c).size ≤ 30 := by
    rw [ByteArray.size_append]
    have := numS_size c c0 c1
    have : colS.size = 1 := rfl
    omega
  have h6 : 0 < (colS ++ numS c).size := by
    rw [ByteArray.size_append]
    have : colS.size = 1 := rfl
    omega
  clear ht
  by_cases hl : 0 < l
  · have HI := Lib.hid (fun w ht => itoa_any l (by omega) l1 w ht)
    have hdl : decide (0 < l) = true := by simpa using hl
    rw [hdl] at HV
    have hsz := numS_size l (by omega) l1
    have hps := headS_size nm l (by omega) l1 hn
    unfold textS
    rw [if_pos hl]
    by_cases hm : nm = ⟨#[]⟩
    · subst hm
      have he : headS ⟨#[]⟩ l = numS l := by unfold headS; rw [if_pos rfl]
      rw [he] at hps ⊢
      have hea := empty_app (numS l)
      by_cases hc : c = 0
      · subst hc
        rw [if_pos rfl]
        have hq := isEmpty_pos hps.1
        generalize numS l = n at *
        go_enter Tryf.func7, Tryf.ntmps7
        go_wp2_with fail
        refine HV.out.mono ?_
        rintro e w1 ⟨rfl, rfl⟩
        clear HV
        generalize w.alloc (.cells #[.string ⟨#[]⟩, .int .i64 o, .int .i64 l, .int .i64 0] 28) = w1 at *
        go_wp2_with fail
        refine (HI.out _ HT.out).mono ?_
        rintro e w2 ⟨rfl, hb2⟩
        have p4 := (hb2.cell (p := ⟨w.heap.size, 3, none⟩) hlt).trans p3
        have hb3 : Below w.heap.size w w2 := HB.trans (hb2.mono HB.size)
        clear HI HT HS p2 p3 hb2 HB hlt hF
        go_wp2
        go_ret
        exact ⟨rfl, hb3⟩
      · rw [if_neg hc]
        have hq := isEmpty_pos (s := numS l ++ (colS ++ numS c)) (by rw [ByteArray.size_append]; omega)
        generalize colS ++ numS c = q at *
        generalize numS l = n at *
        go_enter Tryf.func7, Tryf.ntmps7
        go_wp2_with fail
        refine HV.out.mono ?_
        rintro e w1 ⟨rfl, rfl⟩
        clear HV
        generalize w.alloc (.cells #[.string ⟨#[]⟩, .int .i64 o, .int .i64 l, .int .i64 c] 28) = w1 at *
        go_wp2_with fail
        refine (HI.out _ HT.out).mono ?_
        rintro e w2 ⟨rfl, hb2⟩
        have p4 := (hb2.cell (p := ⟨w.heap.size, 3, none⟩) hlt).trans p3
        have hb3 : Below w.heap.size w w2 := HB.trans (hb2.mono HB.size)
        have hF2 : F.told.answers w2.tape := by rw [hb3.tape]; exact hF
        have hsp := HS.out w2.heap.size (w2.alloc (.cells #[.iface 3 (.int .i64 c)] 20)) hF2 (by simp)
        have hb4 : Below w.heap.size w (w2.alloc (.cells #[.iface 3 (.int .i64 c)] 20)).drew := (hb3.alloc hb3.size _).drew
        clear hb3 hF2
        clear HI HT HS p2 p3 hb2 HB hlt hF
        go_wp2
        go_ret
        exact ⟨rfl, hb4⟩
    · have he : headS nm l = nm ++ colS ++ numS l := by unfold headS; rw [if_neg hm]
      rw [he] at hps ⊢
      have hm2 := isEmpty_ne hm
      clear he
      unfold colS at hps ⊢
      by_cases hc : c = 0
      · subst hc
        rw [if_pos rfl]
        have hq := isEmpty_pos hps.1
        generalize numS l = n at *
        go_enter Tryf.func7, Tryf.ntmps7
        go_wp2_with fail
        refine HV.out.mono ?_
        rintro e w1 ⟨rfl, rfl⟩
        clear HV
        generalize w.alloc (.cells #[.string nm, .int .i64 o, .int .i64 l, .int .i64 0] 28) = w1 at *
        go_wp2_with fail
        refine (HI.out _ HT.out).mono ?_
        rintro e w2 ⟨rfl, hb2⟩
        have p4 := (hb2.cell (p := ⟨w.heap.size, 3, none⟩) hlt).trans p3
        have hb3 : Below w.heap.size w w2 := HB.trans (hb2.mono HB.size)
        clear HI HT HS p2 p3 hb2 HB hlt hF
        go_wp2
        go_ret
        exact ⟨rfl, hb3⟩
      · rw [if_neg hc]
        have hq := isEmpty_pos (s := nm ++ ⟨#[58]⟩ ++ numS l ++ (colS ++ numS c)) (by rw [ByteArray.size_append]; omega)
        unfold colS at h5 h6 HS hq
        generalize ⟨#[58]⟩ ++ numS c = q at *
        generalize numS l = n at *
        go_enter Tryf.func7, Tryf.ntmps7
        go_wp2_with fail
        refine HV.out.mono ?_
        rintro e w1 ⟨rfl, rfl⟩
        clear HV
        generalize w.alloc (.cells #[.string nm, .int .i64 o, .int .i64 l, .int .i64 c] 28) = w1 at *
        go_wp2_with fail
        refine (HI.out _ HT.out).mono ?_
        rintro e w2 ⟨rfl, hb2⟩
        have p4 := (hb2.cell (p := ⟨w.heap.size, 3, none⟩) hlt).trans p3
        have hb3 : Below w.heap.size w w2 := HB.trans (hb2.mono HB.size)
        have hF2 : F.told.answers w2.tape := by rw [hb3.tape]; exact hF
        have hsp := HS.out w2.heap.size (w2.alloc (.cells #[.iface 3 (.int .i64 c)] 20)) hF2 (by simp)
        have hb4 : Below w.heap.size w (w2.alloc (.cells #[.iface 3 (.int .i64 c)] 20)).drew := (hb3.alloc hb3.size _).drew
        clear hb3 hF2
        clear HI HT HS p2 p3 hb2 HB hlt hF
        go_wp2
        go_ret
        exact ⟨rfl, hb4⟩
  · have hdl : decide (0 < l) = false := by simpa using hl
    rw [hdl] at HV
    unfold textS
    rw [if_neg hl]
    clear HS h5 h6
    by_cases hm : nm = ⟨#[]⟩
    · subst hm
      rw [if_pos rfl]
      go_enter Tryf.func7, Tryf.ntmps7
      go_wp2_with fail
      refine HV.out.mono ?_
      rintro e w1 ⟨rfl, rfl⟩
      clear HV
      go_wp2
      go_ret
      exact ⟨rfl, HB⟩
    · rw [if_neg hm]
      have hm2 := isEmpty_ne hm
      go_enter Tryf.func7, Tryf.ntmps7
      go_wp2_with fail
      refine HV.out.mono ?_
      rintro e w1 ⟨rfl, rfl⟩
      clear HV
      go_wp2
      go_ret
      exact ⟨rfl, HB⟩
end Go.Proofs.YtmijedghihebjaaFmt
