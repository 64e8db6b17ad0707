/- impl.Files. -/
import Derived.Test.YtboccjnlfehgoaaFmtPick
import Derived.Test.YtboccjnlfehgoaaFmtPlain
import Derived.Test.YtboccjnlfehgoaaFmtGiven
import Derived.Deep.RegionHeld3
namespace Go.Proofs.YtboccjnlfehgoaaFmt
open Go.RowKit Go.MuLone Go.RwLone

theorem Tryf.infoTold : (Tryf.prog.info? 58).map (fun i => (i.zero, i.size, i.bytes)) = some (some (.agg #[.string ⟨#[]⟩, .int .i64 0, .int .i64 0, .int .i64 0, .slice none 0 0, .slice none 0 0]), 6, 88) := by kernel_rfl

/-- What a file tells, in memory. -/
def ToldRow (w : World) (B : Nat) (m : MFile) (r : List Value) : Prop := ∃ lv yv, r = [.string m.name, .int .i64 m.base, .int .i64 m.size, .int .i64 m.lines.length, lv, yv] ∧ w.ownsRow B 3 1 lv m.lines.length (m.lines.map (Value.int .i64)) ∧ w.ownsRow 0 4 1 yv m.yes.length (m.yes.map Value.bool) ∧ m.lines.length ≤ 17592186044416
def OwnTolds (w : World) (B : Nat) (v : Value) (ms : List MFile) : Prop := ∃ rs, OwnsL w B 58 6 v rs ∧ rs.length = ms.length ∧ ∀ (k : Nat) (m : MFile), ms[k]? = some m → ∃ r, rs[k]? = some r ∧ ToldRow w B m r

theorem ToldRow.off {w w' : World} {M : Nat → Prop} {B : Nat} {m : MFile} {r : List Value} (h : ToldRow w B m r) (hc : Chg M w w') (ho : Off w M [3, 4]) : ToldRow w' B m r := by
  obtain ⟨lv, yv, h1, h2, h3, h4⟩ := h
  exact ⟨lv, yv, h1, owns_chg h2 hc (ho.own h2 (by simp)), owns_chg h3 hc (ho.own h3 (by simp)), h4⟩
theorem OwnTolds.snoc {w : World} {B : Nat} {v : Value} {ms : List MFile} {rs : List (List Value)} {m : MFile} {r : List Value} (h1 : AllLen 6 rs) (h2 : rs.length = ms.length) (h3 : ∀ (k : Nat) (m : MFile), ms[k]? = some m → ∃ r, rs[k]? = some r ∧ ToldRow w B m r)
    (ho : w.ownsRow B 58 6 v (rs.length + 1) (rs.flatten ++ r)) (hr : ToldRow w B m r) : OwnTolds w B v (ms ++ [m]) := by
  have hl : r.length = 6 := by obtain ⟨lv, yv, rfl, _⟩ := hr; rfl
  refine ⟨rs ++ [r], OwnsL.snoc h1 hl ho, by simp [h2], fun k x hk => ?_⟩
  rcases snoc_at hk with ⟨_, hk⟩ | ⟨rfl, rfl⟩
  · obtain ⟨r', hr', he⟩ := h3 k x hk
    exact ⟨r', at_snoc hr', he⟩
  · exact ⟨r, by rw [← h2]; simp, hr⟩
theorem files_lines {w : World} {v : Value} {fs : List GFile} (hf : Files w v fs) {k : Nat} {m : MFile} (hk : (madeL fs)[k]? = some m) : m.lines.length ≤ 17592186044416 := by
  obtain ⟨g, hg, rfl⟩ := made_of hk
  obtain ⟨a, c, _, hcell⟩ := hf.cell
  obtain ⟨_, _, ev, _, _, _, _, _, hE⟩ := hcell k g hg
  obtain ⟨_, _, _, hEc⟩ := hE.cell
  refine linesL_len (by omega) (fun e he => ?_)
  obtain ⟨j, hj, rfl⟩ := List.getElem_of_mem he
  obtain ⟨_, _, _, _, _, _, _, _, h8⟩ := hEc j _ (List.getElem?_eq_getElem hj)
  omega
theorem by_copy (n : Nat) (h9 : n ≤ 17592186044416) : ((0 + n) + (0 + n) / 4 + 192) * 8 ≤ 281474976710656 := by omega
theorem by_row (i n : Nat) (h : i < n) (h9 : n * 56 ≤ 140737488355328) : ((i + 1) + (i + 1) / 4 + 192) * 88 ≤ 281474976710656 := by omega
theorem ln_row (i n : Nat) (h : i < n) (h9 : n * 56 ≤ 140737488355328) : i + 1 ≤ maxLen := by unfold maxLen; omega

theorem cells_fresh6 {w : World} {g : Nat} {a b c d e f : Value} {t : TypeId} (h : w.heap[g]? = some (.cells #[a, b, c, d, e, f] t (0, 0))) : Cells w 6 (.slice (some ⟨g, 0, none⟩) 1 1) 1 [a, b, c, d, e, f] :=
  ⟨rfl, _, _, rfl, .inr ⟨g, 0, rfl, fun j u hj => by rw [cell_of h]; simpa using hj⟩⟩
theorem one6 (nm : ByteArray) (x y z : Int) (a : Option Addr) (b c : Nat) (d : Option Addr) (e f : Nat) : ∀ u ∈ ([.string nm, .int .i64 x, .int .i64 y, .int .i64 z, .slice a b c, .slice d e f] : List Value), u.oneCell' = true := by
  intro u hu
  simp at hu
  rcases hu with rfl | rfl | rfl | rfl | rfl | rfl <;> rfl

def LeavesTold (fs : List GFile) (w : World) (e : Ending) (w' : World) : Prop := ∃ v, e = .returned v ∧ OwnTolds w' w.heap.size v (madeL fs) ∧ Below w.heap.size w w'

set_option maxRecDepth 100000 in
set_option maxHeartbeats 4000000 in
theorem implFiles_any (fv : Value) (fs : List GFile) (w : World) (hf : Files w fv fs) (hv : validL fs) : Calls Tryf.prog 28 #[fv] w (LeavesTold fs w) := by
  obtain ⟨i0, hi, hz0, hz1, hz2⟩ := info_parts Tryf.infoInt
  obtain ⟨j0, hj, hy0, hy1, hy2⟩ := info_parts Tryf.infoTold
  have HC := Lib.hid (build_any fv fs w hf hv)
  have hlen := hf.1
  have HLN : Hid (∀ (k : Nat) (m : MFile), (madeL fs)[k]? = some m → m.lines.length ≤ 17592186044416) := fun k m hk => files_lines hf hk
  have hml : (madeL fs).length = fs.length := madeL_length fs
  obtain ⟨fa, fc, rfl, _⟩ := hf.cell
  clear hf hv
  go_enter Tryf.func28, Tryf.ntmps28
  go_wp2_with fail
  refine HC.out.mono ?_
  rintro e w1 ⟨S, lv, tv, t, fbs, yvs, rfl, hB, hb1⟩
  obtain ⟨la, lc, rfl⟩ := owns_form hB.own
  obtain ⟨ta, tc, rfl⟩ := owns_form hB.told
  have OWN := Lib.hid hB.own
  have TLD := Lib.hid hB.told
  have EACH := Lib.hid hB.each
  have FBL := Lib.hid hB.fbl
  have HML := Lib.hid hml
  have O0 : Hid (OwnTolds (w1.alloc (.cells #[] 58)) w1.heap.size (.slice (some ⟨w1.heap.size, 0, none⟩) 0 0) ((madeL fs).take 0)) := ⟨[], OwnsL.empty (World.ownsRow_made w1 #[] 0 (Nat.le_refl _) (by simp [maxLen]) (by simp)), by simp, fun k f hk => by simp at hk⟩
  have B0 : Below w1.heap.size w1 (w1.alloc (.cells #[] 58)) := (Below.refl _ _).alloc (Nat.le_refl _) _
  clear HC hB hml
  go_wp2_with fail
  go_loopg [18, 6] fs.length (fun k v ov wr => ∃ i : Nat, v = .int .i64 i ∧ i ≤ fs.length ∧ k = fs.length - i ∧ OwnTolds wr w1.heap.size ov ((madeL fs).take i) ∧ Below w1.heap.size w1 wr)
  case atStart => exact ⟨0, rfl, by omega, by omega, O0.out, B0⟩
  case round =>
    rename World => wr
    obtain ⟨i, rfl, hi', rfl, hO, hbr⟩ := hrel
    clear O0 B0
    have HOM := Lib.hid hO
    obtain ⟨rs, hOw, hrl, hrows⟩ := hO
    have hgl : ((madeL fs).take i).length = i := by rw [List.length_take, HML.out]; omega
    rw [hgl] at hrl
    obtain ⟨oa, oc, rfl⟩ : ∃ a c, u6 = .slice a i c := by
      rcases hOw.2.2 with ⟨h, h'⟩ | ⟨g, cap, cur, h, _⟩
      · exact ⟨_, _, by rw [h, ← hrl, h']⟩
      · exact ⟨_, _, by rw [h, hrl]⟩
    have hsz := hbr.size
    by_cases hlt : i < fs.length
    · obtain ⟨m, hm⟩ : ∃ m, (madeL fs)[i]? = some m := ⟨_, List.getElem?_eq_getElem (by rw [HML.out]; exact hlt)⟩
      obtain ⟨fb, yv, lvl, h1, h2, h3, h4, h5⟩ := EACH.out i m hm
      have F := h4.below hbr
      have Y := owns_chg h5 (Chg.of_below (M := fun _ => False) hbr) (fun _ _ => id)
      obtain ⟨va, vc, rfl⟩ := owns_form h4.own
      obtain ⟨xa, xc, rfl⟩ := owns_form h5
      have hll := h4.len
      -- the two cells that are read
      rcases OWN.out.2 with ⟨_, h0⟩ | ⟨g, cap, cur, hvv, _⟩
      · omega
      simp at hvv
      obtain ⟨rfl, rfl⟩ := hvv
      have hc := OWN.out.cells (g := g) rfl i (fbV fb) (by rw [List.getElem?_map, h1]; rfl)
      rw [Addr.add_lit, Nat.zero_add] at hc
      unfold fbV at hc
      have hc' := (hbr.cell (p := ⟨g, i, none⟩) (World.block_lt_of_cell? w1 _ hc)).trans hc
      rcases TLD.out.2 with ⟨_, h0⟩ | ⟨tg, tcap, tcur, hvv, _⟩
      · omega
      simp at hvv
      obtain ⟨rfl, rfl⟩ := hvv
      have ht := TLD.out.cells (g := tg) rfl i _ h2
      rw [Addr.add_lit, Nat.zero_add] at ht
      have ht' := (hbr.cell (p := ⟨tg, i, none⟩) (World.block_lt_of_cell? w1 _ ht)).trans ht
      have q1 : (i : Int) < (fs.length : Int) := by omega
      have q2 : (0 : Int) ≤ (i : Int) := by omega
      have htl : tg < wr.heap.size := World.block_lt_of_cell? wr _ ht'
      have hfl : fb < wr.heap.size := lt_of_heap F.file
      have F1 : fileOK (wr.alloc (.cells #[] 3)).drew fb m.name m.base m.size (.slice va m.lines.length vc) := F.file.chg (M := fun _ => False) (((Chg.refl _ _).alloc _).drew) id
      have F0 : fileOK wr.drew fb m.name m.base m.size (.slice va m.lines.length vc) := F.file.chg (M := fun _ => False) ((Chg.refl _ _).drew) id
      have t0 : wr.drew.cell? ⟨tg, i, none⟩ = some (.slice xa m.yes.length xc) := ht'
      have t1 : (wr.alloc (.cells #[] 3)).drew.cell? ⟨tg, i, none⟩ = some (.slice xa m.yes.length xc) := (World.cell?_alloc_lt wr _ ⟨tg, i, none⟩ htl).trans ht'
      have own0 : (wr.alloc (.cells #[] 3)).drew.ownsRow wr.heap.size 3 1 (.slice (some ⟨wr.heap.size, 0, none⟩) 0 0) 0 [] := (World.ownsRow_made (base := wr.heap.size) (size := 1) (e := 3) wr #[] 0 (Nat.le_refl _) (by simp [maxLen]) (by simp)).drew
      have srcA : Cells (wr.alloc (.cells #[] 3)).drew 1 (.slice va m.lines.length vc) m.lines.length (m.lines.map (Value.int .i64)) := (owns_cells F.own).below (((Below.refl _ _).alloc (Nat.le_refl _) _).drew)
      have HMm := Lib.hid hm
      have HYY := Lib.hid Y
      have HRW := Lib.hid hrows
      have HOW := Lib.hid hOw
      have HRL := Lib.hid hrl
      have HGL := Lib.hid hgl
      have hl9 := HLN.out i m hm
      have lnA : 0 + m.lines.length ≤ maxLen := by unfold maxLen; omega
      have byA := by_copy m.lines.length hl9
      have bsA : wr.heap.size ≤ (wr.alloc (.cells #[] 3)).drew.heap.size := by show wr.heap.size ≤ (wr.alloc (.cells #[] 3)).heap.size; simp
      have NM : Hid (∀ W, fileOK W fb m.name m.base m.size (.slice va m.lines.length vc) → Calls Tryf.prog 53 #[.pointer (some ⟨fb, 0, none⟩)] W fun e w' => e = .returned (.string m.name) ∧ W = w') := fun W h => name_any fb m.name m.base m.size _ W h
      have BS : Hid (∀ W, fileOK W fb m.name m.base m.size (.slice va m.lines.length vc) → Calls Tryf.prog 54 #[.pointer (some ⟨fb, 0, none⟩)] W fun e w' => e = .returned (.int .i64 m.base) ∧ W = w') := fun W h => base_any fb m.name m.base m.size _ W h
      have SZ : Hid (∀ W, fileOK W fb m.name m.base m.size (.slice va m.lines.length vc) → Calls Tryf.prog 55 #[.pointer (some ⟨fb, 0, none⟩)] W fun e w' => e = .returned (.int .i64 m.size) ∧ W = w') := fun W h => size_any fb m.name m.base m.size _ W h
      have LC : Hid (∀ W, fileOK W fb m.name m.base m.size (.slice va m.lines.length vc) → Calls Tryf.prog 56 #[.pointer (some ⟨fb, 0, none⟩)] W fun e w' => e = .returned (.int .i64 m.lines.length) ∧ W = w') := fun W h => lineCount_any fb m.name m.base m.size va m.lines.length vc W h
      have LN : Hid (∀ W, fileOK W fb m.name m.base m.size (.slice va m.lines.length vc) → Calls Tryf.prog 42 #[.pointer (some ⟨fb, 0, none⟩)] W fun e w' => e = .returned (.slice va m.lines.length vc) ∧ W = w') := fun W h => lines_any fb m.name m.base m.size va m.lines.length vc W h
      obtain ⟨rf, hrf⟩ : ∃ rf, rf = rs.flatten := ⟨_, rfl⟩
      have HOI : Hid (wr.ownsRow w1.heap.size 58 6 (.slice oa i oc) i rf) := by have := hOw.2; rw [hrl, ← hrf] at this; exact this
      have HRF := Lib.hid hrf
      have htg1 : tg < w1.heap.size := World.block_lt_of_cell? w1 _ ht
      have lnB := ln_row i fs.length hlt hlen
      have byB := by_row i fs.length hlt hlen
      have HF1 := Lib.hid F1
      have HF0 := Lib.hid F0
      have HFS := Lib.hid F
      clear hrf F1 F0 hm Y hrows hOw hrl hgl h1 h2 h3 h4 h5 hc ht F OWN TLD EACH
      go_wp2_with fail
      go_region_held3 (fun w' => w'.cell? ⟨tg, i, none⟩ = some (.slice xa m.yes.length xc))
        (first | exact t0 | exact t1 | exact t2 | exact t3 | exact t4)
        (first
          | (go_at_call 53; refine (NM.out _ (by first | exact HF0.out | exact HF1.out)).mono ?_; rintro e w' ⟨rfl, rfl⟩)
          | (go_at_call 54; refine (BS.out _ (by first | exact HF0.out | exact HF1.out)).mono ?_; rintro e w' ⟨rfl, rfl⟩)
          | (go_at_call 55; refine (SZ.out _ (by first | exact HF0.out | exact HF1.out)).mono ?_; rintro e w' ⟨rfl, rfl⟩)
          | (go_at_call 56; refine (LC.out _ (by first | exact HF0.out | exact HF1.out)).mono ?_; rintro e w' ⟨rfl, rfl⟩)
          | (go_at_call 42; refine (LN.out _ (by first | exact HF0.out | exact HF1.out)).mono ?_; rintro e w' ⟨rfl, rfl⟩)
          | (refine step_append_any (o := ⟨some 35, _, _, _, _, _⟩) (by rfl) (.tmp 32) (.tmp 34) _ (by rfl) wr.heap.size 3 i0 _ 1 8 Tryf.underlying28 hi hz0 hz1 hz2 rfl (by omega) _ 0 [] (by rfl) own0 _ m.lines.length (m.lines.map (Value.int .i64)) (by rfl) srcA (ints_one _) lnA byA bsA ?_
             intro v2 w2 own2 grow2
             simp only [Nat.zero_add, List.nil_append] at own2
             have K2 : Chg (fun _ => False) wr w2 := (((Chg.refl _ _).alloc _).drew).step (Chg.of_grown (M := fun k => k = wr.heap.size) grow2 (fun k h => by simp [Value.ownBlock] at h; omega)) (fun k hk h => by omega)
             have t2 : w2.cell? ⟨tg, i, none⟩ = some (.slice xa m.yes.length xc) := (World.cell?_of_block (K2.block tg htl id)).trans ht'
             obtain ⟨va2, vc2, rfl⟩ := owns_form own2
             have t3 : (w2.alloc (.cells #[.string m.name, .int .i64 m.base, .int .i64 m.size, .int .i64 m.lines.length, .slice va2 m.lines.length vc2, .slice xa m.yes.length xc] 58)).cell? ⟨tg, i, none⟩ = some (.slice xa m.yes.length xc) := (World.cell?_alloc_lt w2 _ ⟨tg, i, none⟩ (Nat.lt_of_lt_of_le htl K2.size)).trans t2
             have own3 : (w2.alloc (.cells #[.string m.name, .int .i64 m.base, .int .i64 m.size, .int .i64 m.lines.length, .slice va2 m.lines.length vc2, .slice xa m.yes.length xc] 58)).ownsRow w1.heap.size 58 6 (.slice oa i oc) i rf := (owns_chg HOI.out K2 (fun _ _ => id)).alloc _
             have bsB : w1.heap.size ≤ (w2.alloc (.cells #[.string m.name, .int .i64 m.base, .int .i64 m.size, .int .i64 m.lines.length, .slice va2 m.lines.length vc2, .slice xa m.yes.length xc] 58)).heap.size := by have := K2.size; simp; omega)
          | (refine step_append_any (o := ⟨some 42, _, _, _, _, _⟩) (by rfl) (.tmp 23) (.tmp 41) _ (by rfl) w1.heap.size 58 j0 _ 6 88 Tryf.underlying55 hj hy0 hy1 hy2 rfl (by omega) _ i rf (by rfl) own3 _ 1 [.string m.name, .int .i64 m.base, .int .i64 m.size, .int .i64 m.lines.length, .slice va2 m.lines.length vc2, .slice xa m.yes.length xc] (by rfl) (cells_fresh6 (heap_new w2 _)) (one6 _ _ _ _ _ _ _ _ _ _) lnB byB bsB ?_
             intro v4 w4 own4 grow4
             have t4 : w4.cell? ⟨tg, i, none⟩ = some (.slice xa m.yes.length xc) := (World.cell?_of_block (grow4.block tg (by have := K2.size; simp; omega) (fun e => by have := (own3.lt tg e.symm).1; omega))).trans t3
             obtain ⟨na, nc, rfl⟩ : ∃ a c, v4 = .slice a (i + 1) c := by
               rcases own4.2 with ⟨_, h'⟩ | ⟨g, cap, cur, h, _⟩
               · omega
               · exact ⟨_, _, h⟩))
      all_goals
        have K4 : Chg (fun k => (Value.slice oa i oc).ownBlock = some k) w2 w4 := ((Chg.refl _ _).alloc _).trans (Chg.of_grown grow4 fun k h => h)
        have O2 := owns_chg HOI.out K2 (fun _ _ => id)
        have O4 : Off w2 (fun k => (Value.slice oa i oc).ownBlock = some k) [3, 4] := off_row O2 (by decide)
        have B4 : Below w1.heap.size w1 w4 := K4.below_of (K2.below_of hbr hsz (fun _ h => h.elim)) (by have := K2.size; omega) (fun k h => (O2.lt k h).1)
        have hfin : OwnTolds w4 w1.heap.size (.slice na (i + 1) nc) ((madeL fs).take (i + 1)) := by
          rw [take_snoc HMm.out]
          have h2 := HRL.out
          have h3 := HGL.out
          refine OwnTolds.snoc (rs := rs) (r := [.string m.name, .int .i64 m.base, .int .i64 m.size, .int .i64 m.lines.length, .slice va2 m.lines.length vc2, .slice xa m.yes.length xc]) HOW.out.1 (by rw [h2, h3]) ?_ (by rw [h2, ← HRF.out]; exact own4) ?_
          · intro k f hk
            obtain ⟨r, hr, he⟩ := HRW.out k f hk
            exact ⟨r, hr, (he.off K2 (fun _ _ _ _ h => h.elim)).off K4 O4⟩
          · refine ⟨_, _, rfl, owns_mono (owns_chg own2 K4 (O4.own own2 (by simp))) hsz, ?_, hl9⟩
            have Y2 := owns_mono (owns_chg HYY.out K2 (fun _ _ => id)) (Nat.zero_le _)
            exact owns_chg Y2 K4 (O4.own Y2 (by simp))
        have HFIN := Lib.hid hfin
        clear hfin own2 own3 own4 grow2 grow4 K2 K4 O2 O4 t0 t1 t2 t3 t4 srcA own0 HOM HRW HOW HRL HGL HYY HFS HF0 HF1
        go_wp2
        go_roundg (fs.length - (i + 1))
        case measure => omega
        case rel => exact ⟨i + 1, by go_num, by omega, rfl, HFIN.out, B4⟩
    · have hi2 : i = fs.length := by omega
      subst hi2
      have hns : ¬ ((fs.length : Int) < (fs.length : Int)) := by omega
      have hb5 : Below w.heap.size w wr := hb1.trans (hbr.mono hb1.size)
      have FIN : Hid (OwnTolds wr w.heap.size (.slice oa fs.length oc) (madeL fs)) := by
        have := HOM.out
        rw [List.take_of_length_le (by rw [HML.out]; omega)] at this
        obtain ⟨rs', x1, x2, x3⟩ := this
        refine ⟨rs', ⟨x1.1, owns_mono x1.2 hb1.size⟩, x2, fun k m hk => ?_⟩
        obtain ⟨r, hr, lv, yv, y1, y2, y3⟩ := x3 k m hk
        exact ⟨r, hr, lv, yv, y1, owns_mono y2 hb1.size, y3⟩
      clear hlt hOw hrows HOM
      go_wp2
      go_ret
      exact ⟨_, rfl, FIN.out, hb5⟩
end Go.Proofs.YtboccjnlfehgoaaFmt
