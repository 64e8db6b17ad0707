/- spec.rise, spec.changed, spec.Next, spec.Made. -/
import Derived.Test.YtmijedghihebjaaGreatFmtSpecV
import Derived.Deep.CutBlock
import Derived.Deep.CutRange
import Derived.Deep.RegionHeld3
import Derived.Test.YtmijedghihebjaaGreatFmtHeldE
import Derived.Deep.AppendLies
namespace Go.Proofs.YtmijedghihebjaaGreatFmt
open Go.RowKit Go.MuLone Go.RwLone

set_option maxRecDepth 100000 in
set_option maxHeartbeats 1000000 in
theorem specRise_any (nv : Value) (nls : List Int) (size : Int) (w : World) (ho : Ints w nv nls) (hlen : nls.length ≤ 140737488355328) :
    Calls Tryz.prog 41 #[nv, .int .i64 size] w fun e w' => e = .returned (.bool (rise size nls)) ∧ w' = w := by
  obtain ⟨a, cap, rfl, hcell⟩ := ho.cell
  have HC := Lib.hid hcell
  obtain ⟨b, hb⟩ : ∃ b, b = rise size nls := ⟨_, rfl⟩
  rw [← hb]
  have HBB := Lib.hid hb
  clear hcell ho hb
  go_enter Tryz.func41, Tryz.ntmps41
  go_wp2_with fail
  go_loopg [9] nls.length (fun k v wr => ∃ i : Nat, v = .int .i64 i ∧ i ≤ nls.length ∧ k = nls.length - i ∧ wr = w ∧ ∀ j, j < i → good size nls j)
  case atStart => exact ⟨0, rfl, by omega, by omega, rfl, fun j hj => by omega⟩
  case round =>
    obtain ⟨i, rfl, hi, rfl, rfl, hg⟩ := hrel
    have HG := Lib.hid hg
    clear hg
    by_cases hlt : i < nls.length
    · have hne : ¬ nls = [] := fun e => by rw [e] at hlt; simp at hlt
      obtain ⟨g, o, rfl, h⟩ := HC.out.resolve_left hne
      have k1 := h i hlt
      obtain ⟨y, hy⟩ : ∃ y, y = nls.getD i 0 := ⟨_, rfl⟩
      rw [← hy] at k1
      have HY := Lib.hid hy
      clear hy hne
      have fin : Hid (good size nls i → ∀ j, j < i + 1 → good size nls j) := fun hgi j hj => by
        rcases Nat.lt_or_ge j i with h' | h'
        · exact HG.out j h'
        · have : j = i := by omega
          rw [this]; exact hgi
      have bad : Hid (¬ good size nls i → b = false) := fun hng => by rw [HBB.out]; exact rise_false hlt hng
      cases i with
      | zero =>
        clear h
        rw [Nat.add_zero] at k1
        rw [show ((0 : Nat) : Int) = 0 from rfl]
        by_cases h1 : y < size
        · have hgi : good size nls 0 := ⟨by rw [← HY.out]; exact h1, fun h => by omega⟩
          have FIN := Lib.hid (fin.out hgi)
          clear hgi bad fin
          go_wp2
          go_roundg (nls.length - 1)
          case measure => omega
          case rel => exact ⟨1, rfl, by omega, rfl, rfl, FIN.out⟩
        · have hng : ¬ good size nls 0 := fun hh => h1 (by have := hh.1; rw [← HY.out] at this; exact this)
          have hbf := bad.out hng
          subst hbf
          have h1' : size ≤ y := by omega
          clear hng bad fin h1 HBB
          go_wp2
          go_ret
          exact ⟨rfl, rfl⟩
      | succ m =>
        have k2 := h m (by omega)
        obtain ⟨z, hz⟩ : ∃ z, z = nls.getD m 0 := ⟨_, rfl⟩
        rw [← hz] at k2
        have HZ := Lib.hid hz
        clear hz h
        rw [show ((m + 1 : Nat) : Int) = (m : Int) + 1 by omega]
        have q1 : 0 < (m : Int) + 1 := by omega
        have q2 : (m : Int) < (nls.length : Int) := by omega
        by_cases h2 : y < size
        · by_cases h1 : z < y
          · have hgi : good size nls (m + 1) := ⟨by rw [← HY.out]; exact h2, fun _ => by rw [Nat.add_sub_cancel, ← HY.out, ← HZ.out]; exact h1⟩
            have FIN := Lib.hid (fin.out hgi)
            clear hgi bad fin
            go_wp2
            go_roundg (nls.length - (m + 2))
            case measure => omega
            case rel => exact ⟨m + 2, by go_num, by omega, rfl, rfl, FIN.out⟩
          · have hng : ¬ good size nls (m + 1) := fun hh => h1 (by have := hh.2 (by omega); rw [Nat.add_sub_cancel, ← HY.out, ← HZ.out] at this; exact this)
            have hbf := bad.out hng
            subst hbf
            have h1' : y ≤ z := by omega
            clear hng bad fin h1 HBB
            go_wp2
            go_ret
            exact ⟨rfl, rfl⟩
        · have hng : ¬ good size nls (m + 1) := fun hh => h2 (by have := hh.1; rw [← HY.out] at this; exact this)
          have hbf := bad.out hng
          subst hbf
          have h2' : size ≤ y := by omega
          clear hng bad fin h2 HBB
          go_wp2
          go_ret
          exact ⟨rfl, rfl⟩
    · have hi2 : i = nls.length := by omega
      subst hi2
      have hbt : b = true := by rw [HBB.out]; exact rise_true HG.out
      subst hbt
      have hns : ¬ ((nls.length : Int) < (nls.length : Int)) := by omega
      clear hlt HBB HG
      go_wp2
      go_ret
      exact ⟨rfl, rfl⟩

theorem owned_src0 {w : World} {B : Nat} {e : TypeId} {g n cap : Nat} {xs : List Value} (h : w.ownsRow B e 1 (.slice (some ⟨g, 0, none⟩) n cap) n xs) : ∀ j u, xs[j]? = some u → w.cell? ⟨g, j, none⟩ = some u := by
  intro j u hj
  have := h.cells (g := g) rfl j u hj
  rwa [Addr.add_lit, Nat.zero_add] at this
theorem bools_one (ls : List Bool) : ∀ u ∈ ls.map Value.bool, u.oneCell' = true := by
  intro u hu
  obtain ⟨x, _, rfl⟩ := List.mem_map.1 hu
  rfl

/-- A file of the reference, as a value. -/
def madeV (name : ByteArray) (base size : Int) (lv yv : Value) : Value := .agg #[.string name, .int .i64 base, .int .i64 size, lv, yv]
def LeavesChanged (B : Nat) (name : ByteArray) (base size : Int) (ls : List Int) (ys : List Bool) (w : World) (e : Ending) (w' : World) : Prop :=
  ∃ lv' yv', e = .returned (madeV name base size lv' yv') ∧ w'.ownsRow B 3 1 lv' ls.length (ls.map (Value.int .i64)) ∧ w'.ownsRow B 4 1 yv' ys.length (ys.map Value.bool) ∧ Below w.heap.size w w'

theorem by_drop (m n : Nat) (h : m < n) (h9 : n ≤ 17592186044416) : ((m + (n - (m + 1))) + (m + (n - (m + 1))) / 4 + 192) * 8 ≤ 281474976710656 := by omega
theorem ln_drop (m n : Nat) (h : m < n) (h9 : n ≤ 17592186044416) : m + (n - (m + 1)) ≤ maxLen := by unfold maxLen; omega
theorem by_zero (m n : Nat) (h : m < n) (h9 : n ≤ 17592186044416) : ((m + 0) + (m + 0) / 4 + 192) * 8 ≤ 281474976710656 := by omega
theorem ln_zero (m n : Nat) (h : m < n) (h9 : n ≤ 17592186044416) : m + 0 ≤ maxLen := by unfold maxLen; omega
theorem cells_none (W : World) (size : Nat) (a : Option Addr) (c : Nat) : Cells W size (.slice a 0 c) 0 [] := ⟨by simp, a, c, rfl, .inl rfl⟩
theorem by_take (m n : Nat) (h : m < n) (h9 : n ≤ 17592186044416) : ((0 + m) + (0 + m) / 4 + 192) * 8 ≤ 281474976710656 := by omega
theorem ln_take (m n : Nat) (h : m < n) (h9 : n ≤ 17592186044416) : 0 + m ≤ maxLen := by unfold maxLen; omega

set_option maxRecDepth 100000 in
set_option maxHeartbeats 2000000 in
theorem changed_any (B : Nat) (name : ByteArray) (base size : Int) (lv yv ev : Value) (ls : List Int) (ys : List Bool) (e : GEdit) (w : World) (hB : B ≤ w.heap.size) (ol : w.ownsRow B 3 1 lv ls.length (ls.map (Value.int .i64))) (oy : w.ownsRow B 4 1 yv ys.length (ys.map Value.bool))
    (he : Ints w ev e.lines) (hlen : e.lines.length * 8 ≤ 140737488355328) (hl2 : ls.length * 8 ≤ 140737488355328) (hl3 : (ys.length + 1) * 40 ≤ 140737488355328) :
    Calls Tryz.prog 31 #[madeV name base size lv yv, .agg #[.int .i64 e.kind, ev, .int .i64 e.line]] w (LeavesChanged B name base size (stepL size ls e) (ys ++ [stepB size ls e]) w) := by
  obtain ⟨i0, hi, hz0, hz1, hz2⟩ := info_parts Tryz.infoInt
  obtain ⟨j0, hj, hy0, hy1, hy2⟩ := info_parts Tryz.infoBool
  obtain ⟨kind, els, line⟩ := e
  simp only at he hlen
  obtain ⟨la, lc, rfl⟩ := owns_form ol
  obtain ⟨ya, yc, rfl⟩ := owns_form oy
  obtain ⟨ea, ec, rfl⟩ : ∃ a c, ev = .slice a els.length c := by obtain ⟨a, c, h, _⟩ := he; exact ⟨a, c, by simpa using h⟩
  have hW : ∀ (a b c : Obj), Below w.heap.size w (((w.alloc a).alloc b).alloc c) ∧ (((w.alloc a).alloc b).alloc c).heap[w.heap.size]? = some a ∧ (((w.alloc a).alloc b).alloc c).heap[w.heap.size + 1]? = some b ∧ (((w.alloc a).alloc b).alloc c).heap[w.heap.size + 2]? = some c := by
    intro a b c
    refine ⟨(((Below.refl _ _).alloc (Nat.le_refl _) _).alloc (by simp) _).alloc (by simp; omega) _, ?_, ?_, ?_⟩
    · rw [heap_new_ne _ (by simp; omega), heap_new_ne _ (by simp)]; exact heap_new _ _
    · rw [heap_new_ne _ (by simp)]
      have := heap_new (w.alloc a) b
      rwa [World.size_alloc] at this
    · have := heap_new ((w.alloc a).alloc b) c
      rwa [World.size_alloc, World.size_alloc] at this
  obtain ⟨HB0, F0, E0, R0⟩ := hW (.cells #[.string name, .int .i64 base, .int .i64 size, .slice la ls.length lc, .slice ya ys.length yc] 26) (.cells #[.int .i64 kind, .slice ea els.length ec, .int .i64 line] 72) (.cells #[.string ⟨#[]⟩, .int .i64 0, .int .i64 0, .slice none 0 0, .slice none 0 0] 26)
  clear hW
  obtain ⟨L, hL⟩ : ∃ L, L = stepL size ls ⟨kind, els, line⟩ := ⟨_, rfl⟩
  obtain ⟨bb, hbb⟩ : ∃ bb, bb = stepB size ls ⟨kind, els, line⟩ := ⟨_, rfl⟩
  rw [← hL, ← hbb]
  have HL := Lib.hid hL
  have HBB := Lib.hid hbb
  obtain ⟨yl, hyl⟩ : ∃ yl, yl = ys.map Value.bool := ⟨_, rfl⟩
  have hyn : ys.length = yl.length := by rw [hyl]; simp
  have HYL := Lib.hid hyl
  rw [← hyl] at oy
  obtain ⟨n, hn⟩ : ∃ n, n = ys.length := ⟨_, rfl⟩
  rw [← hn] at oy hl3 hyn F0 E0 R0 HB0 ⊢
  have HN := Lib.hid hn
  have HYN := Lib.hid hyn
  clear hL hbb hyl hn hyn
  unfold madeV
  go_enter Tryz.func31, Tryz.ntmps31
  go_upto_block 0 with fail
  generalize (((w.alloc (.cells #[.string name, .int .i64 base, .int .i64 size, .slice la ls.length lc, .slice ya n yc] 26)).alloc (.cells #[.int .i64 kind, .slice ea els.length ec, .int .i64 line] 72)).alloc (.cells #[.string ⟨#[]⟩, .int .i64 0, .int .i64 0, .slice none 0 0, .slice none 0 0] 26)) = w0 at *
  go_cut [5] from 7 (fun y wx => ∃ b na nn nc, y = .bool b ∧ b = bb ∧ wx.heap[w.heap.size]? = some (.cells #[.string name, .int .i64 base, .int .i64 size, .slice na nn nc, .slice ya n yc] 26 (0, 0)) ∧ wx.heap[w.heap.size + 2]? = some (.cells #[.string ⟨#[]⟩, .int .i64 0, .int .i64 0, .slice none 0 0, .slice none 0 0] 26 (0, 0)) ∧
    wx.ownsRow B 3 1 (.slice na nn nc) (L).length ((L).map (Value.int .i64)) ∧ Below w.heap.size w wx)
  case rest =>
    obtain ⟨b, na, nn, nc, rfl, hb, F1, R1, own1, HB1⟩ := hcut
    have oy1 : wc.ownsRow B 4 1 (.slice ya n yc) n yl := owns_chg oy (Chg.of_below (M := fun _ => False) HB1) (fun _ _ => id)
    have hcw := HB1.size
    have hrl : w.heap.size + 2 < wc.heap.size := lt_of_heap R1
    have f4 : (wc.alloc (.cells #[] 4)).cell? ⟨w.heap.size, 4, none⟩ = some (.slice ya n yc) := by rw [World.cell?_alloc_lt _ _ _ (by show w.heap.size < wc.heap.size; omega), cell_of F1]; rfl
    have hsrc := Lib.hid ((owns_cells oy1).below ((Below.refl _ _).alloc (Nat.le_refl _) (.cells #[] 4)))
    subst hb
    clear F0 R0 E0 HB0 oy ol he
    go_wp2_with (at_builtin; refine wpList_append_any rfl _ _ 24 rfl w.heap.size 4 j0 (.bool false) 1 1 Tryz.underlying24 hj hy0 hy1 hy2 rfl (by decide) _ 0 [] rfl (World.ownsRow_made wc #[] 0 ?c1 (by simp [maxLen]) (by simp)) (.slice ya n yc) n yl rfl ?c2 ?c3 ?c4 ?c5 ?c6 ?_)
    case c1 => omega
    case c2 => exact hsrc.out
    case c3 => rw [HYL.out]; exact bools_one _
    case c4 => unfold maxLen; omega
    case c5 => omega
    case c6 => simp; omega
    · intro v2 w2 own2 grow2
      have K2 : Chg (fun _ => False) wc w2 := ((Chg.refl _ _).alloc _).step (Chg.of_grown (M := fun k => k = wc.heap.size) grow2 (fun k h => by simp [Value.ownBlock] at h; omega)) (fun k hk h => by omega)
      have F2 := K2.at F1 id
      have R2 := K2.at R1 id
      have L2 := owns_chg own1 K2 (fun _ _ => id)
      have B2 : Below w.heap.size w w2 := K2.below_of HB1 hcw (fun _ h => h.elim)
      have hs2 := B2.size
      obtain ⟨ya2, yc2, rfl⟩ := owns_form own2
      clear grow2 K2 F1 R1 own1 HB1 oy1 f4 hsrc
      go_wp2_with (at_builtin; refine wpList_append_any rfl _ _ 24 rfl w.heap.size 4 j0 (.bool false) 1 1 Tryz.underlying24 hj hy0 hy1 hy2 rfl (by decide) _ _ _ rfl (own2.alloc _) (.slice (some ⟨w2.heap.size, 0, none⟩) 1 1) 1 [.bool b] rfl ?c2 ?c3 ?c4 ?c5 ?c6 ?_)
      case c2 => exact cells_fresh (cs := [_]) (heap_new _ _)
      case c3 => intro u hu; simp at hu; subst hu; rfl
      case c4 => unfold maxLen; omega
      case c5 => omega
      case c6 => simp; omega
      · intro v3 w3 own3 grow3
        have K3 : Chg (fun k => (Value.slice ya2 n yc2).ownBlock = some k) w2 w3 := ((Chg.refl _ _).alloc _).trans (Chg.of_grown grow3 fun k h => h)
        have O3 : Off w2 (fun k => (Value.slice ya2 n yc2).ownBlock = some k) [3, 26] := off_row own2 (by decide)
        have F3 := K3.at F2 (fun h => O3 _ _ _ _ h F2 (by simp))
        have R3 := K3.at R2 (fun h => O3 _ _ _ _ h R2 (by simp))
        have L3 := owns_chg L2 K3 (O3.own L2 (by simp))
        have B3 : Below w.heap.size w w3 := K3.below_of B2 hs2 (fun k h => (own2.lt k h).1)
        have HO3 : Hid (∀ w', Chg (fun k => k = w.heap.size ∨ k = w.heap.size + 2) w3 w' → LeavesChanged B name base size L (ys ++ [b]) w (.returned (madeV name base size (.slice na nn nc) v3)) w') := fun w' K4 => by
          have O4 : Off w3 (fun k => k = w.heap.size ∨ k = w.heap.size + 2) [3, 4] := by
            rintro g c t fr (rfl | rfl) hh
            · rw [F3] at hh; simp at hh; rw [← hh.2.1]; decide
            · rw [R3] at hh; simp at hh; rw [← hh.2.1]; decide
          refine ⟨_, _, rfl, owns_chg L3 K4 (O4.own L3 (by simp)), ?_, K4.below_of B3 B3.size (fun k h => by omega)⟩
          rw [List.map_append, ← HYL.out, List.length_append, ← HN.out]
          exact owns_mono (owns_chg own3 K4 (O4.own own3 (by simp))) hB
        have f0 : w3.cell? ⟨w.heap.size, 0, none⟩ = some (.string name) := by rw [cell_of F3]; rfl
        have f1 : w3.cell? ⟨w.heap.size, 1, none⟩ = some (.int .i64 base) := by rw [cell_of F3]; rfl
        have f2 : w3.cell? ⟨w.heap.size, 2, none⟩ = some (.int .i64 size) := by rw [cell_of F3]; rfl
        have f3 : w3.cell? ⟨w.heap.size, 3, none⟩ = some (.slice na nn nc) := by rw [cell_of F3]; rfl
        have f4 : w3.cell? ⟨w.heap.size, 4, none⟩ = some (.slice ya n yc) := by rw [cell_of F3]; rfl
        have fz := free_of F3 4
        have r0 : w3.cell? ⟨w.heap.size + 2, 0, none⟩ = some (.string ⟨#[]⟩) := by rw [cell_of R3]; rfl
        have r1 : w3.cell? ⟨w.heap.size + 2, 1, none⟩ = some (.int .i64 0) := by rw [cell_of R3]; rfl
        have r2 : w3.cell? ⟨w.heap.size + 2, 2, none⟩ = some (.int .i64 0) := by rw [cell_of R3]; rfl
        have r3 : w3.cell? ⟨w.heap.size + 2, 3, none⟩ = some (.slice none 0 0) := by rw [cell_of R3]; rfl
        have r4 : w3.cell? ⟨w.heap.size + 2, 4, none⟩ = some (.slice none 0 0) := by rw [cell_of R3]; rfl
        have z0 := free_of R3 0
        have z1 := free_of R3 1
        have z2 := free_of R3 2
        have z3 := free_of R3 3
        have z4 := free_of R3 4
        have hfm : ∃ a c, v3 = .slice a (n + 1) c := by
          rcases own3.2 with ⟨h, h'⟩ | ⟨g, cap, cur, h, _⟩
          · omega
          · exact ⟨_, _, h⟩
        obtain ⟨ya3, yc3, rfl⟩ := hfm
        clear grow3 K3 O3 F3 R3 L3 B3 own3 own2 F2 R2 L2 B2
        go_wp2
        refine bodyPost_ret (v := madeV name base size (.slice na nn nc) (.slice ya3 (n + 1) yc3)) (by simp [results, Tryz.results31, go_sem, r0, r1, r2, r3, r4, madeV]) rfl ?_
        refine HO3.out _ ?_
        repeat (first | with_reducible exact Chg.refl _ _ | with_reducible refine Chg.set ?_ (by simp) _ | with_reducible refine Chg.drew ?_)
  case first =>
    have ol0 := owns_chg ol (Chg.of_below (M := fun _ => False) HB0) (fun _ _ => id)
    have he0 := he.below HB0
    have f2 : w0.cell? ⟨w.heap.size, 2, none⟩ = some (.int .i64 size) := by rw [cell_of F0]; rfl
    have f3 : w0.cell? ⟨w.heap.size, 3, none⟩ = some (.slice la ls.length lc) := by rw [cell_of F0]; rfl
    have e1 : w0.cell? ⟨w.heap.size + 1, 1, none⟩ = some (.slice ea els.length ec) := by rw [cell_of E0]; rfl
    have e2 : w0.cell? ⟨w.heap.size + 1, 2, none⟩ = some (.int .i64 line) := by rw [cell_of E0]; rfl
    have hs0 : w.heap.size + 2 < w0.heap.size := lt_of_heap R0
    by_cases k1 : kind = 1
    · have hb1 : bb = rise size els := by rw [HBB.out, k1]; simp [stepB]
      have hL1 : L = if rise size els then els else ls := by rw [HL.out, k1]; simp [stepL]
      subst k1
      have HB1 := Lib.hid hb1
      have HL1 := Lib.hid hL1
      have HC := Lib.hid (specRise_any _ els size w0 he0 (by omega))
      have HOL := Lib.hid ol0
      have HHE := Lib.hid he0
      clear hb1 hL1 HBB HL oy ol he he0 ol0
      go_wp2_with fail
      refine HC.out.mono ?_
      rintro e w1 ⟨rfl, rfl⟩
      rw [← HB1.out]
      cases bb with
      | true =>
        have hL2 : L = els := by rw [HL1.out, ← HB1.out]; simp
        have HL2 := Lib.hid hL2
        have g1 : (w1.alloc (.cells #[] 3)).cell? ⟨w.heap.size + 1, 1, none⟩ = some (.slice ea els.length ec) := by rw [World.cell?_alloc_lt _ _ _ (by show w.heap.size + 1 < w1.heap.size; omega)]; exact e1
        have hsrc := Lib.hid (HHE.out.cells.below ((Below.refl _ _).alloc (Nat.le_refl _) (.cells #[] 3)))
        clear hL2 HL1 HB1 HC
        go_wp2_with (at_builtin; refine wpList_append_any rfl _ _ 23 rfl w.heap.size 3 i0 (.int .i64 0) 1 8 Tryz.underlying23 hi hz0 hz1 hz2 rfl (by decide) _ 0 [] rfl (World.ownsRow_made w1 #[] 0 ?c1 (by simp [maxLen]) (by simp)) (.slice ea els.length ec) els.length (els.map (Value.int .i64)) rfl ?c2 ?c3 ?c4 ?c5 ?c6 ?_)
        case c1 => omega
        case c2 => simpa using hsrc.out
        case c3 => exact ints_one _
        case c4 => unfold maxLen; omega
        case c5 => omega
        case c6 => simp; omega
        · intro v2 w2 own2 grow2
          have K2 : Chg (fun _ => False) w1 w2 := ((Chg.refl _ _).alloc _).step (Chg.of_grown (M := fun k => k = w1.heap.size) grow2 (fun k h => by simp [Value.ownBlock] at h; omega)) (fun k hk h => by omega)
          have F2 := K2.at F0 id
          have R2 := K2.at R0 id
          have B2 : Below w.heap.size w w2 := K2.below_of HB0 (by omega) (fun _ h => h.elim)
          obtain ⟨va2, vc2, rfl⟩ := owns_form own2
          have f23 : w2.cell? ⟨w.heap.size, 3, none⟩ = some (.slice la ls.length lc) := by rw [cell_of F2]; rfl
          have z23 := free_of F2 3
          have F3 : (w2.setCell ⟨w.heap.size, 3, none⟩ (.slice va2 els.length vc2)).heap[w.heap.size]? = some (.cells #[.string name, .int .i64 base, .int .i64 size, .slice va2 els.length vc2, .slice ya n yc] 26 (0, 0)) := (heap_set F2 3 _).trans rfl
          have R3 : (w2.setCell ⟨w.heap.size, 3, none⟩ (.slice va2 els.length vc2)).heap[w.heap.size + 2]? = _ := (heap_set_ne 3 _ (by omega)).trans R2
          have B3 : Below w.heap.size w (w2.setCell ⟨w.heap.size, 3, none⟩ (.slice va2 els.length vc2)) := B2.setCell (Nat.le_refl _) _
          have O3 : (w2.setCell ⟨w.heap.size, 3, none⟩ (.slice va2 els.length vc2)).ownsRow B 3 1 (.slice va2 els.length vc2) L.length (L.map (Value.int .i64)) := by
            rw [HL2.out]
            refine owns_mono (owns_chg own2 (M := fun k => k = w.heap.size) (by refine Chg.set (Chg.refl _ _) ?_ _; simp) (fun g hg => owns_ne own2 F2 (by decide) g hg)) hB
          have HF3 := Lib.hid F3
          have HR3 := Lib.hid R3
          clear grow2 K2 F2 R2 B2 own2 F3 R3 hsrc g1 HHE HOL
          go_wp2
          go_meet
          case rel => exact ⟨true, _, _, _, rfl, rfl, HF3.out, HR3.out, O3, B3⟩
      | false =>
        have hL2 : L = ls := by rw [HL1.out, ← HB1.out]; simp
        subst hL2
        clear HL1 HB1 HC HHE
        go_wp2
        go_meet
        case rel => exact ⟨false, _, _, _, rfl, rfl, F0, R0, HOL.out, HB0⟩
    · by_cases k2 : kind = 2
      · have hb1 : bb = mergeOk ls line := by rw [HBB.out, k2]; simp [stepB]
        have hL1 : L = mergeL ls line := by rw [HL.out, k2]; simp [stepL]
        subst k2
        have HOL := Lib.hid ol0
        by_cases hok : 1 ≤ line ∧ line < ls.length
        · obtain ⟨m, rfl⟩ : ∃ m : Nat, line = m := ⟨line.toNat, by omega⟩
          have hb2 : bb = true := by rw [hb1]; simp [mergeOk]; omega
          have hL2 : L = ls.take m ++ ls.drop (m + 1) := by rw [hL1, mergeL, ← hb1, hb2, if_pos rfl, Int.toNat_natCast, List.eraseIdx_eq_take_drop_succ]
          subst hb2
          have HL2 := Lib.hid hL2
          rcases ol0.2 with ⟨_, h0⟩ | ⟨g, cap, cur, hv, hgB, hg, hnc, hcap, hcs, htake⟩
          · omega
          simp at hv
          obtain ⟨rfl, rfl⟩ := hv
          have hmax : lc ≤ 9223372036854775807 := by unfold maxLen at hcap; omega
          have hcells := Lib.hid (owned_src0 ol0)
          have i1 : (m : Int) < (ls.length : Int) := by omega
          have i2 : (m : Int) ≤ (ls.length : Int) := by omega
          have i3 : (m : Int) + 1 ≤ (ls.length : Int) := by omega
          have i0' : 1 ≤ (m : Int) := by omega
          have i9 : 0 ≤ (m : Int) := by omega
          have i5 : 0 ≤ (m : Int) + 1 := by omega
          have i6 : ((m : Int) + 1).toNat = m + 1 := by omega
          have i7 : (ls.length : Int) ≤ (lc : Int) := by omega
          have i8 : ¬ lc = m := by omega
          have i10 : (m : Int) ≤ (lc : Int) := by omega
          clear hb1 hL1 hL2 HBB HL oy ol he he0 ol0 hg hcap hcs htake hok
          have hsrcA : Hid (∀ W : World, (∀ j u, (ls.map (Value.int .i64))[j]? = some u → W.cell? ⟨g, j, none⟩ = some u) → Cells W 1 (.slice (some ⟨g, 0, none⟩) m lc) m ((ls.take m).map (Value.int .i64))) := fun W h =>
            ⟨by simp; omega, _, _, rfl, .inr ⟨g, 0, rfl, fun j u hj => by
              rw [List.map_take, List.getElem?_take] at hj
              split at hj
              · rw [Nat.zero_add]; exact h j u hj
              · cases hj⟩⟩
          have own0 : (w0.alloc (.cells #[] 3)).drew.ownsRow w0.heap.size 3 1 (.slice (some ⟨w0.heap.size, 0, none⟩) 0 0) 0 [] := (World.ownsRow_made (base := w0.heap.size) (size := 1) (e := 3) w0 #[] 0 (Nat.le_refl _) (by simp [maxLen]) (by simp)).drew
          have hgl : g < w0.heap.size := (HOL.out.lt g rfl).2
          have srcA : Cells (w0.alloc (.cells #[] 3)).drew 1 (.slice (some ⟨g, 0, none⟩) m lc) m ((ls.take m).map (Value.int .i64)) := hsrcA.out _ (fun j u hj => by
            have := hcells.out j u hj
            rw [← this]
            exact World.cell?_alloc_lt w0 _ _ hgl)
          have hm1 : m ≤ 17592186044416 := by omega
          have hm2 : m < ls.length := by omega
          have hl9 : ls.length ≤ 17592186044416 := by omega
          have byA : ((0 + m) + (0 + m) / 4 + 192) * 8 ≤ 281474976710656 := by_take _ _ hm2 hl9
          have lnA : 0 + m ≤ maxLen := ln_take _ _ hm2 hl9
          have bsA : w0.heap.size ≤ (w0.alloc (.cells #[] 3)).drew.heap.size := by show w0.heap.size ≤ (w0.alloc (.cells #[] 3)).heap.size; simp
          have srcB : Hid (∀ W : World, Chg (fun _ => False) w0 W → Cells W 1 (.slice (some ⟨g, m + 1, none⟩) (ls.length - (m + 1)) (lc - (m + 1))) (ls.length - (m + 1)) ((ls.drop (m + 1)).map (Value.int .i64))) := fun W hK => by
            refine ⟨by simp, _, _, rfl, .inr ⟨g, m + 1, rfl, fun j u hj => ?_⟩⟩
            rw [List.map_drop, List.getElem?_drop] at hj
            have := hcells.out _ _ hj
            rw [← this]
            exact World.cell?_of_block (hK.block g hgl id)
          have lnB : m + (ls.length - (m + 1)) ≤ maxLen := ln_drop _ _ hm2 hl9
          have byB : ((m + (ls.length - (m + 1))) + (m + (ls.length - (m + 1))) / 4 + 192) * 8 ≤ 281474976710656 := by_drop _ _ hm2 hl9
          have bsB : Hid (∀ W : World, Chg (fun _ => False) w0 W → w0.heap.size ≤ W.heap.size) := fun W hK => hK.size
          have hszw : w.heap.size < w0.heap.size := by omega
          have hszw1 : w.heap.size + 1 < w0.heap.size := by omega
          have f3a : (w0.alloc (.cells #[] 3)).drew.cell? ⟨w.heap.size, 3, none⟩ = some (.slice (some ⟨g, 0, none⟩) ls.length lc) := (World.cell?_alloc_lt w0 _ ⟨w.heap.size, 3, none⟩ hszw).trans f3
          have e2a : (w0.alloc (.cells #[] 3)).drew.cell? ⟨w.heap.size + 1, 2, none⟩ = some (.int .i64 m) := (World.cell?_alloc_lt w0 _ ⟨w.heap.size + 1, 2, none⟩ hszw1).trans e2
          have FIN : Hid (∀ (w3 : World) (va3 : Option Addr) (vc3 : Nat), Chg (fun _ => False) w0 w3 → w3.ownsRow w0.heap.size 3 1 (.slice va3 (m + (ls.length - (m + 1))) vc3) (m + (ls.length - (m + 1))) ((ls.take m).map (Value.int .i64) ++ (ls.drop (m + 1)).map (Value.int .i64)) →
              ∃ (b : Bool) (na : Option Addr) (nn nc : Nat), Value.bool true = .bool b ∧ b = true ∧ (w3.setCell ⟨w.heap.size, 3, none⟩ (.slice va3 (m + (ls.length - (m + 1))) vc3)).heap[w.heap.size]? = some (.cells #[.string name, .int .i64 base, .int .i64 size, .slice na nn nc, .slice ya n yc] 26 (0, 0)) ∧
                (w3.setCell ⟨w.heap.size, 3, none⟩ (.slice va3 (m + (ls.length - (m + 1))) vc3)).heap[w.heap.size + 2]? = some (.cells #[.string ⟨#[]⟩, .int .i64 0, .int .i64 0, .slice none 0 0, .slice none 0 0] 26 (0, 0)) ∧
                (w3.setCell ⟨w.heap.size, 3, none⟩ (.slice va3 (m + (ls.length - (m + 1))) vc3)).ownsRow B 3 1 (.slice na nn nc) (L).length ((L).map (Value.int .i64)) ∧ Below w.heap.size w (w3.setCell ⟨w.heap.size, 3, none⟩ (.slice va3 (m + (ls.length - (m + 1))) vc3))) := fun w3 va3 vc3 K3 own3 => by
            have F3 := K3.at F0 id
            have R3 := K3.at R0 id
            refine ⟨true, va3, m + (ls.length - (m + 1)), vc3, rfl, rfl, (heap_set F3 3 _).trans rfl, (heap_set_ne 3 _ (by omega)).trans R3, ?_, (K3.below_of HB0 (by omega) (fun _ h => h.elim)).setCell (Nat.le_refl _) _⟩
            have hll : L.length = m + (ls.length - (m + 1)) := by rw [HL2.out]; simp; omega
            rw [hll, HL2.out, List.map_append]
            exact owns_mono (owns_chg own3 (M := fun k => k = w.heap.size) (by refine Chg.set (Chg.refl _ _) ?_ _; simp) (fun g hg => owns_ne own3 F3 (by decide) g hg)) (by omega)
          by_cases hc : lc = m + 1
          · subst hc
            have h0 : Hid (m + (ls.length - (m + 1)) = m) := by show m + (ls.length - (m + 1)) = m; omega
            have hd0 : Hid (ls.drop (m + 1) = []) := List.drop_eq_nil_of_le (by omega)
            have i11 : (m : Int) ≤ (m : Int) + 1 := by omega
            have i12 : (ls.length : Int) ≤ (m : Int) + 1 := by omega
            have i4 : IntKind.i64.wrap ((m : Int) + 1) = (m : Int) + 1 := IntWalk.i64_in _ (by omega)
            go_wp2_with fail
            -- GEN A BEGIN
            refine wp_region_noPanic ?_
            refine wp_region_E (S := fun w' => w'.cell? ⟨w.heap.size, 3, none⟩ = some (.slice (some ⟨g, 0, none⟩) ls.length (m + 1)) ∧ w'.cell? ⟨w.heap.size + 1, 2, none⟩ = some (.int .i64 m)) (z := 15) (by kernel_rfl) ?_
            refine wpAnyE_take (i := 1) (oi := { dst := some 38, op := .fieldAddr 26 (.tmp 2) 3, type := 0, pos := "token.go:84", after := #[], guard := none }) (v := ?_) rfl (by kernel_rfl) (by kernel_rfl) (by kernel_rfl) (by kernel_rfl) (fun _ _ _ h => h) (Or.inl ⟨by rfl, ?_⟩) ⟨f3, e2⟩ ?_
            rotate_left
            · intro w hSw
              obtain ⟨hSw1, hSw2⟩ := hSw
              first | (go_simp; done) | (go_simp; with_reducible rfl)
            try simp only [Act.put, List.setIfInBounds_toArray, List.set_cons_zero, List.set_cons_succ]
            refine wpAnyE_take (i := 2) (oi := { dst := some 39, op := .load 23 (.tmp 38), type := 23, pos := "token.go:84", after := #[{ on := 1, ground := .data }], guard := none }) (v := ?_) rfl (by kernel_rfl) (by kernel_rfl) (by kernel_rfl) (by kernel_rfl) (fun _ _ _ h => h) (Or.inl ⟨by rfl, ?_⟩) ⟨f3, e2⟩ ?_
            rotate_left
            · intro w hSw
              obtain ⟨hSw1, hSw2⟩ := hSw
              first | (go_simp; done) | (go_simp; with_reducible rfl)
            try simp only [Act.put, List.setIfInBounds_toArray, List.set_cons_zero, List.set_cons_succ]
            refine wpAnyE_take (i := 3) (oi := { dst := some 40, op := .fieldAddr 72 (.tmp 3) 2, type := 0, pos := "token.go:84", after := #[], guard := none }) (v := ?_) rfl (by kernel_rfl) (by kernel_rfl) (by kernel_rfl) (by kernel_rfl) (fun _ _ _ h => h) (Or.inl ⟨by rfl, ?_⟩) ⟨f3, e2⟩ ?_
            rotate_left
            · intro w hSw
              obtain ⟨hSw1, hSw2⟩ := hSw
              first | (go_simp; done) | (go_simp; with_reducible rfl)
            try simp only [Act.put, List.setIfInBounds_toArray, List.set_cons_zero, List.set_cons_succ]
            refine wpAnyE_take (i := 4) (oi := { dst := some 41, op := .load 3 (.tmp 40), type := 3, pos := "token.go:84", after := #[{ on := 3, ground := .data }], guard := none }) (v := ?_) rfl (by kernel_rfl) (by kernel_rfl) (by kernel_rfl) (by kernel_rfl) (fun _ _ _ h => h) (Or.inl ⟨by rfl, ?_⟩) ⟨f3, e2⟩ ?_
            rotate_left
            · intro w hSw
              obtain ⟨hSw1, hSw2⟩ := hSw
              first | (go_simp; done) | (go_simp; with_reducible rfl)
            try simp only [Act.put, List.setIfInBounds_toArray, List.set_cons_zero, List.set_cons_succ]
            refine wpAnyE_take (i := 5) (oi := { dst := some 42, op := .slice 23 (.tmp 39) none (some (.tmp 41)) none, type := 23, pos := "token.go:84", after := #[{ on := 2, ground := .data }, { on := 4, ground := .data }], guard := none }) (v := ?_) rfl (by kernel_rfl) (by kernel_rfl) (by kernel_rfl) (by kernel_rfl) (fun _ _ _ h => h) (Or.inl ⟨by rfl, ?_⟩) ⟨f3, e2⟩ ?_
            rotate_left
            · intro w hSw
              obtain ⟨hSw1, hSw2⟩ := hSw
              first | (go_simp; done) | (go_simp; with_reducible rfl)
            try simp only [Act.put, List.setIfInBounds_toArray, List.set_cons_zero, List.set_cons_succ]
            refine wpAnyE_take (i := 7) (oi := { dst := some 44, op := .fieldAddr 26 (.tmp 2) 3, type := 0, pos := "token.go:84", after := #[], guard := none }) (v := ?_) rfl (by kernel_rfl) (by kernel_rfl) (by kernel_rfl) (by kernel_rfl) (fun _ _ _ h => h) (Or.inl ⟨by rfl, ?_⟩) ⟨f3, e2⟩ ?_
            rotate_left
            · intro w hSw
              obtain ⟨hSw1, hSw2⟩ := hSw
              first | (go_simp; done) | (go_simp; with_reducible rfl)
            try simp only [Act.put, List.setIfInBounds_toArray, List.set_cons_zero, List.set_cons_succ]
            refine wpAnyE_take (i := 8) (oi := { dst := some 45, op := .load 23 (.tmp 44), type := 23, pos := "token.go:84", after := #[{ on := 7, ground := .data }], guard := none }) (v := ?_) rfl (by kernel_rfl) (by kernel_rfl) (by kernel_rfl) (by kernel_rfl) (fun _ _ _ h => h) (Or.inl ⟨by rfl, ?_⟩) ⟨f3, e2⟩ ?_
            rotate_left
            · intro w hSw
              obtain ⟨hSw1, hSw2⟩ := hSw
              first | (go_simp; done) | (go_simp; with_reducible rfl)
            try simp only [Act.put, List.setIfInBounds_toArray, List.set_cons_zero, List.set_cons_succ]
            refine wpAnyE_take (i := 9) (oi := { dst := some 46, op := .fieldAddr 72 (.tmp 3) 2, type := 0, pos := "token.go:84", after := #[], guard := none }) (v := ?_) rfl (by kernel_rfl) (by kernel_rfl) (by kernel_rfl) (by kernel_rfl) (fun _ _ _ h => h) (Or.inl ⟨by rfl, ?_⟩) ⟨f3, e2⟩ ?_
            rotate_left
            · intro w hSw
              obtain ⟨hSw1, hSw2⟩ := hSw
              first | (go_simp; done) | (go_simp; with_reducible rfl)
            try simp only [Act.put, List.setIfInBounds_toArray, List.set_cons_zero, List.set_cons_succ]
            refine wpAnyE_take (i := 10) (oi := { dst := some 47, op := .load 3 (.tmp 46), type := 3, pos := "token.go:84", after := #[{ on := 9, ground := .data }], guard := none }) (v := ?_) rfl (by kernel_rfl) (by kernel_rfl) (by kernel_rfl) (by kernel_rfl) (fun _ _ _ h => h) (Or.inl ⟨by rfl, ?_⟩) ⟨f3, e2⟩ ?_
            rotate_left
            · intro w hSw
              obtain ⟨hSw1, hSw2⟩ := hSw
              first | (go_simp; done) | (go_simp; with_reducible rfl)
            try simp only [Act.put, List.setIfInBounds_toArray, List.set_cons_zero, List.set_cons_succ]
            refine wpAnyE_take (i := 11) (oi := { dst := some 48, op := .binOp .add 3 (.tmp 47) (.const (.int .i64 1)) 3, type := 3, pos := "token.go:84", after := #[{ on := 10, ground := .data }], guard := none }) (v := ?_) rfl (by kernel_rfl) (by kernel_rfl) (by kernel_rfl) (by kernel_rfl) (fun _ _ _ h => h) (Or.inl ⟨by rfl, ?_⟩) ⟨f3, e2⟩ ?_
            rotate_left
            · intro w hSw
              obtain ⟨hSw1, hSw2⟩ := hSw
              first | (go_simp; done) | (go_simp; with_reducible rfl)
            try simp only [Act.put, List.setIfInBounds_toArray, List.set_cons_zero, List.set_cons_succ]
            refine wpAnyE_take (i := 12) (oi := { dst := some 49, op := .slice 23 (.tmp 45) (some (.tmp 48)) none none, type := 23, pos := "token.go:84", after := #[{ on := 8, ground := .data }, { on := 11, ground := .data }], guard := none }) (v := ?_) rfl (by kernel_rfl) (by kernel_rfl) (by kernel_rfl) (by kernel_rfl) (fun _ _ _ h => h) (Or.inl ⟨by rfl, ?_⟩) ⟨f3, e2⟩ ?_
            rotate_left
            · intro w hSw
              obtain ⟨hSw1, hSw2⟩ := hSw
              first | (go_simp; done) | (go_simp; with_reducible rfl)
            try simp only [Act.put, List.setIfInBounds_toArray, List.set_cons_zero, List.set_cons_succ]
            refine wpAnyE_one (i := 0) (o := { dst := some 37, op := .buildSlice 23 0 #[], type := 23, pos := "token.go:84", after := #[], guard := none }) (by kernel_rfl) rfl rfl ?_
            intro K hK
            go_simp
            refine hK.out _ _ (.inr ⟨f3a, e2a⟩) ?_
            clear hK K
            try simp only [Act.put, List.setIfInBounds_toArray, List.set_cons_zero, List.set_cons_succ]
            refine wpAnyE_one (i := 6) (o := { dst := some 43, op := .call { callee := .builtin .append, args := #[.tmp 37, .tmp 42], argTypes := #[23, 23] }, type := 23, pos := "token.go:84", after := #[{ on := 0, ground := .data }, { on := 5, ground := .data }], guard := none }) (by kernel_rfl) rfl rfl ?_
            intro K hK
            refine wp_append_any (.tmp 37) (.tmp 42) 23 rfl w0.heap.size 3 i0 _ 1 8 Tryz.underlying23 hi hz0 hz1 hz2 rfl (by decide) (.slice (some ⟨w0.heap.size, 0, none⟩) 0 0) 0 [] rfl own0 _ m ((ls.take m).map (Value.int .i64)) rfl srcA (ints_one _) lnA byA bsA ?_
            intro v2 w2 own2 grow2
            simp only [Nat.zero_add, List.nil_append] at own2
            have K2 : Chg (fun _ => False) w0 w2 := (((Chg.refl _ _).alloc _).drew).step (Chg.of_grown (M := fun k => k = w0.heap.size) grow2 (fun k h => by simp [Value.ownBlock] at h; omega)) (fun k hk h => by omega)
            have f3' : w2.cell? ⟨w.heap.size, 3, none⟩ = some (.slice (some ⟨g, 0, none⟩) ls.length (m + 1)) := (World.cell?_of_block (K2.block w.heap.size hszw id)).trans f3
            have e2' : w2.cell? ⟨w.heap.size + 1, 2, none⟩ = some (.int .i64 m) := (World.cell?_of_block (K2.block (w.heap.size + 1) hszw1 id)).trans e2
            refine hK.out _ _ (.inr ⟨f3', e2'⟩) ?_
            clear hK K
            try simp only [Act.put, List.setIfInBounds_toArray, List.set_cons_zero, List.set_cons_succ]
            refine wpAnyE_one (i := 13) (o := { dst := some 50, op := .call { callee := .builtin .append, args := #[.tmp 43, .tmp 49], argTypes := #[23, 23] }, type := 23, pos := "token.go:84", after := #[{ on := 6, ground := .data }, { on := 12, ground := .data }, { on := 6, ground := .chain }], guard := none }) (by kernel_rfl) rfl rfl ?_
            intro K hK
            refine wp_append_any (.tmp 43) (.tmp 49) 23 rfl w0.heap.size 3 i0 _ 1 8 Tryz.underlying23 hi hz0 hz1 hz2 rfl (by decide) _ m ((ls.take m).map (Value.int .i64)) rfl own2 _ 0 [] rfl (cells_none _ 1 _ _) (fun u hu => by cases hu) (ln_zero _ _ hm2 hl9) (by_zero _ _ hm2 hl9) (bsB.out _ K2) ?_
            intro v3 w3 own3 grow3
            have K3 : Chg (fun _ => False) w0 w3 := K2.step (Chg.of_grown (M := fun k => v2.ownBlock = some k) grow3 (fun k h => h)) (fun k hk h => absurd hk (Nat.not_lt_of_le (own2.lt k h).1))
            have f3'' : w3.cell? ⟨w.heap.size, 3, none⟩ = some (.slice (some ⟨g, 0, none⟩) ls.length (m + 1)) := (World.cell?_of_block (K3.block w.heap.size hszw id)).trans f3
            have e2'' : w3.cell? ⟨w.heap.size + 1, 2, none⟩ = some (.int .i64 m) := (World.cell?_of_block (K3.block (w.heap.size + 1) hszw1 id)).trans e2
            have z3'' : w3.frozen? ⟨w.heap.size, 3, none⟩ = false := free_of (K3.at F0 id) 3
            obtain ⟨va3, vc3, rfl⟩ := owns_form own3
            refine hK.out _ _ (.inr ⟨f3'', e2''⟩) ?_
            clear hK K
            try simp only [Act.put, List.setIfInBounds_toArray, List.set_cons_zero, List.set_cons_succ]
            refine wpAnyE_take (i := 14) (oi := { dst := some 51, op := .fieldAddr 26 (.tmp 2) 3, type := 0, pos := "token.go:84", after := #[{ on := 0, ground := .phase }, { on := 1, ground := .phase }, { on := 2, ground := .phase }, { on := 3, ground := .phase }, { on := 4, ground := .phase }, { on := 5, ground := .phase }, { on := 6, ground := .phase }, { on := 7, ground := .phase }, { on := 8, ground := .phase }, { on := 9, ground := .phase }, { on := 10, ground := .phase }, { on := 11, ground := .phase }, { on := 12, ground := .phase }, { on := 13, ground := .phase }], guard := none }) (v := ?_) rfl (by kernel_rfl) (by kernel_rfl) (by kernel_rfl) (by kernel_rfl) (fun _ _ _ h => h) (Or.inl ⟨by rfl, ?_⟩) ⟨f3'', e2''⟩ ?_
            rotate_left
            · intro w hSw
              obtain ⟨hSw1, hSw2⟩ := hSw
              first | (go_simp; done) | (go_simp; with_reducible rfl)
            try simp only [Act.put, List.setIfInBounds_toArray, List.set_cons_zero, List.set_cons_succ]
            refine wpAnyE_one (i := 15) (o := { dst := none, op := .store 23 (.tmp 51) (.tmp 50), type := 0, pos := "token.go:84", after := #[{ on := 14, ground := .data }, { on := 13, ground := .data }, { on := 13, ground := .chain }, { on := 0, ground := .phase }, { on := 1, ground := .phase }, { on := 2, ground := .phase }, { on := 3, ground := .phase }, { on := 4, ground := .phase }, { on := 5, ground := .phase }, { on := 6, ground := .phase }, { on := 7, ground := .phase }, { on := 8, ground := .phase }, { on := 9, ground := .phase }, { on := 10, ground := .phase }, { on := 11, ground := .phase }, { on := 12, ground := .phase }, { on := 13, ground := .phase }], guard := none }) (by kernel_rfl) rfl rfl ?_
            intro K hK
            go_simp
            refine hK.out _ _ (.inl rfl) ?_
            clear hK K
            refine wpAnyE_done (by kernel_rfl) ?_ _
            refine NoPanic.normal ?_
            have fin := Lib.hid (FIN.out _ va3 vc3 K3 (by rw [h0.out, hd0.out]; exact own3))
            clear f3' e2' f3'' e2'' z3'' own3 grow3 own2 grow2 K2 K3
            go_wp2
            go_meet
            case rel => have h1 := fin.out; rw [h0.out] at h1; exact h1
            -- GEN A END
          · have i4 : IntKind.i64.wrap ((m : Int) + 1) = (m : Int) + 1 := IntWalk.i64_in _ (by omega)
            go_wp2_with fail
            -- GEN B BEGIN
            refine wp_region_noPanic ?_
            refine wp_region_E (S := fun w' => w'.cell? ⟨w.heap.size, 3, none⟩ = some (.slice (some ⟨g, 0, none⟩) ls.length lc) ∧ w'.cell? ⟨w.heap.size + 1, 2, none⟩ = some (.int .i64 m)) (z := 15) (by kernel_rfl) ?_
            refine wpAnyE_take (i := 1) (oi := { dst := some 38, op := .fieldAddr 26 (.tmp 2) 3, type := 0, pos := "token.go:84", after := #[], guard := none }) (v := ?_) rfl (by kernel_rfl) (by kernel_rfl) (by kernel_rfl) (by kernel_rfl) (fun _ _ _ h => h) (Or.inl ⟨by rfl, ?_⟩) ⟨f3, e2⟩ ?_
            rotate_left
            · intro w hSw
              obtain ⟨hSw1, hSw2⟩ := hSw
              first | (go_simp; done) | (go_simp; with_reducible rfl)
            try simp only [Act.put, List.setIfInBounds_toArray, List.set_cons_zero, List.set_cons_succ]
            refine wpAnyE_take (i := 2) (oi := { dst := some 39, op := .load 23 (.tmp 38), type := 23, pos := "token.go:84", after := #[{ on := 1, ground := .data }], guard := none }) (v := ?_) rfl (by kernel_rfl) (by kernel_rfl) (by kernel_rfl) (by kernel_rfl) (fun _ _ _ h => h) (Or.inl ⟨by rfl, ?_⟩) ⟨f3, e2⟩ ?_
            rotate_left
            · intro w hSw
              obtain ⟨hSw1, hSw2⟩ := hSw
              first | (go_simp; done) | (go_simp; with_reducible rfl)
            try simp only [Act.put, List.setIfInBounds_toArray, List.set_cons_zero, List.set_cons_succ]
            refine wpAnyE_take (i := 3) (oi := { dst := some 40, op := .fieldAddr 72 (.tmp 3) 2, type := 0, pos := "token.go:84", after := #[], guard := none }) (v := ?_) rfl (by kernel_rfl) (by kernel_rfl) (by kernel_rfl) (by kernel_rfl) (fun _ _ _ h => h) (Or.inl ⟨by rfl, ?_⟩) ⟨f3, e2⟩ ?_
            rotate_left
            · intro w hSw
              obtain ⟨hSw1, hSw2⟩ := hSw
              first | (go_simp; done) | (go_simp; with_reducible rfl)
            try simp only [Act.put, List.setIfInBounds_toArray, List.set_cons_zero, List.set_cons_succ]
            refine wpAnyE_take (i := 4) (oi := { dst := some 41, op := .load 3 (.tmp 40), type := 3, pos := "token.go:84", after := #[{ on := 3, ground := .data }], guard := none }) (v := ?_) rfl (by kernel_rfl) (by kernel_rfl) (by kernel_rfl) (by kernel_rfl) (fun _ _ _ h => h) (Or.inl ⟨by rfl, ?_⟩) ⟨f3, e2⟩ ?_
            rotate_left
            · intro w hSw
              obtain ⟨hSw1, hSw2⟩ := hSw
              first | (go_simp; done) | (go_simp; with_reducible rfl)
            try simp only [Act.put, List.setIfInBounds_toArray, List.set_cons_zero, List.set_cons_succ]
            refine wpAnyE_take (i := 5) (oi := { dst := some 42, op := .slice 23 (.tmp 39) none (some (.tmp 41)) none, type := 23, pos := "token.go:84", after := #[{ on := 2, ground := .data }, { on := 4, ground := .data }], guard := none }) (v := ?_) rfl (by kernel_rfl) (by kernel_rfl) (by kernel_rfl) (by kernel_rfl) (fun _ _ _ h => h) (Or.inl ⟨by rfl, ?_⟩) ⟨f3, e2⟩ ?_
            rotate_left
            · intro w hSw
              obtain ⟨hSw1, hSw2⟩ := hSw
              first | (go_simp; done) | (go_simp; with_reducible rfl)
            try simp only [Act.put, List.setIfInBounds_toArray, List.set_cons_zero, List.set_cons_succ]
            refine wpAnyE_take (i := 7) (oi := { dst := some 44, op := .fieldAddr 26 (.tmp 2) 3, type := 0, pos := "token.go:84", after := #[], guard := none }) (v := ?_) rfl (by kernel_rfl) (by kernel_rfl) (by kernel_rfl) (by kernel_rfl) (fun _ _ _ h => h) (Or.inl ⟨by rfl, ?_⟩) ⟨f3, e2⟩ ?_
            rotate_left
            · intro w hSw
              obtain ⟨hSw1, hSw2⟩ := hSw
              first | (go_simp; done) | (go_simp; with_reducible rfl)
            try simp only [Act.put, List.setIfInBounds_toArray, List.set_cons_zero, List.set_cons_succ]
            refine wpAnyE_take (i := 8) (oi := { dst := some 45, op := .load 23 (.tmp 44), type := 23, pos := "token.go:84", after := #[{ on := 7, ground := .data }], guard := none }) (v := ?_) rfl (by kernel_rfl) (by kernel_rfl) (by kernel_rfl) (by kernel_rfl) (fun _ _ _ h => h) (Or.inl ⟨by rfl, ?_⟩) ⟨f3, e2⟩ ?_
            rotate_left
            · intro w hSw
              obtain ⟨hSw1, hSw2⟩ := hSw
              first | (go_simp; done) | (go_simp; with_reducible rfl)
            try simp only [Act.put, List.setIfInBounds_toArray, List.set_cons_zero, List.set_cons_succ]
            refine wpAnyE_take (i := 9) (oi := { dst := some 46, op := .fieldAddr 72 (.tmp 3) 2, type := 0, pos := "token.go:84", after := #[], guard := none }) (v := ?_) rfl (by kernel_rfl) (by kernel_rfl) (by kernel_rfl) (by kernel_rfl) (fun _ _ _ h => h) (Or.inl ⟨by rfl, ?_⟩) ⟨f3, e2⟩ ?_
            rotate_left
            · intro w hSw
              obtain ⟨hSw1, hSw2⟩ := hSw
              first | (go_simp; done) | (go_simp; with_reducible rfl)
            try simp only [Act.put, List.setIfInBounds_toArray, List.set_cons_zero, List.set_cons_succ]
            refine wpAnyE_take (i := 10) (oi := { dst := some 47, op := .load 3 (.tmp 46), type := 3, pos := "token.go:84", after := #[{ on := 9, ground := .data }], guard := none }) (v := ?_) rfl (by kernel_rfl) (by kernel_rfl) (by kernel_rfl) (by kernel_rfl) (fun _ _ _ h => h) (Or.inl ⟨by rfl, ?_⟩) ⟨f3, e2⟩ ?_
            rotate_left
            · intro w hSw
              obtain ⟨hSw1, hSw2⟩ := hSw
              first | (go_simp; done) | (go_simp; with_reducible rfl)
            try simp only [Act.put, List.setIfInBounds_toArray, List.set_cons_zero, List.set_cons_succ]
            refine wpAnyE_take (i := 11) (oi := { dst := some 48, op := .binOp .add 3 (.tmp 47) (.const (.int .i64 1)) 3, type := 3, pos := "token.go:84", after := #[{ on := 10, ground := .data }], guard := none }) (v := ?_) rfl (by kernel_rfl) (by kernel_rfl) (by kernel_rfl) (by kernel_rfl) (fun _ _ _ h => h) (Or.inl ⟨by rfl, ?_⟩) ⟨f3, e2⟩ ?_
            rotate_left
            · intro w hSw
              obtain ⟨hSw1, hSw2⟩ := hSw
              first | (go_simp; done) | (go_simp; with_reducible rfl)
            try simp only [Act.put, List.setIfInBounds_toArray, List.set_cons_zero, List.set_cons_succ]
            refine wpAnyE_take (i := 12) (oi := { dst := some 49, op := .slice 23 (.tmp 45) (some (.tmp 48)) none none, type := 23, pos := "token.go:84", after := #[{ on := 8, ground := .data }, { on := 11, ground := .data }], guard := none }) (v := ?_) rfl (by kernel_rfl) (by kernel_rfl) (by kernel_rfl) (by kernel_rfl) (fun _ _ _ h => h) (Or.inl ⟨by rfl, ?_⟩) ⟨f3, e2⟩ ?_
            rotate_left
            · intro w hSw
              obtain ⟨hSw1, hSw2⟩ := hSw
              first | (go_simp; done) | (go_simp; with_reducible rfl)
            try simp only [Act.put, List.setIfInBounds_toArray, List.set_cons_zero, List.set_cons_succ]
            refine wpAnyE_one (i := 0) (o := { dst := some 37, op := .buildSlice 23 0 #[], type := 23, pos := "token.go:84", after := #[], guard := none }) (by kernel_rfl) rfl rfl ?_
            intro K hK
            go_simp
            refine hK.out _ _ (.inr ⟨f3a, e2a⟩) ?_
            clear hK K
            try simp only [Act.put, List.setIfInBounds_toArray, List.set_cons_zero, List.set_cons_succ]
            refine wpAnyE_one (i := 6) (o := { dst := some 43, op := .call { callee := .builtin .append, args := #[.tmp 37, .tmp 42], argTypes := #[23, 23] }, type := 23, pos := "token.go:84", after := #[{ on := 0, ground := .data }, { on := 5, ground := .data }], guard := none }) (by kernel_rfl) rfl rfl ?_
            intro K hK
            refine wp_append_any (.tmp 37) (.tmp 42) 23 rfl w0.heap.size 3 i0 _ 1 8 Tryz.underlying23 hi hz0 hz1 hz2 rfl (by decide) (.slice (some ⟨w0.heap.size, 0, none⟩) 0 0) 0 [] rfl own0 _ m ((ls.take m).map (Value.int .i64)) rfl srcA (ints_one _) lnA byA bsA ?_
            intro v2 w2 own2 grow2
            simp only [Nat.zero_add, List.nil_append] at own2
            have K2 : Chg (fun _ => False) w0 w2 := (((Chg.refl _ _).alloc _).drew).step (Chg.of_grown (M := fun k => k = w0.heap.size) grow2 (fun k h => by simp [Value.ownBlock] at h; omega)) (fun k hk h => by omega)
            have f3' : w2.cell? ⟨w.heap.size, 3, none⟩ = some (.slice (some ⟨g, 0, none⟩) ls.length lc) := (World.cell?_of_block (K2.block w.heap.size hszw id)).trans f3
            have e2' : w2.cell? ⟨w.heap.size + 1, 2, none⟩ = some (.int .i64 m) := (World.cell?_of_block (K2.block (w.heap.size + 1) hszw1 id)).trans e2
            refine hK.out _ _ (.inr ⟨f3', e2'⟩) ?_
            clear hK K
            try simp only [Act.put, List.setIfInBounds_toArray, List.set_cons_zero, List.set_cons_succ]
            refine wpAnyE_one (i := 13) (o := { dst := some 50, op := .call { callee := .builtin .append, args := #[.tmp 43, .tmp 49], argTypes := #[23, 23] }, type := 23, pos := "token.go:84", after := #[{ on := 6, ground := .data }, { on := 12, ground := .data }, { on := 6, ground := .chain }], guard := none }) (by kernel_rfl) rfl rfl ?_
            intro K hK
            refine wp_append_any (.tmp 43) (.tmp 49) 23 rfl w0.heap.size 3 i0 _ 1 8 Tryz.underlying23 hi hz0 hz1 hz2 rfl (by decide) _ m ((ls.take m).map (Value.int .i64)) rfl own2 _ (ls.length - (m + 1)) ((ls.drop (m + 1)).map (Value.int .i64)) rfl (srcB.out _ K2) (ints_one _) lnB byB (bsB.out _ K2) ?_
            intro v3 w3 own3 grow3
            have K3 : Chg (fun _ => False) w0 w3 := K2.step (Chg.of_grown (M := fun k => v2.ownBlock = some k) grow3 (fun k h => h)) (fun k hk h => absurd hk (Nat.not_lt_of_le (own2.lt k h).1))
            have f3'' : w3.cell? ⟨w.heap.size, 3, none⟩ = some (.slice (some ⟨g, 0, none⟩) ls.length lc) := (World.cell?_of_block (K3.block w.heap.size hszw id)).trans f3
            have e2'' : w3.cell? ⟨w.heap.size + 1, 2, none⟩ = some (.int .i64 m) := (World.cell?_of_block (K3.block (w.heap.size + 1) hszw1 id)).trans e2
            have z3'' : w3.frozen? ⟨w.heap.size, 3, none⟩ = false := free_of (K3.at F0 id) 3
            obtain ⟨va3, vc3, rfl⟩ := owns_form own3
            refine hK.out _ _ (.inr ⟨f3'', e2''⟩) ?_
            clear hK K
            try simp only [Act.put, List.setIfInBounds_toArray, List.set_cons_zero, List.set_cons_succ]
            refine wpAnyE_take (i := 14) (oi := { dst := some 51, op := .fieldAddr 26 (.tmp 2) 3, type := 0, pos := "token.go:84", after := #[{ on := 0, ground := .phase }, { on := 1, ground := .phase }, { on := 2, ground := .phase }, { on := 3, ground := .phase }, { on := 4, ground := .phase }, { on := 5, ground := .phase }, { on := 6, ground := .phase }, { on := 7, ground := .phase }, { on := 8, ground := .phase }, { on := 9, ground := .phase }, { on := 10, ground := .phase }, { on := 11, ground := .phase }, { on := 12, ground := .phase }, { on := 13, ground := .phase }], guard := none }) (v := ?_) rfl (by kernel_rfl) (by kernel_rfl) (by kernel_rfl) (by kernel_rfl) (fun _ _ _ h => h) (Or.inl ⟨by rfl, ?_⟩) ⟨f3'', e2''⟩ ?_
            rotate_left
            · intro w hSw
              obtain ⟨hSw1, hSw2⟩ := hSw
              first | (go_simp; done) | (go_simp; with_reducible rfl)
            try simp only [Act.put, List.setIfInBounds_toArray, List.set_cons_zero, List.set_cons_succ]
            refine wpAnyE_one (i := 15) (o := { dst := none, op := .store 23 (.tmp 51) (.tmp 50), type := 0, pos := "token.go:84", after := #[{ on := 14, ground := .data }, { on := 13, ground := .data }, { on := 13, ground := .chain }, { on := 0, ground := .phase }, { on := 1, ground := .phase }, { on := 2, ground := .phase }, { on := 3, ground := .phase }, { on := 4, ground := .phase }, { on := 5, ground := .phase }, { on := 6, ground := .phase }, { on := 7, ground := .phase }, { on := 8, ground := .phase }, { on := 9, ground := .phase }, { on := 10, ground := .phase }, { on := 11, ground := .phase }, { on := 12, ground := .phase }, { on := 13, ground := .phase }], guard := none }) (by kernel_rfl) rfl rfl ?_
            intro K hK
            go_simp
            refine hK.out _ _ (.inl rfl) ?_
            clear hK K
            refine wpAnyE_done (by kernel_rfl) ?_ _
            refine NoPanic.normal ?_
            have fin := Lib.hid (FIN.out _ _ _ K3 own3)
            clear f3' e2' f3'' e2'' z3'' own3 grow3 own2 grow2 K2 K3
            go_wp2
            go_meet
            case rel => exact fin.out
            -- GEN B END
        · have hb2 : bb = false := by rw [hb1]; simp [mergeOk]; omega
          have hL2 : L = ls := by rw [hL1, mergeL, ← hb1, hb2]; simp
          subst hb2
          subst hL2
          clear hb1 hL1 HBB HL oy ol he he0 ol0
          by_cases h1 : 1 ≤ line
          · have h2 : (L.length : Int) ≤ line := by omega
            clear hok
            go_wp2
            all_goals
              go_meet
              case rel => exact ⟨_, _, _, _, rfl, by simp; omega, F0, R0, HOL.out, HB0⟩
          · have h2 : line < 1 := by omega
            clear hok h1
            go_wp2
            go_meet
            case rel => exact ⟨false, _, _, _, rfl, rfl, F0, R0, HOL.out, HB0⟩
      · have hb1 : bb = true := by rw [HBB.out]; simp [stepB, k1, k2]
        have hL1 : L = ls := by rw [HL.out]; simp [stepL, k1, k2]
        subst hb1
        subst hL1
        have hk1 : (kind == 1) = false := by simpa using k1
        have hk2 : (kind == 2) = false := by simpa using k2
        have HOL := Lib.hid ol0
        clear HBB HL oy ol he he0 ol0
        go_wp2
        go_meet
        case rel => exact ⟨true, _, _, _, rfl, rfl, F0, R0, HOL.out, HB0⟩
end Go.Proofs.YtmijedghihebjaaGreatFmt
