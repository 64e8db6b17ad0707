/- impl.Added and spec.Added tell the same lines; laws.FnAdded returns true. -/
import Derived.Test.YtboccjnlfehgoaaFmtInts
namespace Go.Proofs.YtboccjnlfehgoaaFmt
open Go.RowKit Go.MuLone Go.RwLone

/-- The lines behind an AddLine for each offset. -/
def addedL (size : Int) (os : List Int) : List Int := os.foldl (addL size) [0]

theorem addL_len (size : Int) (ls : List Int) (x : Int) : (addL size ls x).length ≤ ls.length + 1 ∧ ls.length ≤ (addL size ls x).length := by unfold addL; split <;> simp
theorem foldl_len (size : Int) (os ls : List Int) : (os.foldl (addL size) ls).length ≤ ls.length + os.length ∧ ls.length ≤ (os.foldl (addL size) ls).length := by
  induction os generalizing ls with
  | nil => simp
  | cons x os ih =>
    have := ih (addL size ls x)
    have h2 := addL_len size ls x
    simp only [List.foldl_cons, List.length_cons]
    omega
theorem addedL_len (size : Int) (os : List Int) : (addedL size os).length ≤ os.length + 1 ∧ 1 ≤ (addedL size os).length := by
  have := foldl_len size os [0]
  simp only [addedL] at *
  simp at this
  omega
theorem addedL_snoc (size : Int) (os : List Int) (k : Nat) (h : k < os.length) : addedL size (os.take (k + 1)) = addL size (addedL size (os.take k)) (os.getD k 0) := by
  unfold addedL
  rw [List.take_succ_eq_append_getElem h, List.foldl_append]
  simp [List.getD_eq_getElem?_getD, h]

/-- What a function that hands back a new slice leaves. -/
def NewInts (ls : List Int) (w : World) (e : Ending) (w' : World) : Prop := ∃ v, e = .returned v ∧ w'.ownsRow w.heap.size 3 1 v ls.length (ls.map (Value.int .i64)) ∧ Below w.heap.size w w'

theorem ints_oneCell (ls : List Int) : ∀ u ∈ ls.map (Value.int .i64), u.oneCell' = true := by
  intro u hu
  obtain ⟨x, _, rfl⟩ := List.mem_map.1 hu
  rfl

theorem owned_src {w : World} {B : Nat} {e : TypeId} {g n cap : Nat} {xs : List Value} (h : w.ownsRow B e 1 (.slice (some ⟨g, 0, none⟩) n cap) n xs) : ∀ j u, xs[j]? = some u → w.cell? ((⟨g, 0, none⟩ : Addr).add j) = some u := h.cells (g := g) rfl

set_option maxRecDepth 100000 in
set_option maxHeartbeats 1000000 in
theorem implAdded_any (ov : Value) (os : List Int) (size : Int) (w : World) (ho : Ints w ov os) (hlen : (os.length + 1) * 8 ≤ 140737488351240) (g1 : 1 ≤ size) (g2 : size ≤ 1099511627776) :
    Calls Tryf.prog 15 #[.int .i64 size, ov] w (NewInts (addedL size os) w) := by
  obtain ⟨i0, hi, hz0, hz1, hz2⟩ := info_parts Tryf.infoInt
  obtain ⟨a, ca, rfl, ka⟩ := ho.cell
  have HA := Lib.hid ka
  clear ka ho
  go_enter Tryf.func15, Tryf.ntmps15
  go_wp2_with fail
  refine (newFileSet_any w).mono ?_
  rintro e w1 ⟨rfl, hS1, hb1⟩
  go_wp2_with fail
  refine (addFile_any w.heap.size 1 .nil none ⟨#[]⟩ (-1) 1 size w1 ⟨hS1, True.intro, True.intro, by simp [T.nodes]⟩ (by simp [T.nodes]) (by simp [T.files]) (.inl ⟨by omega, rfl⟩) (by omega) (by omega) (by omega) (by omega) g2).mono ?_
  rintro e w2 ⟨fb, lb, t', x, rfl, q1, q2, q3, hF, hL, hS, _, _, K2⟩
  have hz := hb1.size
  have hb2 : Below w.heap.size w w2 := hb1.trans (K2.below hz (by rintro i (rfl | h); omega; simp [T.nodes] at h))
  have FS0 : FileSt w2 w.heap.size fb ⟨#[]⟩ 1 size (.slice (some ⟨lb, 0, none⟩) 1 1) (addedL size (os.take 0)) := by
    refine ⟨hF, ?_, by simp [addedL, Inc], by simp [addedL], by simp [addedL]⟩
    exact ⟨by simp [addedL], .inr ⟨lb, 1, _, rfl, by omega, hL, by simp [addedL], by simp [maxLen], by simp, by simp [addedL]⟩⟩
  have hfb : w.heap.size ≤ fb := by omega
  clear hS1 hb1 hS K2 hF hL q2 q3 hz
  go_wp2_with fail
  go_loopg [13] os.length (fun k v wr => ∃ i : Nat, v = .int .i64 i ∧ i ≤ os.length ∧ k = os.length - i ∧ Below w.heap.size w wr ∧ ∃ lv, FileSt wr w.heap.size fb ⟨#[]⟩ 1 size lv (addedL size (os.take i)))
  case atStart => exact ⟨0, rfl, by omega, by omega, hb2, _, FS0⟩
  case round =>
    obtain ⟨i, rfl, hi', rfl, hbr, lv, FS⟩ := hrel
    clear FS0 hb2
    by_cases hlt : i < os.length
    · have hne : ¬ os = [] := fun e => by rw [e] at hlt; simp at hlt
      obtain ⟨g, o, rfl, h⟩ := HA.out.resolve_left hne
      have k1 := h i hlt
      have k2 := (hbr.cell (p := ⟨g, o + i, none⟩) (World.block_lt_of_cell? w _ k1)).trans k1
      have hl := addedL_len size (os.take i)
      have hl' : (os.take i).length ≤ i := List.length_take_le _ _
      have HN := Lib.hid (addedL_snoc size os i hlt)
      clear h k1 hne
      generalize os.getD i 0 = y at *
      go_wp2_with fail
      refine (addLine_any w.heap.size fb ⟨#[]⟩ 1 size lv _ y wr FS (fun e => by rw [e] at hl; simp at hl) hfb (by omega)).mono ?_
      rintro e w3 ⟨rfl, ⟨lv', FS'⟩, hb3⟩
      rw [← HN.out] at FS'
      have hb4 := hbr.trans hb3
      clear FS k2 hbr hb3 HN hl
      go_wp2
      go_roundg (os.length - (i + 1))
      case measure => omega
      case rel => exact ⟨i + 1, by go_num, by omega, rfl, hb4, lv', FS'⟩
    · have hi2 : i = os.length := by omega
      subst hi2
      rw [List.take_length] at FS
      have hl := addedL_len size os
      obtain ⟨a', cap', rfl⟩ := owns_form FS.own
      have hsz := hbr.size
      rcases FS.own.2 with ⟨_, h0⟩ | ⟨g, cap, cur, hv, hgB, hg, hcap⟩
      · omega
      simp at hv
      obtain ⟨rfl, rfl⟩ := hv
      have own := FS.own
      have hcells := owned_src own
      obtain ⟨L, hL⟩ : ∃ L, L = addedL size os := ⟨_, rfl⟩
      rw [← hL] at FS hl own hcells
      have EL := Lib.hid hL
      clear hL hg hcap hlt
      go_wp2_with fail
      refine (lines_any fb _ _ _ _ _ _ _ (FS.file.chg (M := fun _ => False) ((Chg.refl _ _).alloc _) id)).mono ?_
      rintro e w3 ⟨rfl, rfl⟩
      go_wp2_with (at_builtin; refine wpList_append_own _ rfl _ _ 28 rfl w.heap.size 3 i0 (.int .i64 0) 1 8 Tryf.underlying28 hi hz0 hz1 hz2 rfl (by decide) _ 0 [] rfl (World.ownsRow_made wr #[] 0 hsz (by simp [maxLen]) (by simp)) ⟨g, 0, none⟩ L.length cap' (L.map (Value.int .i64)) rfl ?c1 ?c2 ?c3 ?c4 ?c5 ?c6 ?_)
      case c1 => simp
      case c2 => intro j u hj; have := hcells j u hj; rw [← this]; exact World.cell?_alloc_lt _ _ _ (World.block_lt_of_cell? _ _ this)
      case c3 => exact ints_oneCell _
      case c4 => unfold maxLen; omega
      case c5 => omega
      case c6 => simp; omega
      · intro v' w3 own3 grow3 _
        have hb3 : Below w.heap.size w w3 := (hbr.alloc hsz _).grown grow3 (by simp; omega) (fun k hk => by simp [Value.ownBlock] at hk; omega)
        obtain ⟨a'', cap'', rfl⟩ := owns_form own3
        clear own hcells FS grow3 hbr
        go_wp2
        go_ret
        refine ⟨_, rfl, ?_, hb3⟩
        rw [← EL.out]
        exact own3

set_option maxRecDepth 100000 in
set_option maxHeartbeats 1000000 in
theorem specAdded_any (ov : Value) (os : List Int) (size : Int) (w : World) (ho : Ints w ov os) (hlen : (os.length + 1) * 8 ≤ 140737488351240) :
    Calls Tryf.prog 16 #[.int .i64 size, ov] w (NewInts (addedL size os) w) := by
  obtain ⟨i0, hi, hz0, hz1, hz2⟩ := info_parts Tryf.infoInt
  obtain ⟨a, ca, rfl, ka⟩ := ho.cell
  have HA := Lib.hid ka
  clear ka ho
  have own0 : (w.alloc (.cells #[.int .i64 0] 3)).ownsRow w.heap.size 3 1 (.slice (some ⟨w.heap.size, 0, none⟩) 1 1) (addedL size (os.take 0)).length ((addedL size (os.take 0)).map (Value.int .i64)) :=
    ⟨by simp [addedL], .inr ⟨w.heap.size, 1, _, rfl, Nat.le_refl _, heap_new _ _, by simp [addedL], by simp [maxLen], by simp, by simp [addedL]⟩⟩
  have hb0 : Below w.heap.size w (w.alloc (.cells #[.int .i64 0] 3)) := (Below.refl _ _).alloc (Nat.le_refl _) _
  go_enter Tryf.func16, Tryf.ntmps16
  go_wp2_with fail
  go_loopg [11, 5] os.length (fun k v lv wr => ∃ i : Nat, v = .int .i64 i ∧ i ≤ os.length ∧ k = os.length - i ∧ Below w.heap.size w wr ∧ wr.ownsRow w.heap.size 3 1 lv (addedL size (os.take i)).length ((addedL size (os.take i)).map (Value.int .i64)))
  case atStart => exact ⟨0, rfl, by omega, by omega, hb0, own0⟩
  case round =>
    obtain ⟨i, rfl, hi', rfl, hbr, own⟩ := hrel
    clear own0 hb0
    have hl := addedL_len size (os.take i)
    have hl' : (os.take i).length ≤ i := List.length_take_le _ _
    rcases own.2 with ⟨_, h0⟩ | ⟨g0, cap, cur, rfl, hgB, hg, hcap⟩
    · omega
    have hsz := hbr.size
    by_cases hlt : i < os.length
    · have hne : ¬ os = [] := fun e => by rw [e] at hlt; simp at hlt
      obtain ⟨g, o, rfl, h⟩ := HA.out.resolve_left hne
      have k1 := h i hlt
      have k2 := (hbr.cell (p := ⟨g, o + i, none⟩) (World.block_lt_of_cell? w _ k1)).trans k1
      have hN := addedL_snoc size os i hlt
      clear h k1 hne
      generalize os.getD i 0 = y at *
      obtain ⟨L, hL⟩ : ∃ L, L = addedL size (os.take i) := ⟨_, rfl⟩
      rw [← hL] at own hl hN ⊢
      obtain ⟨m, hm⟩ : ∃ m, L.length = m + 1 := ⟨L.length - 1, by omega⟩
      have k3 := owns_cell own m (by omega)
      obtain ⟨z, hzz⟩ : ∃ z, z = L.getD m 0 := ⟨_, rfl⟩
      rw [← hzz] at k3
      have hN2 : addedL size (os.take (i + 1)) = if z < y ∧ y < size then L ++ [y] else L := by rw [hN, addL, hm, hzz]; rfl
      have HN := Lib.hid hN2
      have Hm := Lib.hid hm
      rw [hm] at own ⊢
      have b1 : m ≤ 17592186044414 := by omega
      clear hN hL hg hcap hm hzz hN2 hl hl'
      by_cases h1 : z < y
      · by_cases h2 : y < size
        · go_wp2_with (at_builtin; refine wpList_append_own _ rfl _ _ 28 rfl w.heap.size 3 i0 (.int .i64 0) 1 8 Tryf.underlying28 hi hz0 hz1 hz2 rfl (by decide) _ _ _ rfl (own.alloc _) ⟨wr.heap.size, 0, none⟩ 1 1 [.int .i64 y] rfl rfl ?c1 ?c2 ?c3 ?c4 ?c5 ?_)
          case c1 =>
            intro j u hj
            match j, hj with
            | 0, hj => simp at hj; subst hj; simp [Addr.add]
          case c2 => intro u hu; simp at hu; subst hu; rfl
          case c3 => unfold maxLen; omega
          case c4 => omega
          case c5 => simp; omega
          · intro v' w3 own3 grow3 _
            have hb3 : Below w.heap.size w w3 := (hbr.alloc hsz _).grown grow3 (by simp; omega) (fun k hk => by simp [Value.ownBlock] at hk; omega)
            have own4 : w3.ownsRow w.heap.size 3 1 v' (addedL size (os.take (i + 1))).length ((addedL size (os.take (i + 1))).map (Value.int .i64)) := by
              rw [HN.out, if_pos ⟨h1, h2⟩]
              simpa [Hm.out] using own3
            obtain ⟨a'', cap'', rfl⟩ := owns_form own3
            clear own grow3 hbr k2 k3 own3
            go_wp2
            go_roundg (os.length - (i + 1))
            case measure => omega
            case rel => exact ⟨i + 1, by go_num, by omega, rfl, hb3, own4⟩
        · have h2' : size ≤ y := by omega
          have own4 : wr.ownsRow w.heap.size 3 1 (.slice (some ⟨g0, 0, none⟩) (m + 1) cap) (addedL size (os.take (i + 1))).length ((addedL size (os.take (i + 1))).map (Value.int .i64)) := by
            rw [HN.out, if_neg (by omega), Hm.out]
            exact own
          clear h2 own
          go_wp2
          go_roundg (os.length - (i + 1))
          case measure => omega
          case rel => exact ⟨i + 1, by go_num, by omega, rfl, hbr, own4⟩
      · have h1' : y ≤ z := by omega
        have own4 : wr.ownsRow w.heap.size 3 1 (.slice (some ⟨g0, 0, none⟩) (m + 1) cap) (addedL size (os.take (i + 1))).length ((addedL size (os.take (i + 1))).map (Value.int .i64)) := by
          rw [HN.out, if_neg (by omega), Hm.out]
          exact own
        clear h1 own
        go_wp2
        go_roundg (os.length - (i + 1))
        case measure => omega
        case rel => exact ⟨i + 1, by go_num, by omega, rfl, hbr, own4⟩
    · have hi2 : i = os.length := by omega
      subst hi2
      rw [List.take_length] at own ⊢
      have hlt2 : ¬ ((os.length : Int) < (os.length : Int)) := by omega
      clear hlt hg hcap hl
      go_wp2
      go_ret
      exact ⟨_, rfl, own, hbr⟩

theorem NewInts.ints {ls : List Int} {w w' : World} {v : Value} (h : w'.ownsRow w.heap.size 3 1 v ls.length (ls.map (Value.int .i64))) : Ints w' v ls := owns_reads h

set_option maxRecDepth 100000 in
set_option maxHeartbeats 1000000 in
theorem fnAdded_walk (ov : Value) (os : List Int) (size : Int) (w : World) (ho : Ints w ov os) (hlen : (os.length + 1) * 8 ≤ 140737488351240) :
    Calls Tryf.prog 4 #[.int .i64 size, ov] w fun e w' => e = .returned (.bool true) ∧ Below w.heap.size w w' := by
  have hb := Below.refl w.heap.size w
  by_cases g1 : 1 ≤ size
  · by_cases g2 : size ≤ 1099511627776
    · go_enter Tryf.func4, Tryf.ntmps4
      go_wp2_with fail
      refine (implAdded_any ov os size w ho hlen g1 g2).mono ?_
      rintro e w1 ⟨v1, rfl, own1, hb1⟩
      go_wp2_with fail
      refine (specAdded_any ov os size w1 (ho.below hb1) hlen).mono ?_
      rintro e w2 ⟨v2, rfl, own2, hb2⟩
      go_wp2_with fail
      refine (ints_same v1 v2 (addedL size os) w2 ((owns_reads own1).below hb2) (owns_reads own2) (by have := addedL_len size os; omega)).mono ?_
      rintro e w3 ⟨rfl, n, rfl⟩
      have hbb : Below w.heap.size w (w2.drewN n) := below_drewN (hb1.trans (hb2.mono hb1.size)) n
      clear own1 own2 hb1 hb2
      go_wp2
      go_ret
      exact ⟨rfl, hbb⟩
    · have g3 : 1099511627776 < size := by omega
      clear g2 ho
      go_enter Tryf.func4, Tryf.ntmps4
      go_wp2
      go_ret
      exact ⟨rfl, hb⟩
  · have g3 : size < 1 := by omega
    clear g1 ho
    go_enter Tryf.func4, Tryf.ntmps4
    go_wp2
    go_ret
    exact ⟨rfl, hb⟩
end Go.Proofs.YtboccjnlfehgoaaFmt
