/- impl.Added and spec.Added tell the same lines; laws.FnAdded returns true. -/
import Derived.Test.YtgehgiafhfgacaaFmtInts
namespace Go.Proofs.YtgehgiafhfgacaaFmt
open Go.RowKit Go.MuLone Go.RwLone

/-- The lines behind an AddLine for each offset. -/
def addedL (size : Int) (os : List Int) : List Int := os.foldl (addL size) [0]

theorem addL_len (size : Int) (ls : List Int) (x : Int) : (addL size ls x).length ≤ ls.length + 1 ∧ ls.length ≤ (addL size ls x).length := by unfold addL; split <;> simp
theorem foldl_len (size : Int) (os ls : List Int) : (os.foldl (addL size) ls).length ≤ ls.length + os.length ∧ ls.length ≤ (os.foldl (addL size) ls).length := by
  induction os generalizing ls with
  | nil => simp
  | cons x os ih =>
    have := ih (addL size ls x)
    have h2 := addL_len size ls x
    simp only [List.foldl_cons, List.length_cons]
    omega
theorem addedL_len (size : Int) (os : List Int) : (addedL size os).length ≤ os.length + 1 ∧ 1 ≤ (addedL size os).length := by
  have := foldl_len size os [0]
  simp only [addedL] at *
  simp at this
  omega
theorem addedL_snoc (size : Int) (os : List Int) (k : Nat) (h : k < os.length) : addedL size (os.take (k + 1)) = addL size (addedL size (os.take k)) (os.getD k 0) := by
  unfold addedL
  rw [List.take_succ_eq_append_getElem h, List.foldl_append]
  simp [List.getD_eq_getElem?_getD, h]

/-- What a function that hands back a new slice leaves. -/
def NewInts (ls : List Int) (w : World) (e : Ending) (w' : World) : Prop := ∃ v, e = .returned v ∧ w'.ownsRow w.heap.size 3 1 v ls.length (ls.map (Value.int .i64)) ∧ Below w.heap.size w w'

theorem ints_oneCell (ls : List Int) : ∀ u ∈ ls.map (Value.int .i64), u.oneCell' = true := by
  intro u hu
  obtain ⟨x, _, rfl⟩ := List.mem_map.1 hu
  rfl

theorem owned_src {w : World} {B : Nat} {e : TypeId} {g n cap : Nat} {xs : List Value} (h : w.ownsRow B e 1 (.slice (some ⟨g, 0, none⟩) n cap) n xs) : ∀ j u, xs[j]? = some u → w.cell? ((⟨g, 0, none⟩ : Addr).add j) = some u := h.cells (g := g) rfl

set_option maxRecDepth 100000 in
set_option maxHeartbeats 1000000 in
theorem implAdded_any (ov : Value) (os : List Int) (size : Int) (w : World) (ho : Ints w ov os) (hlen : (os.length + 1) * 8 ≤ 140737488351240) (g1 : 1 ≤ size) (g2 : size ≤ 1099511627776) :
    Calls Tryf.prog 15 #[.int .i64 size, ov] w (NewInts (addedL size os) w) := by
  obtain ⟨i0, hi, hz0, hz1, hz2⟩ := info_parts Tryf.infoInt
  obtain ⟨a, ca, rfl, ka⟩ := ho.cell
  have HA := Lib.hid ka
  clear ka ho
  go_enter Tryf.func15, Tryf.ntmps15
  go_wp2_with fail
  refine (newFileSet_any w).mono ?_
  rintro e w1 ⟨rfl, hS1, hb1⟩
  go_wp2_with fail
  refine (addFile_any w.heap.size 1 .nil none ⟨#[]⟩ (-1) 1 size w1 ⟨hS1, True.intro, True.intro, by simp [T.nodes]⟩ (by simp [T.nodes]) (by simp [T.files]) (.inl ⟨by omega, rfl⟩) (by omega) (by omega) (by omega) (by omega) g2).mono ?_
  rintro e w2 ⟨fb, lb, t', x, rfl, q1, q2, q3, hF, hL, hS, _, _, K2⟩
  have hz := hb1.size
  have hb2 : Below w.heap.size w w2 := hb1.trans (K2.below hz (by rintro i (rfl | h); omega; simp [T.nodes] at h))
  have FS0 : FileSt w2 w.heap.size fb ⟨#[]⟩ 1 size (.slice (some ⟨lb, 0, none⟩) 1 1) (addedL size (os.take 0)) := by
    refine ⟨hF, ?_, by simp [addedL, Inc], by simp [addedL], by simp [addedL]⟩
    exact ⟨by simp [addedL], .inr ⟨lb, 1, _, rfl, by omega, hL, by simp [addedL], by simp [maxLen], by simp, by simp [addedL]⟩⟩
  have hfb : w.heap.size ≤ fb := by omega
  clear hS1 hb1 hS K2 hF hL q2 q3 hz
  go_wp2_with fail
  go_loopg [13] os.length (fun k v wr => ∃ i : Nat, v = .int .i64 i ∧ i ≤ os.length ∧ k = os.length - i ∧ Below w.heap.size w wr ∧ ∃ lv, FileSt wr w.heap.size fb ⟨#[]⟩ 1 size lv (addedL size (os.take i)))
  case atStart => exact ⟨0, rfl, by omega, by omega, hb2, _, FS0⟩
  case round =>
    obtain ⟨i, rfl, hi', rfl, hbr, lv, FS⟩ := hrel
    clear FS0 hb2
    by_cases hlt : i < os.length
    · have hne : ¬ os = [] := fun e => by rw [e] at hlt; simp at hlt
      obtain ⟨g, o, rfl, h⟩ := HA.out.resolve_left hne
      have k1 := h i hlt
      have k2 := (hbr.cell (p := ⟨g, o + i, none⟩) (World.block_lt_of_cell? w _ k1)).trans k1
      have hl := addedL_len size (os.take i)
      have hl' : (os.take i).length ≤ i := List.length_take_le _ _
      have HN := Lib.hid (addedL_snoc size os i hlt)
      clear h k1 hne
      generalize os.getD i 0 = y at *
      go_wp2_with fail
      refine (addLine_any w.heap.size fb ⟨#[]⟩ 1 size lv _ y wr FS (fun e => by rw [e] at hl; simp at hl) hfb (by omega)).mono ?_
      rintro e w3 ⟨rfl, ⟨lv', FS'⟩, hb3⟩
      rw [← HN.out] at FS'
      have hb4 : Below w.heap.size w w3 := hb3.below_of hbr hbr.size (by rintro i (rfl | h); exact hfb; exact (FS.own.lt i h).1)
      clear FS k2 hbr hb3 HN hl
      go_wp2
      go_roundg (os.length - (i + 1))
      case measure => omega
      case rel => exact ⟨i + 1, by go_num, by omega, rfl, hb4, lv', FS'⟩
    · have hi2 : i = os.length := by omega
      subst hi2
      rw [List.take_length] at FS
      have hl := addedL_len size os
      obtain ⟨a', cap', rfl⟩ := owns_form FS.own
      have hsz := hbr.size
      rcases FS.own.2 with ⟨_, h0⟩ | ⟨g, cap, cur, hv, hgB, hg, hcap⟩
      · omega
      simp at hv
      obtain ⟨rfl, rfl⟩ := hv
      have own := FS.own
      have hcells := owned_src own
      obtain ⟨L, hL⟩ : ∃ L, L = addedL size os := ⟨_, rfl⟩
      rw [← hL] at FS hl own hcells
      have EL := Lib.hid hL
      clear hL hg hcap hlt
      go_wp2_with fail
      refine (lines_any fb _ _ _ _ _ _ _ (FS.file.chg (M := fun _ => False) ((Chg.refl _ _).alloc _) id)).mono ?_
      rintro e w3 ⟨rfl, rfl⟩
      go_wp2_with (at_builtin; refine wpList_append_own _ rfl _ _ 23 rfl w.heap.size 3 i0 (.int .i64 0) 1 8 Tryf.underlying23 hi hz0 hz1 hz2 rfl (by decide) _ 0 [] rfl (World.ownsRow_made wr #[] 0 hsz (by simp [maxLen]) (by simp)) ⟨g, 0, none⟩ L.length cap' (L.map (Value.int .i64)) rfl ?c1 ?c2 ?c3 ?c4 ?c5 ?c6 ?_)
      case c1 => simp
      case c2 => intro j u hj; have := hcells j u hj; rw [← this]; exact World.cell?_alloc_lt _ _ _ (World.block_lt_of_cell? _ _ this)
      case c3 => exact ints_oneCell _
      case c4 => unfold maxLen; omega
      case c5 => omega
      case c6 => simp; omega
      · intro v' w3 own3 grow3 _
        have hb3 : Below w.heap.size w w3 := (hbr.alloc hsz _).grown grow3 (by simp; omega) (fun k hk => by simp [Value.ownBlock] at hk; omega)
        obtain ⟨a'', cap'', rfl⟩ := owns_form own3
        clear own hcells FS grow3 hbr
        go_wp2
        go_ret
        refine ⟨_, rfl, ?_, hb3⟩
        rw [← EL.out]
        exact own3

theorem NewInts.ints {ls : List Int} {w w' : World} {v : Value} (h : w'.ownsRow w.heap.size 3 1 v ls.length (ls.map (Value.int .i64))) : Ints w' v ls := owns_reads h

end Go.Proofs.YtgehgiafhfgacaaFmt
