/- impl.build: the set of a script, its files, and what their edits told. -/
import Derived.Test.YtmijedghihebjaaGreatFmtEdit
import Derived.Test.YtmijedghihebjaaGreatFmtValidL
namespace Go.Proofs.YtmijedghihebjaaGreatFmt
open Go.RowKit Go.MuLone Go.RwLone

theorem Tryz.infoBool : (Tryz.prog.info? 4).map (fun i => (i.zero, i.size, i.bytes)) = some (some (.bool false), 1, 1) := by kernel_rfl
theorem Tryz.infoBools : (Tryz.prog.info? 24).map (fun i => (i.zero, i.size, i.bytes)) = some (some (.slice none 0 0), 1, 24) := by kernel_rfl
theorem Tryz.infopFile : (Tryz.prog.info? 36).map (fun i => (i.zero, i.size, i.bytes)) = some (some (.pointer none), 1, 8) := by kernel_rfl

/-- The blocks in M hold none of these types. -/
def Off (w : World) (M : Nat → Prop) (ts : List TypeId) : Prop := ∀ g c t fr, M g → w.heap[g]? = some (.cells c t fr) → t ∉ ts

theorem Off.own {w : World} {M : Nat → Prop} {ts : List TypeId} (h : Off w M ts) {B : Nat} {e : TypeId} {sz : Nat} {v : Value} {n : Nat} {xs : List Value} (ho : w.ownsRow B e sz v n xs) (he : e ∈ ts) : ∀ g, v.ownBlock = some g → ¬ M g := by
  intro g hg hm
  rcases ho.2 with ⟨rfl, _⟩ | ⟨g', cap, cur, rfl, _, hh, _⟩
  · simp [Value.ownBlock] at hg
  · simp [Value.ownBlock] at hg
    subst hg
    exact h _ _ _ _ hm hh he
theorem off_row {w : World} {ts : List TypeId} {B : Nat} {e : TypeId} {sz : Nat} {v : Value} {n : Nat} {xs : List Value} (ho : w.ownsRow B e sz v n xs) (he : e ∉ ts) : Off w (fun k => v.ownBlock = some k) ts := by
  intro g c t fr hg hh
  rcases ho.2 with ⟨rfl, _⟩ | ⟨g', cap, cur, rfl, _, hh', _⟩
  · simp [Value.ownBlock] at hg
  · simp [Value.ownBlock] at hg
    subst hg
    rw [hh'] at hh
    simp at hh
    rw [← hh.2.1]; exact he
theorem SetSt.off {w w' : World} {M : Nat → Prop} {S : Nat} {base : Int} {t : T} {last : Option Nat} (h : SetSt w S base t last) (hc : Chg M w w') (ho : Off w M [96, 124]) : SetSt w' S base t last :=
  h.chg hc (fun hm => ho _ _ _ _ hm h.set (by simp)) (fun b hb hm => by
    obtain ⟨c, hcc⟩ := h.at'.lt b hb
    exact ho _ _ _ _ hm hcc (by simp))
theorem FileSt.off {w w' : World} {M : Nat → Prop} {B fb : Nat} {name : ByteArray} {base size : Int} {lv : Value} {ls : List Int} (H : FileSt w B fb name base size lv ls) (hc : Chg M w w') (ho : Off w M [99, 3]) : FileSt w' B fb name base size lv ls :=
  H.chg hc (fun hm => ho _ _ _ _ hm H.file (by simp)) (ho.own H.own (by simp))
theorem FileSt.mono {w : World} {B B' fb : Nat} {name : ByteArray} {base size : Int} {lv : Value} {ls : List Int} (H : FileSt w B fb name base size lv ls) (h : B' ≤ B) : FileSt w B' fb name base size lv ls := by
  refine ⟨H.file, ⟨H.own.1, ?_⟩, H.inc, H.nneg, H.len⟩
  rcases H.own.2 with h' | ⟨g, cap, cur, hv, hg, r⟩
  · exact .inl h'
  · exact .inr ⟨g, cap, cur, hv, by omega, r⟩

/-- File k of the script lies in block fbs[k]; yvs[k] is what its edits told. -/
def Each (w : World) (B : Nat) (ms : List MFile) (fbs : List Nat) (yvs : List Value) : Prop :=
  ∀ (k : Nat) (m : MFile), ms[k]? = some m → ∃ fb yv lv, fbs[k]? = some fb ∧ yvs[k]? = some yv ∧ B ≤ fb ∧ FileSt w B fb m.name m.base m.size lv m.lines ∧ w.ownsRow B 4 1 yv m.yes.length (m.yes.map Value.bool)
theorem Each.off {w w' : World} {M : Nat → Prop} {B : Nat} {ms : List MFile} {fbs : List Nat} {yvs : List Value} (h : Each w B ms fbs yvs) (hc : Chg M w w') (ho : Off w M [99, 3, 4]) : Each w' B ms fbs yvs := by
  intro k m hk
  obtain ⟨fb, yv, lv, h1, h2, h3, h4, h5⟩ := h k m hk
  refine ⟨fb, yv, lv, h1, h2, h3, h4.off hc (fun g c t fr hm hh ht => ho g c t fr hm hh (by simp at ht ⊢; rcases ht with h | h <;> simp [h])), owns_chg h5 hc (ho.own h5 (by simp))⟩

def fbV (fb : Nat) : Value := .pointer (some ⟨fb, 0, none⟩)

structure Built (B : Nat) (w : World) (S : Nat) (lv tv : Value) (gs : List GFile) (t : T) (fbs : List Nat) (yvs : List Value) : Prop where
  hS : B ≤ S
  nodes : ∀ b ∈ t.nodes, B ≤ b
  len : t.nodes.length = gs.length
  set : SetSt w S (baseOf gs) t fbs.getLast?
  files : t.files = List.zipWith (fun fb (m : MFile) => (fb, m.base, m.base + m.size)) fbs (madeL gs)
  fbl : fbs.length = gs.length
  nd : fbs.Nodup
  own : w.ownsRow B 36 1 lv gs.length (fbs.map fbV)
  told : w.ownsRow B 24 1 tv gs.length yvs
  each : Each w B (madeL gs) fbs yvs

theorem Built.below {B : Nat} {w w' : World} {S : Nat} {lv tv : Value} {gs : List GFile} {t : T} {fbs : List Nat} {yvs : List Value} (h : Built B w S lv tv gs t fbs yvs) (hb : Below w.heap.size w w') : Built B w' S lv tv gs t fbs yvs := by
  have hc : Chg (fun _ => False) w w' := Chg.of_below hb
  exact ⟨h.hS, h.nodes, h.len, h.set.chg hc id (fun _ _ => id), h.files, h.fbl, h.nd, owns_chg h.own hc (fun _ _ => id), owns_chg h.told hc (fun _ _ => id), h.each.off hc (fun _ _ _ _ h => h.elim)⟩

theorem Each.lt {w : World} {B : Nat} {ms : List MFile} {fbs : List Nat} {yvs : List Value} (h : Each w B ms fbs yvs) (hl : fbs.length = ms.length) : ∀ b ∈ fbs, b < w.heap.size := by
  intro b hb
  obtain ⟨k, hk, rfl⟩ := List.getElem_of_mem hb
  obtain ⟨fb, yv, lv, h1, h2, h3, h4, h5⟩ := h k _ (List.getElem?_eq_getElem (by omega))
  rw [List.getElem?_eq_getElem hk] at h1
  simp at h1
  subst h1
  exact lt_of_heap h4.file
theorem SetSt.offM {w : World} {S : Nat} {base : Int} {t : T} {last : Option Nat} (h : SetSt w S base t last) : Off w (fun k => k = S ∨ k ∈ t.nodes) [36, 24, 99, 3, 4] := by
  rintro g c ty fr (rfl | hm) hh
  · have := h.set
    unfold setOK setIs at this
    rw [this] at hh
    simp at hh
    rw [← hh.2.1]
    decide
  · obtain ⟨c', hc⟩ := h.at'.lt g hm
    rw [hc] at hh
    simp at hh
    rw [← hh.2.1]
    decide
theorem Off.sub {w : World} {M : Nat → Prop} {ts us : List TypeId} (h : Off w M ts) (hs : ∀ t ∈ us, t ∈ ts) : Off w M us := fun g c t fr hm hh ht => h g c t fr hm hh (hs t ht)
theorem owns_mono {w : World} {B B' : Nat} {e : TypeId} {sz : Nat} {v : Value} {n : Nat} {xs : List Value} (h : w.ownsRow B e sz v n xs) (hb : B' ≤ B) : w.ownsRow B' e sz v n xs := by
  refine ⟨h.1, ?_⟩
  rcases h.2 with h' | ⟨g, cap, cur, hv, hg, r⟩
  · exact .inl h'
  · exact .inr ⟨g, cap, cur, hv, by omega, r⟩

theorem Built.snoc {B : Nat} {wr w8 : World} {S : Nat} {lv tv : Value} {gs : List GFile} {t : T} {fbs : List Nat} {yvs : List Value} (H : Built B wr S lv tv gs t fbs yvs) {g : GFile} {fb x : Nat} {yv lvl lv' tv' : Value} {t' : T}
    (hset : SetSt w8 S ((make (baseOf gs) g).base + g.size + 1) t' (some fb)) (hfiles : t'.files = t.files ++ [(fb, (make (baseOf gs) g).base, (make (baseOf gs) g).base + g.size)]) (hperm : t'.nodes.Perm (t.nodes ++ [x])) (hx : B ≤ x)
    (hfb : wr.heap.size ≤ fb) (hBw : B ≤ wr.heap.size) (heach : Each w8 B (madeL gs) fbs yvs) (hfile : FileSt w8 wr.heap.size fb g.name (make (baseOf gs) g).base g.size lvl (linesL g.size g.edits))
    (hyes : w8.ownsRow B 4 1 yv g.edits.length ((yesOf g.size g.edits).map Value.bool)) (hown : w8.ownsRow B 36 1 lv' (gs.length + 1) (fbs.map fbV ++ [fbV fb])) (htold : w8.ownsRow B 24 1 tv' (gs.length + 1) (yvs ++ [yv])) :
    Built B w8 S lv' tv' (gs ++ [g]) t' (fbs ++ [fb]) (yvs ++ [yv]) := by
  have hyl : yvs.length = gs.length := by have := H.told.1; omega
  refine ⟨H.hS, ?_, ?_, ?_, ?_, by simp [H.fbl], ?_, by simpa using hown, by simpa using htold, ?_⟩
  · intro b hb
    have := hperm.mem_iff.1 hb
    rcases List.mem_append.1 this with h | h
    · exact H.nodes b h
    · simp at h; subst h; exact hx
  · rw [hperm.length_eq]; simp [H.len]
  · rw [baseOf_snoc]
    have : (fbs ++ [fb]).getLast? = some fb := by simp
    rw [this]
    exact hset
  · rw [hfiles, H.files, madeL_snoc, List.zipWith_append (by rw [H.fbl, madeL_length])]
    rfl
  · rw [List.nodup_append]
    refine ⟨H.nd, by simp, fun a ha b hb e => ?_⟩
    simp at hb
    subst hb
    subst e
    have := H.each.lt (by rw [H.fbl, madeL_length]) _ ha
    omega
  · intro k m hk
    rw [madeL_snoc] at hk
    rcases Nat.lt_or_ge k (madeL gs).length with hlt | hge
    · rw [List.getElem?_append_left hlt] at hk
      obtain ⟨fb', yv', lv1, h1, h2, h3, h4, h5⟩ := heach k m hk
      refine ⟨fb', yv', lv1, ?_, ?_, h3, h4, h5⟩
      · rw [List.getElem?_append_left (List.getElem?_eq_some_iff.1 h1).1]; exact h1
      · rw [List.getElem?_append_left (List.getElem?_eq_some_iff.1 h2).1]; exact h2
    · rw [List.getElem?_append_right hge] at hk
      obtain ⟨h0, hm⟩ := List.getElem?_eq_some_iff.1 hk
      simp at h0
      have hkl : k = (madeL gs).length := by omega
      subst hkl
      simp at hm
      subst hm
      refine ⟨fb, yv, lvl, ?_, ?_, by omega, hfile.mono hBw, ?_⟩
      · rw [madeL_length, ← H.fbl]; simp
      · rw [madeL_length, ← hyl]; simp
      · show w8.ownsRow B 4 1 yv (yesOf g.size g.edits).length ((yesOf g.size g.edits).map Value.bool)
        rw [show (yesOf g.size g.edits).length = g.edits.length from yesL_length _ _ _]
        exact hyes

/-- What build leaves. -/
def LeavesBuilt (gs : List GFile) (w : World) (e : Ending) (w' : World) : Prop :=
  ∃ S lv tv t fbs yvs, e = .returned (.tuple #[.pointer (some ⟨S, 0, none⟩), lv, tv]) ∧ Built w.heap.size w' S lv tv gs t fbs yvs ∧ Below w.heap.size w w'

set_option maxRecDepth 100000 in
set_option maxHeartbeats 1000000 in
theorem build_any (fv : Value) (fs : List GFile) (w : World) (hf : Files w fv fs) (hv : validL fs) : Calls Tryz.prog 17 #[fv] w (LeavesBuilt fs w) := by
  obtain ⟨i0, hi, hz0, hz1, hz2⟩ := info_parts Tryz.infoBool
  obtain ⟨j0, hj, hy0, hy1, hy2⟩ := info_parts Tryz.infoBools
  obtain ⟨k0, hk, hx0, hx1, hx2⟩ := info_parts Tryz.infopFile
  obtain ⟨fa, fc, rfl, hcell⟩ := hf.cell
  have hlen := hf.1
  have HC := Lib.hid hcell
  have HV := Lib.hid hv
  clear hf hcell hv
  go_enter Tryz.func17, Tryz.ntmps17
  go_wp2_with fail
  refine (newFileSet_any w).mono ?_
  rintro e w1 ⟨rfl, hS1, hb1⟩
  have hz := hb1.size
  have HBt : Hid (Built w.heap.size ((w1.alloc (.cells #[] 36)).alloc (.cells #[] 24)) w.heap.size (.slice (some ⟨w1.heap.size, 0, none⟩) 0 0) (.slice (some ⟨w1.heap.size + 1, 0, none⟩) 0 0) (fs.take 0) .nil [] []) := by
    have hS2 := setIs.chg hS1 (((Chg.refl (fun _ => False) w1).alloc (.cells #[] 36)).alloc (.cells #[] 24)) id
    have o1 := World.ownsRow_made (base := w.heap.size) (size := 1) (e := 36) w1 #[] 0 hz (by simp [maxLen]) (by simp)
    have o2 := World.ownsRow_made (base := w.heap.size) (size := 1) (e := 24) (w1.alloc (.cells #[] 36)) #[] 0 (by simp; omega) (by simp [maxLen]) (by simp)
    rw [World.size_alloc] at o2
    refine ⟨Nat.le_refl _, by simp [T.nodes], by simp [T.nodes], ⟨hS2, True.intro, True.intro, by simp [T.nodes]⟩, by simp [T.files], by simp, by simp, by simpa using o1.alloc _, by simpa using o2, ?_⟩
    intro k m hk
    simp [madeL, madeFrom] at hk
  have hb2 : Below w.heap.size w ((w1.alloc (.cells #[] 36)).alloc (.cells #[] 24)) := (hb1.alloc hz _).alloc (by simp; omega) _
  clear hS1 hb1
  go_wp2_with fail
  go_loopg [19, 6, 7] fs.length (fun k v lv tv wr => ∃ (i : Nat) (t : T) (fbs : List Nat) (yvs : List Value), v = .int .i64 i ∧ i ≤ fs.length ∧ k = fs.length - i ∧ Built w.heap.size wr w.heap.size lv tv (fs.take i) t fbs yvs ∧ Below w.heap.size w wr)
  case atStart => exact ⟨0, .nil, [], [], rfl, by omega, by omega, HBt.out, hb2⟩
  case round =>
    rename World => wo
    obtain ⟨i, t, fbs, yvs, rfl, hi', rfl, hB, hbr⟩ := hrel
    clear HBt hb2
    by_cases hlt : i < fs.length
    · obtain ⟨f, hfk⟩ : ∃ f, fs[i]? = some f := ⟨_, List.getElem?_eq_getElem hlt⟩
      obtain ⟨g, o, ev, rfl, c0, c1, c2, c3, hE⟩ := HC.out i f hfk
      have d0 := (hbr.cell (p := ⟨g, o + i * 4, none⟩) (World.block_lt_of_cell? w _ c0)).trans c0
      have d1 := (hbr.cell (p := ⟨g, o + i * 4 + 1, none⟩) (World.block_lt_of_cell? w _ c1)).trans c1
      have d2 := (hbr.cell (p := ⟨g, o + i * 4 + 2, none⟩) (World.block_lt_of_cell? w _ c2)).trans c2
      have d3 := (hbr.cell (p := ⟨g, o + i * 4 + 3, none⟩) (World.block_lt_of_cell? w _ c3)).trans c3
      have HK := Lib.hid hfk
      obtain ⟨ea, ec, rfl, hEc⟩ := hE.cell
      have HEc := Lib.hid hEc
      have heL := hE.1
      have HBu := Lib.hid hB
      clear hE hEc hfk c0 c1 c2 c3 hB
      obtain ⟨name, base, size, edits⟩ := f
      simp only at d0 d1 d2 d3 heL HEc
      go_wp2_with fail
      have hok := valid_at HV.out HK.out
      have hvt := valid_take HV.out i
      obtain ⟨v1, v2⟩ := valid_bounds hvt
      have hbx : Below wo.heap.size wo (wo.alloc (.cells #[.string name, .int .i64 base, .int .i64 size, .slice ea edits.length ec] 64)) := (Below.refl _ _).alloc (Nat.le_refl _) _
      have hSN := (HBu.out.below hbx).set
      have hlen2 : t.nodes.length = i := by rw [HBu.out.len, List.length_take]; omega
      have hfiles : ∀ x ∈ t.files, x.2.1 ≤ x.2.2 ∧ x.2.2 < baseOf (fs.take i) := by
        rw [HBu.out.files]
        intro y hy
        obtain ⟨k, hk, rfl⟩ := List.getElem_of_mem hy
        simp at hk
        have hm := v2 ((madeL (fs.take i))[k]'(by omega)) (List.getElem_mem _)
        simp
        omega
      obtain ⟨ok1, ok2, ok3, ok4, ok5⟩ := hok
      simp only at ok1 ok2 ok5
      have hSl : w.heap.size < wo.heap.size := lt_of_heap HBu.out.set.set
      refine (addFile_any w.heap.size (baseOf (fs.take i)) t fbs.getLast? name base (make (baseOf (fs.take i)) ⟨name, base, size, edits⟩).base size _ hSN (by omega) hfiles (make_base _ ⟨name, base, size, edits⟩) (by omega) ok3 ok4 ok1 ok2).mono ?_
      rintro e w2 ⟨fb, lb, t', x, rfl, q1, q2, q3, hF, hL, hS, hfl, hperm, K2⟩
      simp only [World.size_alloc] at q1 q2 q3
      obtain ⟨mb, hmb⟩ : ∃ mb, mb = (make (baseOf (fs.take i)) ⟨name, base, size, edits⟩).base := ⟨_, rfl⟩
      rw [← hmb] at hF hS hfl ok3 ok4
      have hns : ∀ b ∈ t.nodes, b < wo.heap.size := fun b hb => by obtain ⟨c, hc⟩ := HBu.out.set.at'.lt b hb; exact lt_of_heap hc
      have K2' : Chg (fun k => k = w.heap.size ∨ k ∈ t.nodes) wo w2 := (Chg.of_below hbx).trans K2
      have hN2 : w2.heap[wo.heap.size]? = some (.cells #[.string name, .int .i64 base, .int .i64 size, .slice ea edits.length ec] 64 (0, 0)) := K2.at (heap_new _ _) (by
        rintro (h | h)
        · omega
        · have := hns _ h; omega)
      have hxn : ∃ c, w2.heap[x]? = some (.cells c 124 (0, 0)) := hS.at'.lt x (hperm.mem_iff.2 (by simp))
      have hb2 : Below w.heap.size w w2 := K2'.below_of hbr (by omega) (by
        rintro k (h | h)
        · omega
        · exact HBu.out.nodes k h)
      have FS0 : FileSt (w2.alloc (.cells #[] 4)) wo.heap.size fb name mb size (.slice (some ⟨lb, 0, none⟩) 1 1) (linesL size (edits.take 0)) := by
        have : FileSt w2 wo.heap.size fb name mb size (.slice (some ⟨lb, 0, none⟩) 1 1) (linesL size (edits.take 0)) := by
          refine ⟨hF, ?_, by simp [linesL, Inc], by simp [linesL], by simp [linesL]⟩
          exact ⟨by simp [linesL], .inr ⟨lb, 1, _, rfl, by omega, hL, by simp [linesL], by simp [maxLen], by simp, by simp [linesL]⟩⟩
        exact this.below ((Below.refl _ _).alloc (Nat.le_refl _) _)
      have Y0 : (w2.alloc (.cells #[] 4)).ownsRow wo.heap.size 4 1 (.slice (some ⟨w2.heap.size, 0, none⟩) 0 0) (0 : Nat) ((yesOf size (edits.take 0)).map Value.bool) := World.ownsRow_made (base := wo.heap.size) (size := 1) (e := 4) w2 #[] 0 (by have := K2'.size; omega) (by simp [maxLen]) (by simp)
      have C0 : Chg (fun k => wo.heap.size ≤ k ∧ k ≠ x) w2 (w2.alloc (.cells #[] 4)) := (Chg.refl _ _).alloc _
      have n3 : (w2.alloc (.cells #[] 4)).cell? ⟨wo.heap.size, 3, none⟩ = some (.slice ea edits.length ec) := by rw [World.cell?_alloc_lt _ _ _ (show wo.heap.size < w2.heap.size from lt_of_heap hN2), cell_of hN2]; rfl
      have HS := Lib.hid hS
      have HF := Lib.hid hfl
      have HMB := Lib.hid hmb
      have HP := Lib.hid hperm
      have HXN := Lib.hid hxn
      have HK2 := Lib.hid K2'
      have HNS := Lib.hid hns
      have HFil := Lib.hid hfiles
      have hsz2 := K2'.size
      have HLN := Lib.hid hlen2
      clear hS hfl hmb hperm hxn K2' K2 hN2 hF hL hns hfiles v2 hSN hbx hvt hlen2 d0 d1 d2 d3
      go_wp2_with fail
      go_loopg [35, 11] edits.length (fun k v yv wl => ∃ (j : Nat) (lvl : Value), v = .int .i64 j ∧ j ≤ edits.length ∧ k = edits.length - j ∧ FileSt wl wo.heap.size fb name mb size lvl (linesL size (edits.take j)) ∧ wl.ownsRow wo.heap.size 4 1 yv j ((yesOf size (edits.take j)).map Value.bool) ∧ Chg (fun k => wo.heap.size ≤ k ∧ k ≠ x) w2 wl)
      case atStart => exact ⟨0, _, rfl, by omega, by omega, FS0, Y0, C0⟩
      case round =>
        rename World => wl
        obtain ⟨j, lvl, rfl, hj', rfl, FS, Y, C⟩ := hrel
        clear FS0 Y0 C0
        by_cases hjl : j < edits.length
        · obtain ⟨ed, hek⟩ : ∃ ed, edits[j]? = some ed := ⟨_, List.getElem?_eq_getElem hjl⟩
          obtain ⟨eg, eo, elv, rfl, e0, e1, e2, hI, hIl⟩ := HEc.out j ed hek
          have hbl : Below w.heap.size w wl := C.below_of hb2 (by omega) (fun k hk => by omega)
          have f0 := (hbl.cell (p := ⟨eg, eo + j * 3, none⟩) (World.block_lt_of_cell? w _ e0)).trans e0
          have f1 := (hbl.cell (p := ⟨eg, eo + j * 3 + 1, none⟩) (World.block_lt_of_cell? w _ e1)).trans e1
          have f2 := (hbl.cell (p := ⟨eg, eo + j * 3 + 2, none⟩) (World.block_lt_of_cell? w _ e2)).trans e2
          have hI' : Ints wl elv ed.lines := hI.below hbl
          have hsd := ok5 ed (List.mem_of_getElem? hek)
          have HEK := Lib.hid hek
          obtain ⟨la, lc, rfl⟩ : ∃ la lc, elv = .slice la ed.lines.length lc := by obtain ⟨a, c, h, _⟩ := hI'; exact ⟨a, c, by simpa using h⟩
          clear e0 e1 e2 hI hbl hek
          go_wp2_with fail
          have hbe : Below wl.heap.size wl (wl.alloc (.cells #[.int .i64 ed.kind, .slice la ed.lines.length lc, .int .i64 ed.line] 67)) := (Below.refl _ _).alloc (Nat.le_refl _) _
          have FS1 := FS.below hbe
          have Y1 : (wl.alloc (.cells #[.int .i64 ed.kind, .slice la ed.lines.length lc, .int .i64 ed.line] 67)).ownsRow wo.heap.size 4 1 _ j ((yesOf size (edits.take j)).map Value.bool) := Y.alloc _
          have C1 := C.alloc (.cells #[.int .i64 ed.kind, .slice la ed.lines.length lc, .int .i64 ed.line] 67)
          refine (edit_any wo.heap.size fb name mb size lvl _ _ ed _ FS1 (by omega) (hI'.below hbe) hIl hsd).mono ?_
          rintro e w5 ⟨rfl, ⟨lvl', FS5⟩, K5⟩
          have Y5 : w5.ownsRow wo.heap.size 4 1 _ j ((yesOf size (edits.take j)).map Value.bool) := owns_chg Y1 K5 (by
            rintro k hk (h | h)
            · exact owns_ne Y1 FS1.file (by decide) k hk h
            · exact off_row (ts := [4]) FS1.own (by decide) |>.own Y1 (by simp) k hk h)
          have C5 : Chg (fun k => wo.heap.size ≤ k ∧ k ≠ x) w2 w5 := by
            obtain ⟨xc, hxc⟩ := HXN.out
            have hx1 := C1.at hxc (by rintro ⟨_, h⟩; exact h rfl)
            refine C1.trans (K5.mono ?_)
            rintro k _ (h | h)
            · subst h
              exact ⟨by omega, ne_of_type FS1.file hx1 (by decide)⟩
            · exact ⟨(FS1.own.lt k h).1, owns_ne FS1.own hx1 (by decide) k h⟩
          rw [← linesL_snoc, ← take_snoc HEK.out] at FS5
          have HY := Lib.hid (yesOf_snoc size (edits.take j) ed)
          rw [← take_snoc HEK.out] at HY
          obtain ⟨eb, heb⟩ : ∃ eb, eb = stepB size (linesL size (edits.take j)) ed := ⟨_, rfl⟩
          rw [← heb] at HY ⊢
          obtain ⟨ys, hys⟩ : ∃ ys, ys = (yesOf size (edits.take j)).map Value.bool := ⟨_, rfl⟩
          rw [← hys] at Y5
          have HYS := Lib.hid hys
          obtain ⟨ya, yc, rfl⟩ := owns_form Y5
          have hs5 := C5.size
          clear FS1 Y1 C1 K5 Y FS C hbe f0 f1 f2 hI' hIl hsd heb hys
          go_wp2_with (at_builtin; refine wpList_append_any rfl _ _ 24 rfl wo.heap.size 4 i0 (.bool false) 1 1 Tryz.underlying24 hi hz0 hz1 hz2 rfl (by decide) _ _ _ rfl (Y5.alloc _) (.slice (some ⟨w5.heap.size, 0, none⟩) 1 1) 1 [.bool eb] rfl ?c2 ?c3 ?c4 ?c5 ?c6 ?_)
          case c2 => exact ⟨rfl, _, _, rfl, .inr ⟨_, _, rfl, fun jj u hj => by
            match jj, hj with
            | 0, hj => simp at hj; subst hj; simp⟩⟩
          case c3 => intro u hu; simp at hu; subst hu; rfl
          case c4 => unfold maxLen; omega
          case c5 => omega
          case c6 => simp; omega
          · intro yv' w6 own6 grow6
            have K6 : Chg (fun k => (Value.slice ya j yc).ownBlock = some k) w5 w6 := ((Chg.refl _ _).alloc _).trans (Chg.of_grown grow6 fun k h => h)
            have FS6 := FS5.off K6 (off_row Y5 (by decide))
            have C6 : Chg (fun k => wo.heap.size ≤ k ∧ k ≠ x) w2 w6 := by
              obtain ⟨xc, hxc⟩ := HXN.out
              have hx1 := C5.at hxc (by rintro ⟨_, h⟩; exact h rfl)
              exact C5.trans (K6.mono fun k _ h => ⟨(Y5.lt k h).1, owns_ne Y5 hx1 (by decide) k h⟩)
            have Y6 : w6.ownsRow wo.heap.size 4 1 yv' (j + 1) ((yesOf size (edits.take (j + 1))).map Value.bool) := by
              rw [HY.out, List.map_append, ← HYS.out]
              exact own6
            obtain ⟨ya', yc', rfl⟩ := owns_form own6
            clear own6 grow6 K6 Y5 C5 FS5 HY HYS HEK
            go_wp2
            go_roundg (edits.length - (j + 1))
            case measure => omega
            case rel => exact ⟨j + 1, _, by go_num, by omega, rfl, FS6, Y6, C6⟩
        · have hj2 : j = edits.length := by omega
          subst hj2
          rw [List.take_length] at FS Y
          have hl0 := hb2.size
          have K6 : Chg (fun k => k = w.heap.size ∨ k ∈ t.nodes) wo wl := HK2.out.step C (fun k h1 h2 => by omega)
          have S6 : SetSt wl w.heap.size (mb + size + 1) t' (some fb) := HS.out.chg C (by omega) (fun b hb => by
            rcases List.mem_append.1 (HP.out.mem_iff.1 hb) with h | h
            · have := HNS.out b h; omega
            · simp at h; omega)
          have OM := HBu.out.set.offM
          have E6 := HBu.out.each.off K6 (OM.sub (by simp))
          have L6 := owns_chg HBu.out.own K6 (OM.own HBu.out.own (by simp))
          have T6 := owns_chg HBu.out.told K6 (OM.own HBu.out.told (by simp))
          have B6 : Below w.heap.size w wl := C.below_of hb2 (by omega) (fun k hk => by omega)
          have hgl : (fs.take i).length = i := by rw [List.length_take]; omega
          rw [hgl] at L6 T6
          obtain ⟨la, lc, rfl⟩ := owns_form L6
          obtain ⟨ta, tc, rfl⟩ := owns_form T6
          obtain ⟨ya, yc, rfl⟩ := owns_form Y
          have FS6 := FS
          have Y6 := owns_mono Y (show w.heap.size ≤ wo.heap.size by omega)
          have hgq := Lib.hid hgl
          have hsl := B6.size
          have hns : ¬ ((edits.length : Int) < (edits.length : Int)) := by omega
          clear OM C K6 FS Y hjl hgl hj'
          obtain ⟨fvs, hfvs⟩ : ∃ fvs, fvs = fbs.map fbV := ⟨_, rfl⟩
          rw [← hfvs] at L6
          have HFV := Lib.hid hfvs
          clear hfvs
          go_wp2_with (at_builtin; refine wpList_append_any rfl _ _ 50 rfl w.heap.size 36 k0 (.pointer none) 1 8 Tryz.underlying50 hk hx0 hx1 hx2 rfl (by decide) _ _ _ rfl (L6.alloc _) (.slice (some ⟨wl.heap.size, 0, none⟩) 1 1) 1 [fbV fb] rfl ?c2 ?c3 ?c4 ?c5 ?c6 ?_)
          case c2 => exact ⟨rfl, _, _, rfl, .inr ⟨_, _, rfl, fun jj u hj => by
            match jj, hj with
            | 0, hj => simp at hj; subst hj; simp [fbV]⟩⟩
          case c3 => rfl
          case c4 => unfold maxLen; omega
          case c5 => omega
          case c6 => omega
          · intro lv' w7 own7 grow7
            have K7 : Chg (fun k => (Value.slice la i lc).ownBlock = some k) wl w7 := ((Chg.refl _ _).alloc _).trans (Chg.of_grown grow7 fun k h => h)
            have O7 : Off wl (fun k => (Value.slice la i lc).ownBlock = some k) [24, 99, 3, 4, 96, 124] := off_row L6 (by decide)
            have S7 := S6.off K7 (O7.sub (by simp))
            have E7 := E6.off K7 (O7.sub (by simp))
            have T7 := owns_chg T6 K7 (O7.own T6 (by simp))
            have FS7 := FS6.off K7 (O7.sub (by simp))
            have Y7 := owns_chg Y6 K7 (O7.own Y6 (by simp))
            have B7 : Below w.heap.size w w7 := K7.below_of B6 hsl (fun k h => (L6.lt k h).1)
            have hs7 := B7.size
            obtain ⟨la', lc', rfl⟩ := owns_form own7
            clear O7 K7 S6 E6 T6 FS6 Y6 B6 L6 grow7 n3
            go_wp2_with (at_builtin; refine wpList_append_any rfl _ _ 51 rfl w.heap.size 24 j0 (.slice none 0 0) 1 24 Tryz.underlying51 hj hy0 hy1 hy2 rfl (by decide) _ _ _ rfl (T7.alloc _) (.slice (some ⟨w7.heap.size, 0, none⟩) 1 1) 1 [.slice ya edits.length yc] rfl ?c2 ?c3 ?c4 ?c5 ?c6 ?_)
            case c2 => exact ⟨rfl, _, _, rfl, .inr ⟨_, _, rfl, fun jj u hj => by
              match jj, hj with
              | 0, hj => simp at hj; subst hj; simp⟩⟩
            case c3 => intro u hu; simp at hu; subst hu; rfl
            case c4 => unfold maxLen; omega
            case c5 => omega
            case c6 => simp; omega
            · intro tv' w8 own8 grow8
              have K8 : Chg (fun k => (Value.slice ta i tc).ownBlock = some k) w7 w8 := ((Chg.refl _ _).alloc _).trans (Chg.of_grown grow8 fun k h => h)
              have O8 : Off w7 (fun k => (Value.slice ta i tc).ownBlock = some k) [36, 99, 3, 4, 96, 124] := off_row T7 (by decide)
              have B8 : Below w.heap.size w w8 := K8.below_of B7 hs7 (fun k h => (T7.lt k h).1)
              have hfin : Built w.heap.size w8 w.heap.size (.slice la' (i + 1) lc') tv' (fs.take (i + 1)) t' (fbs ++ [fb]) (yvs ++ [.slice ya edits.length yc]) := by
                rw [take_snoc HK.out]
                have hgl := hgq.out
                have hs8 := S7.off K8 (O8.sub (by simp))
                rw [HMB.out] at hs8
                have hf8 := FS7.off K8 (O8.sub (by simp))
                rw [HMB.out] at hf8
                have hfl8 := HF.out
                rw [HMB.out] at hfl8
                refine HBu.out.snoc (g := ⟨name, base, size, edits⟩) hs8 hfl8 HP.out (by omega) (by omega) (by omega) (E7.off K8 (O8.sub (by simp))) hf8 (owns_chg Y7 K8 (O8.own Y7 (by simp))) ?_ ?_
                · rw [hgl, ← HFV.out]
                  exact owns_chg own7 K8 (O8.own own7 (by simp))
                · rw [hgl]
                  exact own8
              have HFIN := Lib.hid hfin
              obtain ⟨ta', tc', rfl⟩ := owns_form own8
              clear hfin own8 own7 grow8 K8 O8 S7 E7 T7 FS7 Y7 B7 HBu HK HP HF HMB HFV hgq HK2 HNS HFil HLN HXN HS HEc
              go_wp2
              go_roundg (fs.length - (i + 1))
              case measure => omega
              case rel => exact ⟨i + 1, _, _, _, by go_num, by omega, rfl, HFIN.out, B8⟩
    · have hi2 : i = fs.length := by omega
      subst hi2
      rw [List.take_length] at hB
      obtain ⟨la, lc, rfl⟩ := owns_form hB.own
      obtain ⟨ta, tc, rfl⟩ := owns_form hB.told
      have HBu := Lib.hid hB
      have hns : ¬ ((fs.length : Int) < (fs.length : Int)) := by omega
      clear hB hlt HC HV
      go_wp2
      go_ret3
      exact ⟨_, _, _, _, _, _, rfl, HBu.out, hbr⟩
end Go.Proofs.YtmijedghihebjaaGreatFmt
