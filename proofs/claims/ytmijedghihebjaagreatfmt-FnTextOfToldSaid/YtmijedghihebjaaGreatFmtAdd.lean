/- key, set, add: a file is put behind all others. -/
import Derived.Test.YtmijedghihebjaaGreatFmtLoc
namespace Go.Proofs.YtmijedghihebjaaGreatFmt
open Go.RowKit

/-- A file's cells: name, base, size, the lock (two), lines, infos. -/
def fileIs (w : World) (b : Nat) (name : ByteArray) (base size : Int) (m0 m1 lines infos : Value) : Prop :=
  w.heap[b]? = some (.cells #[.string name, .int .i64 base, .int .i64 size, m0, m1, lines, infos] 99 (0, 0))

theorem fileIs.chg {M : Nat → Prop} {w w' : World} {b : Nat} {name : ByteArray} {base size : Int} {m0 m1 lines infos : Value} (H : fileIs w b name base size m0 m1 lines infos) (hc : Chg M w w') (hm : ¬ M b) : fileIs w' b name base size m0 m1 lines infos := hc.at H hm

set_option maxRecDepth 100000 in
theorem key_any (b : Nat) (name : ByteArray) (base size : Int) (m0 m1 lines infos : Value) (w : World) (H : fileIs w b name base size m0 m1 lines infos) (g1 : 0 ≤ base) (g2 : base ≤ 1099511627776) (g3 : 0 ≤ size) (g4 : size ≤ 1099511627776) :
    Calls Tryz.prog 55 #[.pointer (some ⟨b, 0, none⟩)] w fun e w' => e = .returned (.agg #[.int .i64 base, .int .i64 (base + size)]) ∧ Below w.heap.size w w' := by
  have hb : b < w.heap.size := lt_of_heap H
  have c1 : w.cell? ⟨b, 1, none⟩ = some (.int .i64 base) := by rw [cell_of H]; rfl
  have c2 : w.cell? ⟨b, 2, none⟩ = some (.int .i64 size) := by rw [cell_of H]; rfl
  have e1 : IntKind.i64.wrap (base + size) = base + size := IntWalk.i64_in _ (by omega)
  go_enter Tryz.func55, Tryz.ntmps55
  go_wp2
  have HB : Below w.heap.size w (w.alloc (.cells #[.int .i64 0, .int .i64 0] 120)) := (Below.refl _ _).alloc (Nat.le_refl _) _
  have d1 : (w.alloc (.cells #[.int .i64 0, .int .i64 0] 120)).cell? ⟨b, 1, none⟩ = some (.int .i64 base) := (HB.cell hb).trans c1
  have d2 : (w.alloc (.cells #[.int .i64 0, .int .i64 0] 120)).cell? ⟨b, 2, none⟩ = some (.int .i64 size) := (HB.cell hb).trans c2
  have n0 : (w.alloc (.cells #[.int .i64 0, .int .i64 0] 120)).cell? ⟨w.heap.size, 0, none⟩ = some (.int .i64 0) := by simp
  have n1 : (w.alloc (.cells #[.int .i64 0, .int .i64 0] 120)).cell? ⟨w.heap.size, 1, none⟩ = some (.int .i64 0) := by simp
  have z0 : (w.alloc (.cells #[.int .i64 0, .int .i64 0] 120)).frozen? ⟨w.heap.size, 0, none⟩ = false := by simp
  have z1 : (w.alloc (.cells #[.int .i64 0, .int .i64 0] 120)).frozen? ⟨w.heap.size, 1, none⟩ = false := by simp
  generalize w.alloc (.cells #[.int .i64 0, .int .i64 0] 120) = w2 at *
  clear c1 c2
  go_still_tail 14, (by kernel_rfl)
  change wpList _ _ _ _ _ w2.drew
  go_wp2
  refine bodyPost_ret (v := .agg #[.int .i64 base, .int .i64 (base + size)]) (by simp [results, Tryz.results55, go_sem, n0, n1]) rfl ?_
  refine ⟨rfl, ?_⟩
  repeat (first | exact HB | refine Below.drew ?_ | refine Below.setCell ?_ (by exact Nat.le_refl _) _)

/-- The cell into which the new node's pointer goes. -/
def posOf (S : Nat) : List Fr → Addr
  | [] => ⟨S, 7, none⟩
  | x :: _ => ⟨x.b, 2, none⟩

/-- The new node is in its place: the way up begins. -/
theorem up_start {S : Nat} {m0 m1 m2 m3 m4 m5 : Value} {base : Int} {last : Option Nat} {w w1 : World} {t : T} {fb : Nat} {lo hi : Int} (H : setIs w S m0 m1 m2 m3 m4 m5 base t.root last) (ht : t.At w none) (ha : t.AVL) (hnd : t.nodes.Nodup) (hb : Below w.heap.size w w1) :
    let w3 := (w1.alloc (.cells (NB (topOf (spine t)) none none (some fb) lo hi 0 (-1)) 124)).setCell (posOf S (spine t)) (ptr (some w1.heap.size))
    Up S m0 m1 m2 m3 m4 m5 base last (t.files ++ [(fb, lo, hi)]) (t.nodes ++ [w1.heap.size]) w3 w3 w1.heap.size .nil .nil fb lo hi (spine t) 0 (-1) ∧ Chg (fun k => k = S ∨ k ∈ t.nodes ++ [w1.heap.size]) w w3 := by
  intro w3
  have hlt : ∀ b ∈ t.nodes, b < w.heap.size := fun b h => by obtain ⟨c, hc⟩ := ht.lt b h; exact lt_of_heap hc
  have hSl : S < w.heap.size := lt_of_heap H
  have hsz := hb.size
  have hx : w1.heap.size ∉ t.nodes := fun h => by have := hlt _ h; omega
  have hctx := spine_ctx t ht ha
  have hsp := spine_nodes t
  have hroot := spine_root t
  have hN : ∀ b, b ∈ frNodes (spine t) → b ∈ t.nodes := fun b h => hsp.mem_iff.2 h
  -- the world with the new block
  have K2 : Chg (fun _ => False) w (w1.alloc (.cells (NB (topOf (spine t)) none none (some fb) lo hi 0 (-1)) 124)) := (Chg.of_below hb).alloc _
  have hn2 : nodeIs (w1.alloc (.cells (NB (topOf (spine t)) none none (some fb) lo hi 0 (-1)) 124)) w1.heap.size (topOf (spine t)) none none (some fb) lo hi 0 (-1) := heap_new _ _
  have hS2 := H.chg K2 id
  have hc2 := hctx.chg K2 (fun _ _ => id)
  have hall : Chg (fun k => k = S ∨ k ∈ t.nodes ++ [w1.heap.size]) w w3 := by
    refine Chg.set (K2.mono fun _ _ h => h.elim) ?_ _
    cases hs : spine t with
    | nil => simp [posOf]
    | cons q C => left; right; simp only [posOf, List.mem_append]; left; exact hN _ (by rw [hs]; simp [frNodes, Fr.nodes])
  have hperm : (((T.nil.nodes ++ w1.heap.size :: T.nil.nodes) ++ frNodes (spine t))).Perm (t.nodes ++ [w1.heap.size]) := by
    refine List.Perm.trans ?_ (List.Perm.append_right _ hsp.symm)
    simpa [T.nodes] using (List.perm_append_singleton w1.heap.size (frNodes (spine t))).symm
  have hndN : (t.nodes ++ [w1.heap.size]).Nodup := by
    rw [List.nodup_append]
    refine ⟨hnd, by simp, ?_⟩
    intro a ha b hb e
    simp at hb
    subst hb
    subst e
    exact hx ha
  refine ⟨⟨?_, True.intro, True.intro, True.intro, True.intro, ?_, ?_, hperm.nodup_iff.2 hndN, hperm, ?_, Chg.refl _ _, .inl ⟨rfl, rfl, rfl⟩⟩, hall⟩
  · cases hs : spine t with
    | nil => show nodeIs ((w1.alloc _).setCell (posOf S (spine t)) _) _ _ _ _ _ _ _ _ _; rw [hs] at hn2 ⊢; exact hn2.other (fun e => by omega) 7 _
    | cons q C =>
      show nodeIs ((w1.alloc _).setCell (posOf S (spine t)) _) _ _ _ _ _ _ _ _ _
      rw [hs] at hn2 ⊢
      have hq : q.b ∈ t.nodes := hN _ (by rw [hs]; simp [frNodes, Fr.nodes])
      exact hn2.other (fun e => hx (e ▸ hq)) 2 _
  · cases hs : spine t with
    | nil => exact True.intro
    | cons q C =>
      show Ctx ((w1.alloc _).setCell (posOf S (spine t)) _) _ _ _
      rw [hs] at hc2 ⊢
      refine hc2.swap (hc2.1.set2 (some w1.heap.size)) fun b hb => ?_
      refine heap_set_ne 2 _ ?_
      rintro rfl
      have := hsp.nodup_iff.1 hnd
      rw [hs] at this
      simp only [frNodes, List.flatMap_cons, Fr.nodes, List.cons_append, List.nodup_cons] at this
      exact this.1 hb
  · cases hs : spine t with
    | nil =>
      show setIs ((w1.alloc _).setCell (posOf S (spine t)) _) _ _ _ _ _ _ _ _ _ _
      rw [hs] at hS2 ⊢
      exact hS2.root (some w1.heap.size)
    | cons q C =>
      show setIs ((w1.alloc _).setCell (posOf S (spine t)) _) _ _ _ _ _ _ _ _ _ _
      rw [hs] at hroot hS2 ⊢
      have hq : q.b ∈ t.nodes := hN _ (by rw [hs]; simp [frNodes, Fr.nodes])
      have hqS : ¬ S = q.b := fun e => ht.notS H (e ▸ hq)
      refine setIs.other ?_ hqS 2 _
      have : rootOf (q :: C) (some w1.heap.size) = t.root := hroot
      rw [this]
      exact hS2
  · simp [spine_files, T.files]

theorem up_start' {S : Nat} {m0 m1 m2 m3 m4 m5 : Value} {base : Int} {last : Option Nat} {w w1 : World} {t : T} {fb : Nat} {lo hi : Int} (H : setIs w S m0 m1 m2 m3 m4 m5 base t.root last) (ht : t.At w none) (ha : t.AVL) (hnd : t.nodes.Nodup) (hb : Below w.heap.size w w1) :
    let w3 := (w1.setCell (posOf S (spine t)) (ptr (some w1.heap.size))).alloc (.cells (NB (topOf (spine t)) none none (some fb) lo hi 0 (-1)) 124)
    Up S m0 m1 m2 m3 m4 m5 base last (t.files ++ [(fb, lo, hi)]) (t.nodes ++ [w1.heap.size]) w3 w3 w1.heap.size .nil .nil fb lo hi (spine t) 0 (-1) ∧ Chg (fun k => k = S ∨ k ∈ t.nodes ++ [w1.heap.size]) w w3 := by
  have e : (w1.setCell (posOf S (spine t)) (ptr (some w1.heap.size))).alloc (.cells (NB (topOf (spine t)) none none (some fb) lo hi 0 (-1)) 124) = (w1.alloc (.cells (NB (topOf (spine t)) none none (some fb) lo hi 0 (-1)) 124)).setCell (posOf S (spine t)) (ptr (some w1.heap.size)) := by
    have hsz := hb.size
    have hSl : S < w.heap.size := lt_of_heap H
    cases hs : spine t with
    | nil => exact (World.setCell_alloc_past _ S 7 _ (by omega)).symm
    | cons q C =>
      have hq : q.b ∈ t.nodes := (spine_nodes t).mem_iff.2 (by rw [hs]; simp [frNodes, Fr.nodes])
      obtain ⟨c, hc⟩ := ht.lt q.b hq
      have := lt_of_heap hc
      exact (World.setCell_alloc_past _ q.b 2 _ (by omega)).symm
  intro w3
  have := up_start (fb := fb) (lo := lo) (hi := hi) H ht ha hnd hb
  rw [← e] at this
  exact this

/-- The tree with one file more. -/
def Added (S : Nat) (m0 m1 m2 m3 m4 m5 : Value) (base : Int) (last : Option Nat) (t : T) (fb : Nat) (lo hi : Int) (w w' : World) : Prop :=
  ∃ (t' : T) (x : Nat), w.heap.size ≤ x ∧ t'.At w' none ∧ t'.AVL ∧ t'.nodes.Nodup ∧ setIs w' S m0 m1 m2 m3 m4 m5 base t'.root last ∧ t'.files = t.files ++ [(fb, lo, hi)] ∧ t'.nodes.Perm (t.nodes ++ [x]) ∧ Chg (fun k => k = S ∨ k ∈ t.nodes) w w'

theorem added_of {S : Nat} {m0 m1 m2 m3 m4 m5 : Value} {base : Int} {last : Option Nat} {w w3 w4 : World} {t : T} {fb x : Nat} {lo hi : Int} (hx : w.heap.size ≤ x) (hnd : (t.nodes ++ [x]).Nodup)
    (K : Chg (fun k => k = S ∨ k ∈ t.nodes ++ [x]) w w3) (hF : Fin S m0 m1 m2 m3 m4 m5 base last (t.files ++ [(fb, lo, hi)]) (t.nodes ++ [x]) w3 w4) : Added S m0 m1 m2 m3 m4 m5 base last t fb lo hi w w4 := by
  obtain ⟨t', h1, h2, h3, h4, h5, h6⟩ := hF
  refine ⟨t', x, hx, h1, h2, h5.nodup_iff.2 hnd, h3, h4, h5, (K.trans h6).mono ?_⟩
  rintro k hk (rfl | h)
  · exact .inl rfl
  · simp at h
    rcases h with h | rfl
    · exact .inr h
    · omega

set_option maxHeartbeats 1000000 in
theorem set_any (S : Nat) (m0 m1 m2 m3 m4 m5 : Value) (sbase : Int) (last : Option Nat) (t : T) (b : Nat) (name : ByteArray) (base size : Int) (n0 n1 lines infos : Value) (w : World)
    (H : setIs w S m0 m1 m2 m3 m4 m5 sbase t.root last) (ht : t.At w none) (ha : t.AVL) (hnd : t.nodes.Nodup) (hlen : t.nodes.length < 2 ^ 59)
    (HF : fileIs w b name base size n0 n1 lines infos) (g1 : 0 ≤ base) (g2 : base ≤ 1099511627776) (g3 : 0 ≤ size) (g4 : size ≤ 1099511627776) :
    Calls Tryz.prog 56 #[.pointer (some ⟨S, 7, none⟩), .pointer (some ⟨b, 0, none⟩), .pointer (some (posOf S (spine t))), ptr (topOf (spine t))] w fun e w' => e = .returned (.tuple #[]) ∧
      Added S m0 m1 m2 m3 m4 m5 sbase last t b base (base + size) w w' := by
  have HL := Lib.hid hlen
  clear hlen
  have hSl : S < w.heap.size := lt_of_heap H
  have hctx := spine_ctx t ht ha
  have hroot := spine_root t
  cases hs : spine t with
  | nil =>
    rw [hs] at hroot
    have hr : t.root = none := hroot.symm
    have c7 : w.cell? ⟨S, 7, none⟩ = some (.pointer none) := by rw [cell_of H, hr]; rfl
    have H2 := Lib.hid hs
    clear hs hroot hr hctx
    rw [show posOf S [] = ⟨S, 7, none⟩ from rfl, show ptr (topOf []) = .pointer none from rfl]
    go_enter Tryz.func56, Tryz.ntmps56
    go_wp2_with fail
    refine (key_any b name base size n0 n1 lines infos _ HF g1 g2 g3 g4).mono ?_
    rintro e w1 ⟨rfl, hb1⟩
    have hz := hb1.size
    have c7' : w1.cell? ⟨S, 7, none⟩ = some (.pointer none) := (hb1.cell hSl).trans c7
    have z7' : w1.frozen? ⟨S, 7, none⟩ = false := (hb1.frozen hSl).trans (free_of H 7)
    obtain ⟨U, K⟩ := up_start' (fb := b) (lo := base) (hi := base + size) H ht ha hnd hb1
    rw [H2.out] at U K
    have hN : (t.nodes ++ [w1.heap.size]).Nodup := by have := U.perm.nodup_iff.1 U.nodup; exact this
    have hSl1 : S < w1.heap.size := by omega
    clear c7 hb1
    go_wp2_with fail
    refine (rebalanceUp_any S m0 m1 m2 m3 m4 m5 sbase last _ _ (by simp; have := HL.out; omega) _ w1.heap.size .nil .nil b base (base + size) [] 0 (-1) U).mono ?_
    rintro e w4 ⟨rfl, hfin⟩
    have R := added_of hz hN K hfin
    clear U K hfin c7' z7' hN H HF ht ha hnd
    go_wp2
    go_end0
    exact ⟨rfl, R⟩
  | cons q C =>
    rw [hs] at hctx
    have hq : q.b ∈ t.nodes := (spine_nodes t).mem_iff.2 (by rw [hs]; simp [frNodes, Fr.nodes])
    have hqb : q.b < w.heap.size := by obtain ⟨c, hc⟩ := ht.lt q.b hq; exact lt_of_heap hc
    have c7 : w.cell? ⟨q.b, 2, none⟩ = some (.pointer none) := hctx.1.c2
    have z7 := hctx.1.fz 2
    have H2 := Lib.hid hs
    clear hs hroot hctx hq
    rw [show posOf S (q :: C) = ⟨q.b, 2, none⟩ from rfl, show ptr (topOf (q :: C)) = .pointer (some ⟨q.b, 0, none⟩) from rfl]
    go_enter Tryz.func56, Tryz.ntmps56
    go_wp2_with fail
    refine (key_any b name base size n0 n1 lines infos _ HF g1 g2 g3 g4).mono ?_
    rintro e w1 ⟨rfl, hb1⟩
    have hz := hb1.size
    have c7' : w1.cell? ⟨q.b, 2, none⟩ = some (.pointer none) := (hb1.cell hqb).trans c7
    have z7' : w1.frozen? ⟨q.b, 2, none⟩ = false := (hb1.frozen hqb).trans z7
    obtain ⟨U, K⟩ := up_start' (fb := b) (lo := base) (hi := base + size) H ht ha hnd hb1
    rw [H2.out] at U K
    have hN : (t.nodes ++ [w1.heap.size]).Nodup := by have := U.perm.nodup_iff.1 U.nodup; exact this
    have hSl1 : q.b < w1.heap.size := by omega
    clear c7 hb1 z7
    go_wp2_with fail
    refine (rebalanceUp_any S m0 m1 m2 m3 m4 m5 sbase last _ _ (by simp; have := HL.out; omega) _ w1.heap.size .nil .nil b base (base + size) (q :: C) 0 (-1) U).mono ?_
    rintro e w4 ⟨rfl, hfin⟩
    have R := added_of hz hN K hfin
    clear U K hfin c7' z7' hN H HF ht ha hnd
    go_wp2
    go_end0
    exact ⟨rfl, R⟩

/-- The cell at the end of the spine holds nil. -/
theorem posOf_nil {w : World} {t : T} {S : Nat} {m0 m1 m2 m3 m4 m5 : Value} {base : Int} {last : Option Nat} (H : setIs w S m0 m1 m2 m3 m4 m5 base t.root last) (ht : t.At w none) (ha : t.AVL) :
    w.cell? (posOf S (spine t)) = some (.pointer none) ∧ (posOf S (spine t)).spot = none := by
  have hctx := spine_ctx t ht ha
  have hroot := spine_root t
  cases hs : spine t with
  | nil =>
    rw [hs] at hroot
    exact ⟨by rw [show posOf S [] = ⟨S, 7, none⟩ from rfl, cell_of H, ← hroot]; rfl, rfl⟩
  | cons q C => rw [hs] at hctx; exact ⟨hctx.1.c2, rfl⟩

theorem Added.of_below {S : Nat} {m0 m1 m2 m3 m4 m5 : Value} {base : Int} {last : Option Nat} {t : T} {fb : Nat} {lo hi : Int} {w w1 w' : World} (hb : Below w.heap.size w w1) (h : Added S m0 m1 m2 m3 m4 m5 base last t fb lo hi w1 w') : Added S m0 m1 m2 m3 m4 m5 base last t fb lo hi w w' := by
  obtain ⟨t', x, h0, h1, h2, h3, h4, h5, h6, h7⟩ := h
  exact ⟨t', x, Nat.le_trans hb.size h0, h1, h2, h3, h4, h5, h6, (Chg.of_below hb).trans h7⟩

set_option maxHeartbeats 1000000 in
theorem add_any (S : Nat) (m0 m1 m2 m3 m4 m5 : Value) (sbase : Int) (last : Option Nat) (t : T) (b : Nat) (name : ByteArray) (base size : Int) (n0 n1 lines infos : Value) (w : World)
    (H : setIs w S m0 m1 m2 m3 m4 m5 sbase t.root last) (ht : t.At w none) (ha : t.AVL) (hnd : t.nodes.Nodup) (hlen : t.nodes.length < 2 ^ 59) (hk : ∀ x ∈ t.files, x.2.1 ≤ x.2.2 ∧ x.2.2 < base)
    (HF : fileIs w b name base size n0 n1 lines infos) (g1 : 0 ≤ base) (g2 : base ≤ 1099511627776) (g3 : 0 ≤ size) (g4 : size ≤ 1099511627776) :
    Calls Tryz.prog 34 #[.pointer (some ⟨S, 7, none⟩), .pointer (some ⟨b, 0, none⟩)] w fun e w' => e = .returned (.tuple #[]) ∧
      Added S m0 m1 m2 m3 m4 m5 sbase last t b base (base + size) w w' := by
  have HL := Lib.hid hlen
  have hloc : t.loc base (base + size) ⟨S, 7, none⟩ none = (posOf S (spine t), topOf (spine t), .nil) := by
    rw [T.loc_last base (base + size) (by omega) t hk ⟨S, 7, none⟩]
    cases spine t <;> rfl
  have HLoc := Lib.hid hloc
  clear hlen hk hloc
  go_enter Tryz.func34, Tryz.ntmps34
  go_wp2_with fail
  refine (key_any b name base size n0 n1 lines infos _ HF g1 g2 g3 g4).mono ?_
  rintro e w1 ⟨rfl, hb1⟩
  have H1 := H.chg (Chg.of_below (M := fun _ => False) hb1) id
  have ht1 := ht.chg (Chg.of_below (M := fun _ => False) hb1) (fun _ _ => id)
  go_wp2_with fail
  refine (locate_any S t base (base + size) _ _ _ _ _ _ _ _ _ H1 ht1).mono ?_
  rw [HLoc.out]
  rintro e w2 ⟨rfl, hb2⟩
  have hb12 : Below w.heap.size w w2 := hb1.trans (hb2.mono hb1.size)
  have H2 := H.chg (Chg.of_below (M := fun _ => False) hb12) id
  have ht2 := ht.chg (Chg.of_below (M := fun _ => False) hb12) (fun _ _ => id)
  have HF2 := HF.chg (Chg.of_below (M := fun _ => False) hb12) id
  obtain ⟨c7, c8⟩ := posOf_nil H2 ht2 ha
  clear H1 ht1 hb1 hb2 H ht HF HLoc
  have hS := set_any S m0 m1 m2 m3 m4 m5 sbase last t b name base size n0 n1 lines infos _ H2 ht2 ha hnd HL.out HF2 g1 g2 g3 g4
  generalize posOf S (spine t) = pa at *
  generalize topOf (spine t) = pq at *
  have HS := Lib.hid hS
  clear hS
  go_wp2_with fail
  refine HS.out.mono ?_
  rintro e w4 ⟨rfl, hA⟩
  have R := hA.of_below hb12
  clear hA HS hb12 H2 ht2 HF2 ha hnd
  go_wp2
  refine bodyPost_ret (results_none rfl _ _ _) rfl ?_
  exact ⟨rfl, R⟩
end Go.Proofs.YtmijedghihebjaaGreatFmt
