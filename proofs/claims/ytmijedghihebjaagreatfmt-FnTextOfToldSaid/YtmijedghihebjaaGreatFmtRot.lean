/- replaceChild, rotateLeft: a rotation of the tree in memory. -/
import Derived.Test.YtmijedghihebjaaGreatFmtNode
import Derived.OwnWalk
import Derived.Lib.Builder
namespace Go.Proofs.YtmijedghihebjaaGreatFmt
open Go.RowKit

theorem Tryz.infoNode : (Tryz.prog.info? 124).map (fun i => (i.zero.isSome, i.size, i.bytes)) = some (true, 8, 56) := by kernel_rfl

theorem info_size {P : Program} {t : TypeId} {a : Bool} {n m : Nat} (h : (P.info? t).map (fun i => (i.zero.isSome, i.size, i.bytes)) = some (a, n, m)) : ∃ i, P.info? t = some i ∧ i.size = n := by
  cases hi : P.info? t with
  | none => simp [hi] at h
  | some i => simp [hi] at h; exact ⟨i, rfl, h.2.1⟩

/-- Pointers to nodes, compared. -/
theorem eql_same (b : Nat) (w : World) : (binOp .eql 88 (.pointer (some ⟨b, 0, none⟩)) (.pointer (some ⟨b, 0, none⟩))).run Tryz.prog w = .ok (.bool true) w := by
  obtain ⟨i, hi, _⟩ := info_size Tryz.infoNode
  exact run_eql_ptr_same w _ Tryz.underlying88 hi
theorem neq_same (b : Nat) (w : World) : (binOp .neq 88 (.pointer (some ⟨b, 0, none⟩)) (.pointer (some ⟨b, 0, none⟩))).run Tryz.prog w = .ok (.bool false) w := by
  obtain ⟨i, hi, _⟩ := info_size Tryz.infoNode
  exact Lib.run_neq_ptr_same w _ Tryz.underlying88 hi
theorem eql_other (b : Nat) (l : Option Nat) (w : World) (hb : ∃ c, w.heap[b]? = some (.cells c 124 (0, 0))) (hl : ∀ a, l = some a → ∃ c, w.heap[a]? = some (.cells c 124 (0, 0))) (hne : l ≠ some b) :
    (binOp .eql 88 (ptr l) (.pointer (some ⟨b, 0, none⟩))).run Tryz.prog w = .ok (.bool false) w := by
  obtain ⟨i, hi, hs⟩ := info_size Tryz.infoNode
  obtain ⟨c, hb⟩ := hb
  cases l with
  | none =>
    have h : ∀ d : Nat, (Op.equalIn (d + 1) 88 (.pointer none) (.pointer (some ⟨b, 0, none⟩))).run Tryz.prog w = .ok false w := fun d => by
      simp [Op.equalIn, run_underlying Tryz.underlying88, sizeOf, typeInfo]
    simp only [ptr_none, binOp]
    simp [Op.equal, Op.maxDepth, h 9999]
  | some a =>
    obtain ⟨d, ha⟩ := hl a rfl
    exact run_eql_ptr_other w Tryz.underlying88 hi (by omega) (by simp; intro e; exact hne (by rw [e])) ha hb

theorem replaceChild_root (S x y : Nat) (m0 m1 m2 m3 m4 m5 : Value) (base : Int) (last : Option Nat) (p' l' r' f' : Option Nat) (lo' hi' bal' h' : Int) (w : World) (H : setIs w S m0 m1 m2 m3 m4 m5 base (some x) last) (H' : nodeIs w y p' l' r' f' lo' hi' bal' h') :
    Calls Tryz.prog 102 #[.pointer (some ⟨S, 7, none⟩), .pointer none, .pointer (some ⟨x, 0, none⟩), .pointer (some ⟨y, 0, none⟩)] w fun e w' => e = .returned (.tuple #[]) ∧ w' = (w.setCell ⟨S, 7, none⟩ (ptr (some y))).setCell ⟨y, 0, none⟩ (ptr none) := by
  have c1 : w.cell? ⟨S, 7, none⟩ = some (.pointer (some ⟨x, 0, none⟩)) := by rw [cell_of H]; rfl
  have e1 := neq_same x w
  go_enter Tryz.func102, Tryz.ntmps102
  go_wp2_with (go_at_call 103; refine (setRoot_some S y m0 m1 m2 m3 m4 m5 base (some x) last p' l' r' f' lo' hi' bal' h' _ H H').mono ?_; rintro e w' ⟨rfl, rfl⟩)
  go_end0
  exact ⟨rfl, rfl⟩

theorem replaceChild_right (S x y q : Nat) (p l f : Option Nat) (lo hi bal h : Int) (p' l' r' f' : Option Nat) (lo' hi' bal' h' : Int) (w : World) (H : nodeIs w q p l (some x) f lo hi bal h) (H' : nodeIs w y p' l' r' f' lo' hi' bal' h')
    (hx : ∃ c, w.heap[x]? = some (.cells c 124 (0, 0))) (hl : ∀ a, l = some a → ∃ c, w.heap[a]? = some (.cells c 124 (0, 0))) (hne : l ≠ some x) (hyq : ¬ y = q) :
    Calls Tryz.prog 102 #[.pointer (some ⟨S, 7, none⟩), .pointer (some ⟨q, 0, none⟩), .pointer (some ⟨x, 0, none⟩), .pointer (some ⟨y, 0, none⟩)] w fun e w' => e = .returned (.tuple #[]) ∧ w' = (w.setCell ⟨q, 2, none⟩ (ptr (some y))).setCell ⟨y, 0, none⟩ (ptr (some q)) := by
  have c1 := H.c1
  have c2 : w.cell? ⟨q, 2, none⟩ = some (.pointer (some ⟨x, 0, none⟩)) := H.c2
  have e1 := eql_other x l w hx hl hne
  have e2 := eql_same x w
  clear hx hl hne
  cases l with
  | none =>
   simp only [ptr_none] at c1 e1
   go_enter Tryz.func102, Tryz.ntmps102
   go_wp2_with (go_at_call 101; refine (setRight_some q y p _ (some x) f lo hi bal h p' l' r' f' lo' hi' bal' h' _ H H' hyq).mono ?_; rintro e w' ⟨rfl, rfl⟩)
   go_end0
   exact ⟨rfl, rfl⟩
  | some a =>
   simp only [ptr_some] at c1 e1
   go_enter Tryz.func102, Tryz.ntmps102
   go_wp2_with (go_at_call 101; refine (setRight_some q y p _ (some x) f lo hi bal h p' l' r' f' lo' hi' bal' h' _ H H' hyq).mono ?_; rintro e w' ⟨rfl, rfl⟩)
   go_end0
   exact ⟨rfl, rfl⟩

/-- Who is apart from whom at a rotation. -/
theorem nd_rot {x y : Nat} {L M R C : List Nat} (h : ((L ++ x :: (M ++ y :: R)) ++ C).Nodup) :
    ¬ x = y ∧ (x ∉ L ∧ x ∉ M ∧ x ∉ R ∧ x ∉ C) ∧ (y ∉ L ∧ y ∉ M ∧ y ∉ R ∧ y ∉ C) ∧ (∀ k ∈ L, k ∉ M) ∧ (∀ k ∈ R, k ∉ M) ∧ (∀ k ∈ C, k ∉ M) ∧ M.Nodup ∧ (∀ k ∈ L, k ∉ C) ∧ (∀ k ∈ R, k ∉ C) := by
  simp only [List.nodup_append, List.nodup_cons, List.mem_append, List.mem_cons] at h
  obtain ⟨⟨hL, ⟨hx, hM, ⟨hy, hR⟩, hMR⟩, hLx⟩, hC, hall⟩ := h
  refine ⟨fun e => hx (by simp [e]), ⟨fun k => hLx x k x (by simp) rfl, fun k => hx (.inl k), fun k => hx (.inr (.inr k)), fun k => hall x (by simp) x k rfl⟩,
    ⟨fun k => hLx y k y (by simp) rfl, fun k => hMR y k y (by simp) rfl, hy, fun k => hall y (by simp) y k rfl⟩,
    fun k a b => hLx k a k (by simp [b]) rfl, fun k a b => hMR k b k (by simp [a]) rfl, fun k a b => hall k (by simp [b]) k a rfl, hM,
    fun k a b => hall k (by simp [a]) k b rfl, fun k a b => hall k (by simp [a]) k b rfl⟩

theorem setIs.chg {M : Nat → Prop} {w w' : World} {S : Nat} {m0 m1 m2 m3 m4 m5 : Value} {base : Int} {root last : Option Nat} (H : setIs w S m0 m1 m2 m3 m4 m5 base root last) (hc : Chg M w w') (hm : ¬ M S) : setIs w' S m0 m1 m2 m3 m4 m5 base root last := hc.at H hm
theorem setIs.root {w : World} {S : Nat} {m0 m1 m2 m3 m4 m5 : Value} {base : Int} {root last : Option Nat} (H : setIs w S m0 m1 m2 m3 m4 m5 base root last) (q : Option Nat) : setIs (w.setCell ⟨S, 7, none⟩ (ptr q)) S m0 m1 m2 m3 m4 m5 base q last := (heap_set H 7 _).trans rfl
theorem setIs.other {w : World} {S : Nat} {m0 m1 m2 m3 m4 m5 : Value} {base : Int} {root last : Option Nat} (H : setIs w S m0 m1 m2 m3 m4 m5 base root last) {c : Nat} (hne : ¬ S = c) (i : Nat) (v : Value) : setIs (w.setCell ⟨c, i, none⟩ v) S m0 m1 m2 m3 m4 m5 base root last := (heap_set_ne i v hne).trans H
theorem T.At.notS {w : World} {t : T} {p : Option Nat} (h : t.At w p) {S : Nat} {m0 m1 m2 m3 m4 m5 : Value} {base : Int} {root last : Option Nat} (H : setIs w S m0 m1 m2 m3 m4 m5 base root last) : S ∉ t.nodes := by
  intro hm
  obtain ⟨c, hc⟩ := h.lt S hm
  exact ne_of_type hc H (by decide) rfl
theorem Ctx.notS {w : World} {C : List Fr} {c : Option Nat} {h : Int} (hC : Ctx w c h C) {S : Nat} {m0 m1 m2 m3 m4 m5 : Value} {base : Int} {root last : Option Nat} (H : setIs w S m0 m1 m2 m3 m4 m5 base root last) : S ∉ frNodes C := by
  intro hm
  obtain ⟨c, hc⟩ := hC.lt S hm
  exact ne_of_type hc H (by decide) rfl
theorem Ctx.chg {M : Nat → Prop} {w w' : World} {C : List Fr} {c : Option Nat} {h : Int} (hC : Ctx w c h C) (hc : Chg M w w') (hm : ∀ b ∈ frNodes C, ¬ M b) : Ctx w' c h C :=
  hC.keep fun b hb => hc.block b (by obtain ⟨c, hc⟩ := hC.lt b hb; exact lt_of_heap hc) (hm b hb)

/-- replaceChild, whatever lies above. -/
theorem replaceChild_any (S x y : Nat) (C : List Fr) (m0 m1 m2 m3 m4 m5 : Value) (base h : Int) (last : Option Nat) (p' l' r' f' : Option Nat) (lo' hi' bal' h' : Int) (w : World)
    (H : setIs w S m0 m1 m2 m3 m4 m5 base (rootOf C (some x)) last) (H' : nodeIs w y p' l' r' f' lo' hi' bal' h') (hC : Ctx w (some x) h C) (hx : ∃ c, w.heap[x]? = some (.cells c 124 (0, 0)))
    (hxC : x ∉ frNodes C) (hyC : y ∉ frNodes C) (hnd : (frNodes C).Nodup) :
    Calls Tryz.prog 102 #[.pointer (some ⟨S, 7, none⟩), ptr (topOf C), .pointer (some ⟨x, 0, none⟩), .pointer (some ⟨y, 0, none⟩)] w fun e w' => e = .returned (.tuple #[]) ∧
      setIs w' S m0 m1 m2 m3 m4 m5 base (rootOf C (some y)) last ∧ nodeIs w' y (topOf C) l' r' f' lo' hi' bal' h' ∧ Ctx w' (some y) h C ∧ Chg (fun k => k = S ∨ k = y ∨ k ∈ frNodes C) w w' := by
  have hyS : ¬ y = S := ne_of_type H' H (by decide)
  cases C with
  | nil =>
    refine (replaceChild_root S x y m0 m1 m2 m3 m4 m5 base last p' l' r' f' lo' hi' bal' h' w H H').mono ?_
    rintro e w' ⟨rfl, rfl⟩
    refine ⟨rfl, (H.root (some y)).other (fun e => hyS e.symm) 0 _, (H'.other hyS 7 _).set0 none, True.intro, ?_⟩
    refine Chg.set (Chg.set (Chg.refl _ _) ?_ _) ?_ _ <;> simp
  | cons q C =>
    have hq : q.b ∈ frNodes (q :: C) := by simp [frNodes, Fr.nodes]
    have hyq : ¬ y = q.b := fun e => hyC (e ▸ hq)
    have hqS : ¬ q.b = S := by
      obtain ⟨c, hc⟩ := hC.lt q.b hq
      exact ne_of_type hc H (by decide)
    have hlx : q.l.root ≠ some x := fun e => hxC (by simp [frNodes, Fr.nodes, T.root_mem e])
    refine (replaceChild_right S x y q.b (topOf C) q.l.root (some q.f) q.lo q.hi _ _ p' l' r' f' lo' hi' bal' h' w hC.1 H' hx (fun a ha => hC.2.1.lt a (T.root_mem ha)) hlx hyq).mono ?_
    rintro e w' ⟨rfl, rfl⟩
    refine ⟨rfl, (H.other (fun e => hqS e.symm) 2 _).other (fun e => hyS e.symm) 0 _, (H'.other hyq 2 _).set0 (some q.b), ?_, ?_⟩
    · refine hC.swap ((hC.1.set2 (some y)).other (fun e => hyq e.symm) 0 _) fun b hb => ?_
      have hbq : ¬ b = q.b := by
        rintro rfl
        simp only [frNodes, List.flatMap_cons, Fr.nodes, List.cons_append, List.nodup_cons] at hnd
        exact hnd.1 hb
      have hby : ¬ b = y := by
        rintro rfl
        exact hyC (by simp only [frNodes, List.flatMap_cons, Fr.nodes, List.cons_append, List.mem_cons]; exact .inr hb)
      rw [heap_set_ne 0 _ hby, heap_set_ne 2 _ hbq]
    · refine Chg.set (Chg.set (Chg.refl _ _) ?_ _) ?_ _ <;> simp [hq]

set_option maxHeartbeats 1000000 in
theorem rotateLeft_any (S x y : Nat) (l yl yr : T) (f fy : Nat) (lo hi loy hiy : Int) (C : List Fr) (m0 m1 m2 m3 m4 m5 : Value) (base h : Int) (last : Option Nat) (w : World)
    (H : setIs w S m0 m1 m2 m3 m4 m5 base (rootOf C (some x)) last) (hs : (T.node x l f lo hi (.node y yl fy loy hiy yr)).At w (topOf C)) (hC : Ctx w (some x) h C)
    (hnd : ((T.node x l f lo hi (.node y yl fy loy hiy yr)).nodes ++ frNodes C).Nodup)
    (g1 : l.ht ≤ 500) (g2 : yl.ht ≤ 500) (g3 : yr.ht ≤ 500) (g4 : -2 ≤ yr.ht - yl.ht) (g5 : yr.ht - yl.ht ≤ 2) (g6 : -2 ≤ (T.node y yl fy loy hiy yr).ht - l.ht) (g7 : (T.node y yl fy loy hiy yr).ht - l.ht ≤ 2) :
    Calls Tryz.prog 86 #[.pointer (some ⟨S, 7, none⟩), .pointer (some ⟨x, 0, none⟩)] w fun e w' => e = .returned (.pointer (some ⟨y, 0, none⟩)) ∧
      setIs w' S m0 m1 m2 m3 m4 m5 base (rootOf C (some y)) last ∧ (T.node y (.node x l f lo hi yl) fy loy hiy yr).At w' (topOf C) ∧ Ctx w' (some y) h C ∧
      Chg (fun k => k = S ∨ k ∈ (T.node x l f lo hi (.node y yl fy loy hiy yr)).nodes ∨ k ∈ frNodes C) w w' := by
  obtain ⟨hxy, ⟨xL, xM, xR, xC⟩, ⟨yL, yM, yR, yC⟩, LM, RM, CM, ndM, LC, RC⟩ := nd_rot (by simpa only [T.nodes] using hnd)
  have ndC : (frNodes C).Nodup := (List.nodup_append.1 hnd).2.1
  obtain ⟨Hx, hl, Hy, hyl, hyr⟩ := hs
  have gl := l.ht_ge
  have gm := yl.ht_ge
  have gr := yr.ht_ge
  have SL := hl.notS H
  have SM := hyl.notS H
  have SR := hyr.notS H
  have SC := hC.notS H
  have Sx : ¬ S = x := fun e => ne_of_type Hx H (by decide) e.symm
  have Sy : ¬ S = y := fun e => ne_of_type Hy H (by decide) e.symm
  have c0 := Hx.c0
  have c1 : w.cell? ⟨x, 2, none⟩ = some (.pointer (some ⟨y, 0, none⟩)) := Hx.c2
  have c2 := Hy.c1
  have HHy : HtAt w (some y) (T.node y yl fy loy hiy yr).ht := Hy.c7
  have HHl := hl.ht
  have HHm := hyl.ht
  have HHr := hyr.ht
  generalize hty : (T.node y yl fy loy hiy yr).ht = hy at *
  have Hty : Hid (max yl.ht yr.ht + 1 = hy) := hty
  have hyb : hy ≤ 600 ∧ -1 ≤ hy := by simp only [T.ht] at hty; omega
  clear hty
  go_enter Tryz.func86, Tryz.ntmps86
  go_wp2_with fail
  refine (checkBalance_any x _ _ _ _ _ _ l.ht hy _ Hx HHl HHy (by omega) (by omega) (by omega) (by omega) (by omega) (by omega)).mono ?_
  rintro e w1 ⟨rfl, n1, hw1⟩
  have K1 : Chg (fun _ => False) w w1 := by rw [hw1]; exact (Chg.refl _ _).drewN _
  have HHm1 : HtAt w1 yl.root yl.ht := (hyl.chg K1 fun _ _ => id).ht
  have HHr1 : HtAt w1 yr.root yr.ht := (hyr.chg K1 fun _ _ => id).ht
  have Hy1 := Hy.chg K1 id
  clear hw1
  go_wp2_with fail
  refine (checkBalance_any y _ _ _ _ _ _ yl.ht yr.ht _ Hy1 HHm1 HHr1 (by omega) (by omega) (by omega) (by omega) (by omega) (by omega)).mono ?_
  rintro e w2 ⟨rfl, n2, hw2⟩
  have K2 : Chg (fun _ => False) w w2 := K1.trans (by rw [hw2]; exact (Chg.refl _ _).drewN _)
  have Hx2 := Hx.chg K2 id
  have Hy2 := Hy.chg K2 id
  clear hw2 HHm1 HHr1 Hy1 K1
  go_wp2_with fail
  refine (setLeft_some y x _ _ _ _ _ _ _ _ _ _ _ _ _ _ _ _ _ Hy2 Hx2 hxy).mono ?_
  rintro e w3 ⟨rfl, hw3⟩
  have K3 : Chg (fun k => k = x ∨ k = y) w2 w3 := by rw [hw3]; refine Chg.set (Chg.set (Chg.refl _ _) ?_ _) ?_ _ <;> simp
  have Hx3 : nodeIs w3 x (some y) l.root (some y) (some f) lo hi (hy - l.ht) (max l.ht hy + 1) := by rw [hw3]; exact (Hx2.other hxy 1 _).set0 (some y)
  have Hy3 : nodeIs w3 y (some x) (some x) yr.root (some fy) loy hiy (yr.ht - yl.ht) (max yl.ht yr.ht + 1) := by rw [hw3]; exact (Hy2.set1 (some x)).other (fun e => hxy e.symm) 0 _
  have K3' : Chg (fun k => k = x ∨ k = y) w w3 := (K2.mono fun _ _ h => h.elim).trans K3
  have hl3 := hl.chg K3' (fun b hb h => by rcases h with rfl | rfl; exact xL hb; exact yL hb)
  have hyl3 := hyl.chg K3' (fun b hb h => by rcases h with rfl | rfl; exact xM hb; exact yM hb)
  have hyr3 := hyr.chg K3' (fun b hb h => by rcases h with rfl | rfl; exact xR hb; exact yR hb)
  have hC3 := hC.chg K3' (fun b hb h => by rcases h with rfl | rfl; exact xC hb; exact yC hb)
  have H3 := H.chg K3' (by simp [Sx, Sy])
  clear hw3 K3 K2 Hx2 Hy2 hl hyl hyr hC H Hx Hy HHl HHm HHr HHy c0 c1 c2
  go_wp2_with fail
  refine (setRight_tree x _ _ _ _ _ _ _ _ yl (some y) _ Hx3 hyl3 xM ndM).mono ?_
  rintro e w4 ⟨rfl, Hx4, hyl4, K4⟩
  have hl4 := hl3.chg K4 (fun b hb h => by rcases h with rfl | h; exact xL hb; exact LM b hb h)
  have hyr4 := hyr3.chg K4 (fun b hb h => by rcases h with rfl | h; exact xR hb; exact RM b hb h)
  have hC4 := hC3.chg K4 (fun b hb h => by rcases h with rfl | h; exact xC hb; exact CM b hb h)
  have H4 := H3.chg K4 (by simp [Sx, SM])
  have Hy4 := Hy3.chg K4 (by rintro (h | h); exact hxy h.symm; exact yM h)
  clear hl3 hyl3 hyr3 hC3 H3 Hx3 Hy3
  go_wp2_with fail
  refine (replaceChild_any S x y C _ _ _ _ _ _ _ h _ _ _ _ _ _ _ _ _ _ H4 Hy4 hC4 ⟨_, Hx4⟩ xC yC ndC).mono ?_
  rintro e w5 ⟨rfl, H5, Hy5, hC5, K5⟩
  have hl5 := hl4.chg K5 (fun b hb h => by rcases h with rfl | rfl | h; exact SL hb; exact yL hb; exact LC b hb h)
  have hyl5 := hyl4.chg K5 (fun b hb h => by rcases h with rfl | rfl | h; exact SM hb; exact yM hb; exact CM b h hb)
  have hyr5 := hyr4.chg K5 (fun b hb h => by rcases h with rfl | rfl | h; exact SR hb; exact yR hb; exact RC b hb h)
  have Hx5 := Hx4.chg K5 (by rintro (h | h | h); exact Sx h.symm; exact hxy h; exact xC h)
  have HHl5 := hl5.ht
  have HHm5 := hyl5.ht
  clear hl4 hyl4 hyr4 hC4 H4 Hx4 Hy4
  go_wp2_with fail
  refine (update_any x _ _ _ _ _ _ l.ht yl.ht _ _ _ Hx5 HHl5 HHm5 (by omega) (by omega) (by omega) (by omega)).mono ?_
  rintro e w6 ⟨rfl, Hx6, K6⟩
  have HHx6 : HtAt w6 (some x) (max l.ht yl.ht + 1) := Hx6.c7
  have hl6 := hl5.chg K6 (fun b hb h => xL (h ▸ hb))
  have hyl6 := hyl5.chg K6 (fun b hb h => xM (h ▸ hb))
  have hyr6 := hyr5.chg K6 (fun b hb h => xR (h ▸ hb))
  have hC6 := hC5.chg K6 (fun b hb h => xC (h ▸ hb))
  have H6 := H5.chg K6 Sx
  have Hy6 := Hy5.chg K6 (fun e => hxy e.symm)
  have HHr6 := hyr6.ht
  clear hl5 hyl5 hyr5 hC5 H5 Hx5 Hy5 HHl5 HHm5
  go_wp2_with fail
  refine (update_any y _ _ _ _ _ _ (max l.ht yl.ht + 1) yr.ht _ _ _ Hy6 HHx6 HHr6 (by omega) (by omega) (by omega) (by omega)).mono ?_
  rintro e w7 ⟨rfl, Hy7, K7⟩
  have hl7 := hl6.chg K7 (fun b hb h => yL (h ▸ hb))
  have hyl7 := hyl6.chg K7 (fun b hb h => yM (h ▸ hb))
  have hyr7 := hyr6.chg K7 (fun b hb h => yR (h ▸ hb))
  have hC7 := hC6.chg K7 (fun b hb h => yC (h ▸ hb))
  have H7 := H6.chg K7 Sy
  have Hx7 := Hx6.chg K7 hxy
  have hx' : x ∈ (T.node x l f lo hi (.node y yl fy loy hiy yr)).nodes := by simp [T.nodes]
  have hy' : y ∈ (T.node x l f lo hi (.node y yl fy loy hiy yr)).nodes := by simp [T.nodes]
  have hM' : ∀ k ∈ yl.nodes, k ∈ (T.node x l f lo hi (.node y yl fy loy hiy yr)).nodes := fun k hk => by simp [T.nodes, hk]
  have KK : Chg (fun k => k = S ∨ k ∈ (T.node x l f lo hi (.node y yl fy loy hiy yr)).nodes ∨ k ∈ frNodes C) w w7 := by
    refine ((((K3'.mono ?_).step K4 ?_).step K5 ?_).step K6 ?_).step K7 ?_
    · rintro k _ (rfl | rfl)
      · exact .inr (.inl hx')
      · exact .inr (.inl hy')
    · rintro k _ (rfl | h)
      · exact .inr (.inl hx')
      · exact .inr (.inl (hM' k h))
    · rintro k _ (rfl | rfl | h)
      · exact .inl rfl
      · exact .inr (.inl hy')
      · exact .inr (.inr h)
    · rintro k _ rfl
      exact .inr (.inl hx')
    · rintro k _ rfl
      exact .inr (.inl hy')
  clear K3' K4 K5 K6 K7 hl6 hyl6 hyr6 hC6 H6 Hx6 Hy6 HHx6 HHr6 hx' hy' hM'
  go_wp2
  go_ret
  exact ⟨rfl, H7, ⟨Hy7, ⟨Hx7, hl7, hyl7⟩, hyr7⟩, hC7, KK⟩
end Go.Proofs.YtmijedghihebjaaGreatFmt
