/- rebalanceUp behind an insertion at the right end of the tree. -/
import Derived.Test.YtmijedghihebjaaGreatFmtRot
import Derived.Deep.LoopGhost
import Derived.Lib.Hide
namespace Go.Proofs.YtmijedghihebjaaGreatFmt
open Go.RowKit

/-- The tree behind the insertion. -/
def Fin (S : Nat) (m0 m1 m2 m3 m4 m5 : Value) (base : Int) (last : Option Nat) (F : List (Nat × Int × Int)) (N : List Nat) (w wr : World) : Prop :=
  ∃ t : T, t.At wr none ∧ t.AVL ∧ setIs wr S m0 m1 m2 m3 m4 m5 base t.root last ∧ t.files = F ∧ t.nodes.Perm N ∧ Chg (fun k => k = S ∨ k ∈ N) w wr

/-- On the way up, at the node x. -/
structure Up (S : Nat) (m0 m1 m2 m3 m4 m5 : Value) (base : Int) (last : Option Nat) (F : List (Nat × Int × Int)) (N : List Nat) (w wr : World) (x : Nat) (l r : T) (f : Nat) (lo hi : Int) (C : List Fr) (b0 h0 : Int) : Prop where
  nd : nodeIs wr x (topOf C) l.root r.root (some f) lo hi b0 h0
  hl : l.At wr (some x)
  hr : r.At wr (some x)
  al : l.AVL
  ar : r.AVL
  hC : Ctx wr (some x) h0 C
  hS : setIs wr S m0 m1 m2 m3 m4 m5 base (rootOf C (some x)) last
  nodup : ((l.nodes ++ x :: r.nodes) ++ frNodes C).Nodup
  perm : ((l.nodes ++ x :: r.nodes) ++ frNodes C).Perm N
  files : frFiles C ++ (l.files ++ (f, lo, hi) :: r.files) = F
  chg : Chg (fun k => k = S ∨ k ∈ N) w wr
  cond : (l = .nil ∧ r = .nil ∧ h0 = -1) ∨ (Tall r ∧ h0 = max l.ht (r.ht - 1) + 1 ∧ -1 ≤ r.ht - 1 - l.ht ∧ r.ht - 1 - l.ht ≤ 1)

section
variable {S : Nat} {m0 m1 m2 m3 m4 m5 : Value} {base : Int} {last : Option Nat} {F : List (Nat × Int × Int)} {N : List Nat} {w wr wu : World} {x : Nat} {l r : T} {f : Nat} {lo hi : Int} {C : List Fr} {b0 h0 : Int}

theorem Up.mem (U : Up S m0 m1 m2 m3 m4 m5 base last F N w wr x l r f lo hi C b0 h0) : x ∈ N ∧ (∀ k ∈ l.nodes, k ∈ N) ∧ (∀ k ∈ r.nodes, k ∈ N) ∧ (∀ k ∈ frNodes C, k ∈ N) :=
  ⟨U.perm.mem_iff.1 (by simp), fun k hk => U.perm.mem_iff.1 (by simp [hk]), fun k hk => U.perm.mem_iff.1 (by simp [hk]), fun k hk => U.perm.mem_iff.1 (by simp [hk])⟩

theorem Up.apart (U : Up S m0 m1 m2 m3 m4 m5 base last F N w wr x l r f lo hi C b0 h0) : x ∉ l.nodes ∧ x ∉ r.nodes ∧ x ∉ frNodes C ∧ ¬ S = x := by
  have h := U.nodup
  simp only [List.nodup_append, List.nodup_cons, List.mem_append, List.mem_cons] at h
  obtain ⟨⟨hL, ⟨hx, hR⟩, hLx⟩, hC, hall⟩ := h
  exact ⟨fun k => hLx x k x (by simp) rfl, hx, fun k => hall x (by simp) x k rfl, fun e => ne_of_type U.nd U.hS (by decide) e.symm⟩

/-- The heights, as small numbers. -/
theorem Up.small (U : Up S m0 m1 m2 m3 m4 m5 base last F N w wr x l r f lo hi C b0 h0) (hN : N.length < 2 ^ 60) : -1 ≤ l.ht ∧ l.ht ≤ 130 ∧ -1 ≤ r.ht ∧ r.ht ≤ 130 := by
  have hlen := U.perm.length_eq
  simp only [List.length_append, List.length_cons] at hlen
  exact ⟨l.ht_ge, U.al.small (by omega), r.ht_ge, U.ar.small (by omega)⟩

/-- Behind x.update() the subtree at x is in order again; all else is as it was. -/
theorem Up.updated (U : Up S m0 m1 m2 m3 m4 m5 base last F N w wr x l r f lo hi C b0 h0) (hn : nodeIs wu x (topOf C) l.root r.root (some f) lo hi (r.ht - l.ht) (max l.ht r.ht + 1)) (K : Chg (· = x) wr wu) :
    (T.node x l f lo hi r).At wu (topOf C) ∧ Ctx wu (some x) h0 C ∧ setIs wu S m0 m1 m2 m3 m4 m5 base (rootOf C (some x)) last ∧ Chg (fun k => k = S ∨ k ∈ N) w wu := by
  obtain ⟨a1, a2, a3, a4⟩ := U.apart
  refine ⟨⟨hn, U.hl.chg K (fun b hb h => a1 (h ▸ hb)), U.hr.chg K (fun b hb h => a2 (h ▸ hb))⟩, U.hC.chg K (fun b hb h => a3 (h ▸ hb)), U.hS.chg K a4, U.chg.step K ?_⟩
  rintro k _ rfl
  exact .inr U.mem.1

/-- A subtree in the hole, of the height that the spine expects: the tree is done. -/
theorem fin_of {s : T} {h : Int} (hs : s.At wu (topOf C)) (ha : s.AVL) (hh : s.ht = h) {c : Nat} (hc : s.root = some c) (hC : Ctx wu (some c) h C) (hS : setIs wu S m0 m1 m2 m3 m4 m5 base (rootOf C (some c)) last)
    (hF : frFiles C ++ s.files = F) (hN : (s.nodes ++ frNodes C).Perm N) (hK : Chg (fun k => k = S ∨ k ∈ N) w wu) : Fin S m0 m1 m2 m3 m4 m5 base last F N w wu := by
  have := plug_at C s hs ha (by rw [hc, hh]; exact hC)
  exact ⟨plug C s, this.1, this.2, by rw [rootOf_plug, hc]; exact hS, by rw [plug_files]; exact hF, (plug_nodes C s).trans (List.perm_append_comm.trans hN), hK⟩

/-- One step up: the node's subtree has grown by 1. -/
theorem Up.next {q : Fr} {C : List Fr} {h0 : Int} (U : Up S m0 m1 m2 m3 m4 m5 base last F N w wr x l r f lo hi (q :: C) b0 h0) (hs : (T.node x l f lo hi r).At wu (some q.b)) (hC : Ctx wu (some x) h0 (q :: C)) (hS : setIs wu S m0 m1 m2 m3 m4 m5 base (rootOf (q :: C) (some x)) last)
    (hK : Chg (fun k => k = S ∨ k ∈ N) w wu) (ha : -1 ≤ r.ht - l.ht ∧ r.ht - l.ht ≤ 1) (hg : max l.ht r.ht + 1 = h0 + 1) (ht : Tall (.node x l f lo hi r)) :
    Up S m0 m1 m2 m3 m4 m5 base last F N w wu q.b q.l (.node x l f lo hi r) q.f q.lo q.hi C (h0 - q.l.ht) (max q.l.ht h0 + 1) := by
  obtain ⟨h1, h2, h3, h4, h5, h6⟩ := hC
  have hp : ((q.l.nodes ++ q.b :: (T.node x l f lo hi r).nodes) ++ frNodes C).Perm ((l.nodes ++ x :: r.nodes) ++ frNodes (q :: C)) := by
    refine List.perm_iff_count.2 fun a => ?_
    simp [T.nodes, frNodes, Fr.nodes, List.count_append, List.count_cons]
    omega
  refine ⟨h1, h2, hs, h3, ⟨U.al, U.ar, ha.1, ha.2⟩, h6, hS, hp.nodup_iff.2 U.nodup, hp.trans U.perm, ?_, hK, .inr ⟨ht, ?_, ?_, ?_⟩⟩
  · rw [← U.files]; simp [frFiles, T.files]
  · simp only [T.ht]; rw [hg]; omega
  · simp only [T.ht]; omega
  · simp only [T.ht]; omega
end

/-- What holds at the loop's head. -/
def RebRel (S : Nat) (m0 m1 m2 m3 m4 m5 : Value) (base : Int) (last : Option Nat) (F : List (Nat × Int × Int)) (N : List Nat) (w : World) (k : Nat) (v : Value) (wr : World) : Prop :=
  (∃ x l r f lo hi C b0 h0, v = .pointer (some ⟨x, 0, none⟩) ∧ k = C.length + 1 ∧ Up S m0 m1 m2 m3 m4 m5 base last F N w wr x l r f lo hi C b0 h0) ∨ (v = .pointer none ∧ k = 0 ∧ Fin S m0 m1 m2 m3 m4 m5 base last F N w wr)

/-- From the end of a round to the next head: up to the parent, whose subtree has grown. -/
theorem reb_next {S : Nat} {m0 m1 m2 m3 m4 m5 : Value} {base : Int} {last : Option Nat} {F : List (Nat × Int × Int)} {N : List Nat} {w wr wu : World} {x : Nat} {l r : T} {f : Nat} {lo hi : Int} {C : List Fr} {b0 h0 : Int}
    (U : Up S m0 m1 m2 m3 m4 m5 base last F N w wr x l r f lo hi C b0 h0) (hn : nodeIs wu x (topOf C) l.root r.root (some f) lo hi (r.ht - l.ht) (max l.ht r.ht + 1)) (K : Chg (· = x) wr wu)
    (ha : -1 ≤ r.ht - l.ht ∧ r.ht - l.ht ≤ 1) (hg : max l.ht r.ht + 1 = h0 + 1) (ht : Tall (.node x l f lo hi r)) : RebRel S m0 m1 m2 m3 m4 m5 base last F N w C.length (ptr (topOf C)) wu := by
  obtain ⟨h1, h2, h3, h4⟩ := U.updated hn K
  cases C with
  | nil =>
    refine .inr ⟨rfl, rfl, fin_of (C := []) h1 ⟨U.al, U.ar, ha.1, ha.2⟩ rfl rfl True.intro h3 ?_ ?_ h4⟩
    · exact U.files
    · have := U.perm; simpa [T.nodes] using this
  | cons q C => exact .inl ⟨q.b, q.l, .node x l f lo hi r, q.f, q.lo, q.hi, C, _, _, rfl, rfl, U.next h1 h2 h3 h4 ha hg ht⟩

/-- The round ends the call: the height has not changed. -/
theorem reb_same {S : Nat} {m0 m1 m2 m3 m4 m5 : Value} {base : Int} {last : Option Nat} {F : List (Nat × Int × Int)} {N : List Nat} {w wr wu : World} {x : Nat} {l r : T} {f : Nat} {lo hi : Int} {C : List Fr} {b0 h0 : Int}
    (U : Up S m0 m1 m2 m3 m4 m5 base last F N w wr x l r f lo hi C b0 h0) (hn : nodeIs wu x (topOf C) l.root r.root (some f) lo hi (r.ht - l.ht) (max l.ht r.ht + 1)) (K : Chg (· = x) wr wu)
    (ha : -1 ≤ r.ht - l.ht ∧ r.ht - l.ht ≤ 1) (hg : max l.ht r.ht + 1 = h0) : Fin S m0 m1 m2 m3 m4 m5 base last F N w wu := by
  obtain ⟨h1, h2, h3, h4⟩ := U.updated hn K
  refine fin_of (C := C) h1 ⟨U.al, U.ar, ha.1, ha.2⟩ hg rfl h2 h3 ?_ ?_ h4
  · rw [← U.files]; simp [T.files]
  · have := U.perm; simpa [T.nodes] using this

/-- Behind a rotation the height is what it was: the call ends. -/
theorem reb_rot {S : Nat} {m0 m1 m2 m3 m4 m5 : Value} {base : Int} {last : Option Nat} {F : List (Nat × Int × Int)} {N : List Nat} {w wr wu wv : World} {x y : Nat} {l yl yr : T} {f fy : Nat} {lo hi loy hiy : Int} {C : List Fr} {b0 h0 : Int}
    (U : Up S m0 m1 m2 m3 m4 m5 base last F N w wr x l (.node y yl fy loy hiy yr) f lo hi C b0 h0) (h4 : Chg (fun k => k = S ∨ k ∈ N) w wu)
    (hS : setIs wv S m0 m1 m2 m3 m4 m5 base (rootOf C (some y)) last) (hs : (T.node y (.node x l f lo hi yl) fy loy hiy yr).At wv (topOf C)) (hC : Ctx wv (some y) h0 C)
    (K : Chg (fun k => k = S ∨ k ∈ (T.node x l f lo hi (.node y yl fy loy hiy yr)).nodes ∨ k ∈ frNodes C) wu wv)
    (e1 : yr.ht = l.ht + 1) (e2 : yl.ht = l.ht) (e3 : h0 = l.ht + 2) : Fin S m0 m1 m2 m3 m4 m5 base last F N w wv := by
  obtain ⟨al, ar, _⟩ := U.ar
  obtain ⟨n1, n2, n3, n4⟩ := U.mem
  refine fin_of (C := C) hs ⟨⟨U.al, al, by omega, by omega⟩, ar, by simp only [T.ht]; omega, by simp only [T.ht]; omega⟩ (by simp only [T.ht]; omega) rfl hC hS ?_ ?_ (h4.step K ?_)
  · rw [← U.files]; simp [T.files]
  · refine List.Perm.trans ?_ U.perm
    refine List.perm_iff_count.2 fun a => ?_
    simp [T.nodes, List.count_append, List.count_cons]
  · rintro k _ (h | h | h)
    · exact .inl h
    · simp only [T.nodes, List.mem_append, List.mem_cons] at h
      rcases h with h | rfl | h | rfl | h
      · exact .inr (n2 k h)
      · exact .inr n1
      · exact .inr (n3 k (by simp [T.nodes, h]))
      · exact .inr (n3 k (by simp [T.nodes]))
      · exact .inr (n3 k (by simp [T.nodes, h]))
    · exact .inr (n4 k h)

theorem Up.ways {S : Nat} {m0 m1 m2 m3 m4 m5 : Value} {base : Int} {last : Option Nat} {F : List (Nat × Int × Int)} {N : List Nat} {w wr : World} {x : Nat} {l r : T} {f : Nat} {lo hi : Int} {C : List Fr} {b0 h0 : Int}
    (U : Up S m0 m1 m2 m3 m4 m5 base last F N w wr x l r f lo hi C b0 h0) :
    (max l.ht r.ht + 1 = h0 + 1 ∧ (-1 ≤ r.ht - l.ht ∧ r.ht - l.ht ≤ 1) ∧ Tall (.node x l f lo hi r)) ∨ (max l.ht r.ht + 1 = h0 ∧ (-1 ≤ r.ht - l.ht ∧ r.ht - l.ht ≤ 1)) ∨
    ∃ y yl fy loy hiy yr, r = .node y yl fy loy hiy yr ∧ yr.ht = l.ht + 1 ∧ yl.ht = l.ht ∧ h0 = l.ht + 2 := by
  rcases U.cond with ⟨rfl, rfl, rfl⟩ | ⟨h1, h2, h3, h4⟩
  · exact .inl ⟨by simp [T.ht], by simp [T.ht], .inr ⟨rfl, rfl⟩⟩
  · by_cases e : r.ht = l.ht
    · exact .inr (.inl ⟨by omega, by omega⟩)
    · by_cases e2 : r.ht = l.ht + 1
      · exact .inl ⟨by omega, by omega, .inl e2⟩
      · right; right
        cases r with
        | nil => exact h1.elim
        | node y yl fy loy hiy yr =>
          have gl := l.ht_ge
          simp only [T.ht] at h2 h3 h4 e e2
          rcases h1 with h1 | ⟨rfl, rfl⟩
          · exact ⟨y, yl, fy, loy, hiy, yr, rfl, by omega, by omega, by omega⟩
          · simp only [T.ht] at e e2 h2 h3 h4; omega

set_option maxHeartbeats 1000000 in
theorem rebalanceUp_any (S : Nat) (m0 m1 m2 m3 m4 m5 : Value) (base : Int) (last : Option Nat) (F : List (Nat × Int × Int)) (N : List Nat) (hN : N.length < 2 ^ 60) (w : World) (x : Nat) (l r : T) (f : Nat) (lo hi : Int) (C : List Fr) (b0 h0 : Int)
    (U : Up S m0 m1 m2 m3 m4 m5 base last F N w w x l r f lo hi C b0 h0) :
    Calls Tryz.prog 73 #[.pointer (some ⟨S, 7, none⟩), .pointer (some ⟨x, 0, none⟩)] w fun e w' => e = .returned (.tuple #[]) ∧ Fin S m0 m1 m2 m3 m4 m5 base last F N w w' := by
  have H0 : RebRel S m0 m1 m2 m3 m4 m5 base last F N w (C.length + 1) (.pointer (some ⟨x, 0, none⟩)) w := .inl ⟨x, l, r, f, lo, hi, C, b0, h0, rfl, rfl, U⟩
  have HN := Lib.hid hN
  clear U hN
  go_enter Tryz.func73, Tryz.ntmps73
  go_wp2
  go_loopg [1] (C.length + 1) (fun k v wr => RebRel S m0 m1 m2 m3 m4 m5 base last F N w k v wr)
  case atStart => exact H0
  case round =>
    clear H0
    rcases hrel with ⟨x, l, r, f, lo, hi, C, b0, h0, rfl, rfl, U⟩ | ⟨rfl, rfl, hfin⟩
    · obtain ⟨g1, g2, g3, g4⟩ := U.small HN.out
      have c7 := U.nd.c7
      have Hl := U.hl.ht
      have Hr := U.hr.ht
      go_wp2_with fail
      refine (update_any x _ _ _ _ _ _ l.ht r.ht _ _ _ U.nd Hl Hr (by omega) (by omega) (by omega) (by omega)).mono ?_
      rintro e wu ⟨rfl, hn, K⟩
      have d6 := hn.c6
      have d7 := hn.c7
      have d0 := hn.c0
      rcases U.ways with ⟨e1, e2, e3⟩ | ⟨e1, e2⟩ | ⟨y, yl, fy, loy, hiy, yr, rfl, e1, e2, e3⟩
      · have R := reb_next U hn K e2 e1 e3
        clear hn K U Hl Hr c7
        have hb : h0 < max l.ht r.ht + 1 ∧ max l.ht r.ht ≤ 200 := by omega
        obtain ⟨b1, b2⟩ := hb
        obtain ⟨e4, e5⟩ := e2
        clear e1 e3 g1 g2 g3 g4
        generalize r.ht - l.ht = d at *
        generalize max l.ht r.ht + 1 = nh at *
        go_wp2
        go_roundg C.length
        case measure => omega
        case rel => exact R
      · have R := reb_same U hn K e2 e1
        clear hn K U Hl Hr c7
        obtain ⟨e4, e5⟩ := e2
        rw [e1] at d7
        clear e1 g1 g2 g3 g4
        generalize r.ht - l.ht = d at *
        go_wp2
        refine bodyPost_ret (results_none rfl _ _ _) rfl ?_
        exact ⟨rfl, R⟩
      · obtain ⟨p1, p2, p3, p4⟩ := U.updated hn K
        have hnd := U.nodup
        obtain ⟨q1, q2⟩ : yl.ht ≤ 300 ∧ yr.ht ≤ 300 := by omega
        have q3 : (T.node y yl fy loy hiy yr).ht = l.ht + 2 := by simp only [T.ht]; omega
        have s1 : wu.cell? ⟨x, 2, none⟩ = some (.pointer (some ⟨y, 0, none⟩)) := p1.1.c2
        have s2 : wu.cell? ⟨y, 6, none⟩ = some (.int .i32 1) := by
          have := p1.2.2.1.c6
          rw [show yr.ht - yl.ht = 1 by omega] at this
          exact this
        rw [show (T.node y yl fy loy hiy yr).ht - l.ht = 2 by omega] at d6
        have E1 := Lib.hid e1
        have E2 := Lib.hid e2
        have E3 := Lib.hid e3
        have Q3 := Lib.hid q3
        clear hn K Hl Hr c7 e1 e2 e3 q3 d7 d0 g3 g4
        go_wp2_with fail
        refine (rotateLeft_any S x y l yl yr f fy lo hi loy hiy C _ _ _ _ _ _ _ h0 _ _ p3 p1 p2 (by simpa [T.nodes] using hnd) (by omega) (by omega) (by omega) (by rw [E1.out, E2.out]; omega) (by rw [E1.out, E2.out]; omega) (by rw [Q3.out]; omega) (by rw [Q3.out]; omega)).mono ?_
        rintro e wv ⟨rfl, r1, r2, r3, r4⟩
        have R := reb_rot U p4 r1 r2 r3 r4 E1.out E2.out E3.out
        have d7 : wv.cell? ⟨y, 7, none⟩ = some (.int .i32 h0) := by
          have := r2.1.c7
          rw [show max (T.node x l f lo hi yl).ht yr.ht + 1 = h0 by simp only [T.ht]; rw [E1.out, E2.out, E3.out]; omega] at this
          exact this
        clear U p1 p2 p3 p4 hnd r1 r2 r3 r4 s1 s2 d6
        go_wp2
        refine bodyPost_ret (results_none rfl _ _ _) rfl ?_
        exact ⟨rfl, R⟩
    · go_wp2
      go_end0
      exact ⟨rfl, hfin⟩
end Go.Proofs.YtmijedghihebjaaGreatFmt
