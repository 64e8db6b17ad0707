/- compareKey, key, locate: where a key stands in the tree. -/
import Derived.Test.YtmijedghihebjaaGreatFmtReb
import Derived.StillTailTactics
import Derived.RegionTactic
import Derived.WalkSmall
namespace Go.Proofs.YtmijedghihebjaaGreatFmt
open Go.RowKit

def cmpKey (ks ke lo hi : Int) : Int := if ke < lo then -1 else if hi < ks then 1 else 0

theorem compareKey_any (ks ke lo hi : Int) (w : World) :
    Calls Tryz.prog 72 #[.agg #[.int .i64 ks, .int .i64 ke], .agg #[.int .i64 lo, .int .i64 hi]] w fun e w' => e = .returned (.int .i64 (cmpKey ks ke lo hi)) ∧ Below w.heap.size w w' := by
  have hB : Below w.heap.size w ((w.alloc (.cells #[.int .i64 ks, .int .i64 ke] 120)).alloc (.cells #[.int .i64 lo, .int .i64 hi] 120)) := ((Below.refl _ _).alloc (Nat.le_refl _) _).alloc (by simp) _
  have HB := Lib.hid hB
  clear hB
  by_cases h1 : ke < lo
  · have e : cmpKey ks ke lo hi = -1 := by simp [cmpKey, h1]
    have E := Lib.hid e
    clear e
    go_enter Tryz.func72, Tryz.ntmps72
    go_wp2
    go_ret
    exact ⟨by rw [E.out]; rfl, HB.out⟩
  · by_cases h2 : hi < ks
    · have e : cmpKey ks ke lo hi = 1 := by simp [cmpKey, h1, h2]
      have E := Lib.hid e
      clear e
      go_enter Tryz.func72, Tryz.ntmps72
      go_wp2
      go_ret
      exact ⟨by rw [E.out]; rfl, HB.out⟩
    · have e : cmpKey ks ke lo hi = 0 := by simp [cmpKey, h1, h2]
      have E := Lib.hid e
      clear e
      go_enter Tryz.func72, Tryz.ntmps72
      go_wp2
      go_ret
      exact ⟨by rw [E.out]; rfl, HB.out⟩

/-- What holds at the head of locate's loop: what is still to be searched leads to the same answer. -/
def LocRel (t : T) (a0 : Addr) (ks ke : Int) (w : World) (k : Nat) (pv xv qv : Value) (wr : World) : Prop :=
  ∃ (a : Addr) (s : T) (p q : Option Nat), pv = .pointer (some a) ∧ a.spot = none ∧ xv = ptr s.root ∧ qv = ptr q ∧ s.At w p ∧ s.loc ks ke a q = t.loc ks ke a0 none ∧ k = s.nodes.length ∧ Below (w.heap.size + 1) (w.alloc (.cells #[.int .i64 ks, .int .i64 ke] 120)) wr

set_option maxRecDepth 100000 in
set_option maxHeartbeats 1000000 in
theorem locate_any (S : Nat) (t : T) (ks ke : Int) (m0 m1 m2 m3 m4 m5 : Value) (base : Int) (last : Option Nat) (w : World) (H : setIs w S m0 m1 m2 m3 m4 m5 base t.root last) (ht : t.At w none) :
    Calls Tryz.prog 54 #[.pointer (some ⟨S, 7, none⟩), .agg #[.int .i64 ks, .int .i64 ke]] w fun e w' => e = .returned (.tuple #[.pointer (some (t.loc ks ke ⟨S, 7, none⟩ none).1), ptr (t.loc ks ke ⟨S, 7, none⟩ none).2.1]) ∧ Below w.heap.size w w' := by
  have hS : S < w.heap.size := lt_of_heap H
  have c7 : w.cell? ⟨S, 7, none⟩ = some (ptr t.root) := by rw [cell_of H]; rfl
  go_enter Tryz.func54, Tryz.ntmps54
  go_wp2
  go_quiet (fail)
  go_wp2
  go_loopg [4, 6, 5] t.nodes.length (fun k pv xv qv wr => LocRel t ⟨S, 7, none⟩ ks ke w k pv xv qv wr)
  case atStart => exact ⟨⟨S, 7, none⟩, t, none, none, rfl, rfl, rfl, rfl, ht, rfl, rfl, below_drewN (Below.refl _ _) _⟩
  case round =>
    obtain ⟨a, s, p, q, rfl, hsp, rfl, rfl, hs, hloc, rfl, hbel⟩ := hrel
    have HS := Lib.hid hloc
    clear hloc
    cases s with
    | nil =>
      have hz := hbel.size
      simp at hz
      have R : Below w.heap.size w wr := ((Below.refl _ _).alloc (Nat.le_refl _) _).trans (hbel.mono (by omega))
      clear hbel hs c7
      rw [show ptr T.nil.root = .pointer none from rfl]
      go_wp2
      go_ret2
      refine ⟨?_, R⟩
      rw [← HS.out]
      rfl
    | node b l f lo hi r =>
      have hb : b < w.heap.size := lt_of_heap hs.1
      have hz := hbel.size
      simp at hz
      have cell : ∀ i, wr.cell? ⟨b, i, none⟩ = w.cell? ⟨b, i, none⟩ := fun i => (hbel.cell (p := ⟨b, i, none⟩) (by simp; omega)).trans (World.cell?_alloc_lt w _ ⟨b, i, none⟩ hb)
      have d1 := (cell 1).trans hs.1.c1
      have d2 := (cell 2).trans hs.1.c2
      have d4 := (cell 4).trans hs.1.c4
      have d5 := (cell 5).trans hs.1.c5
      have k0 : wr.cell? ⟨w.heap.size, 0, none⟩ = some (.int .i64 ks) := (hbel.cell (p := ⟨w.heap.size, 0, none⟩) (by simp)).trans (by simp)
      have k1 : wr.cell? ⟨w.heap.size, 1, none⟩ = some (.int .i64 ke) := (hbel.cell (p := ⟨w.heap.size, 1, none⟩) (by simp)).trans (by simp)
      clear cell c7
      rw [show ptr (T.node b l f lo hi r).root = .pointer (some ⟨b, 0, none⟩) from rfl]
      go_wp2_with fail
      go_still_tail 5, (by kernel_rfl)
      change wpList _ _ _ _ _ wr.drew
      go_wp2_with fail
      refine (compareKey_any ks ke lo hi _).mono ?_
      rintro e w1 ⟨rfl, hb1⟩
      have q1 : w1.cell? ⟨b, 1, none⟩ = some (ptr l.root) := (hb1.cell (p := ⟨b, 1, none⟩) (by simp; omega)).trans d1
      have q2 : w1.cell? ⟨b, 2, none⟩ = some (ptr r.root) := (hb1.cell (p := ⟨b, 2, none⟩) (by simp; omega)).trans d2
      have hbel1 : Below (w.heap.size + 1) (w.alloc (.cells #[.int .i64 ks, .int .i64 ke] 120)) w1 := hbel.drew.trans (hb1.mono (by simp; omega))
      have hl := hs.2.1
      have hr := hs.2.2
      clear hb1 hbel d1 d2 d4 d5 k0 k1
      by_cases h1 : ke < lo
      · rw [show cmpKey ks ke lo hi = -1 by simp [cmpKey, h1]]
        have hl' : l.loc ks ke ⟨b, 1, none⟩ (some b) = t.loc ks ke ⟨S, 7, none⟩ none := by rw [← HS.out]; simp only [T.loc]; rw [if_pos h1]
        have HL := Lib.hid hl'
        clear hl' h1 hs q2 hr
        go_wp2
        go_quiet (fail)
        go_wp2
        go_roundg l.nodes.length
        case measure => simp [T.nodes] <;> omega
        case rel => exact ⟨⟨b, 1, none⟩, l, some b, some b, rfl, rfl, rfl, rfl, hl, HL.out, rfl, below_drewN hbel1 _⟩
      · by_cases h2 : hi < ks
        · rw [show cmpKey ks ke lo hi = 1 by simp [cmpKey, h1, h2]]
          have hl' : r.loc ks ke ⟨b, 2, none⟩ (some b) = t.loc ks ke ⟨S, 7, none⟩ none := by rw [← HS.out]; simp only [T.loc]; rw [if_neg h1, if_pos h2]
          have HL := Lib.hid hl'
          clear hl' h1 h2 hs q1 hl
          go_wp2
          go_quiet (fail)
          go_wp2
          go_roundg r.nodes.length
          case measure => simp [T.nodes] <;> omega
          case rel => exact ⟨⟨b, 2, none⟩, r, some b, some b, rfl, rfl, rfl, rfl, hr, HL.out, rfl, below_drewN hbel1 _⟩
        · rw [show cmpKey ks ke lo hi = 0 by simp [cmpKey, h1, h2]]
          have hl' : (a, q, T.node b l f lo hi r) = t.loc ks ke ⟨S, 7, none⟩ none := by rw [← HS.out]; simp only [T.loc]; rw [if_neg h1, if_neg h2]
          have HL := Lib.hid hl'
          have R : Below w.heap.size w w1 := ((Below.refl _ _).alloc (Nat.le_refl _) _).trans (hbel1.mono (by omega))
          clear hl' h1 h2 hs q1 hl q2 hr hbel1
          go_wp2
          go_ret2
          refine ⟨?_, R⟩
          rw [← HL.out]
          rfl
end Go.Proofs.YtmijedghihebjaaGreatFmt
