/- File.LineStart, impl.LineStart. -/
import Derived.Test.YtgehgiafhfgacaaFmtPick
import Derived.Deep.QuietTactic
import Derived.BigQuiet
namespace Go.Proofs.YtgehgiafhfgacaaFmt
open Go.RowKit Go.MuLone Go.RwLone

theorem lineStart_low (fb : Nat) (line : Int) (w : World) (hl : line < 1) :
    Calls Tryf.prog 29 #[.pointer (some ⟨fb, 0, none⟩), .int .i64 line] w (Panics w) := by
  obtain ⟨s, hs⟩ := sprintf_d1 _ fmtLow w.heap.size line (w.alloc (.cells #[.iface 3 (.int .i64 line)] 20)) (by simp)
  have HB : Below w.heap.size w (w.alloc (.cells #[.iface 3 (.int .i64 line)] 20)).drew := ((Below.refl _ _).alloc (Nat.le_refl _) _).drew
  have HB' := Lib.hid HB
  clear HB
  go_enter_defers Tryf.func29, Tryf.ntmps29
  go_wp2
  exact ⟨s, rfl, HB'.out⟩

set_option maxRecDepth 100000 in
set_option maxHeartbeats 1000000 in
theorem lineStart_high (B fb : Nat) (name : ByteArray) (base size : Int) (lv : Value) (ls : List Int) (line : Int) (w : World) (H : FileSt w B fb name base size lv ls) (hl : 1 ≤ line) (hh : (ls.length : Int) < line) :
    Calls Tryf.prog 29 #[.pointer (some ⟨fb, 0, none⟩), .int .i64 line] w (Panics w) := by
  have hfb : fb < w.heap.size := lt_of_heap H.file
  obtain ⟨a, cap, rfl⟩ := owns_form H.own
  have c3 := H.file.c3
  have f3 := H.file.fz 3
  have F := H.file
  have F1 : fileIs (w.setCell ⟨fb, 3, none⟩ (.int .i32 1)) fb name base size (.int .i32 1) (.int .u32 0) (.slice a ls.length cap) (.slice none 0 0) := (heap_set F 3 _).trans rfl
  have K1 : Chg (fun k => k = fb) w (w.setCell ⟨fb, 3, none⟩ (.int .i32 1)) := by refine Chg.set (Chg.refl _ _) ?_ _; simp
  clear H
  go_enter_defers Tryf.func29, Tryf.ntmps29
  go_wp2_with fail
  refine (lock_free Tryf.muLib ⟨fb, 3, none⟩ _ c3 f3).mono ?_
  rintro e w1 ⟨rfl, hw1⟩
  rw [← hw1] at F1 K1
  clear hw1
  have d5 : w1.cell? ⟨fb, 5, none⟩ = some (.slice a ls.length cap) := by rw [cell_of F1]; rfl
  have hfb1 : fb < w1.heap.size := lt_of_heap F1
  obtain ⟨s, hs⟩ := sprintf_d2 _ fmtHigh w1.heap.size line ls.length (w1.alloc (.cells #[.iface 3 (.int .i64 line), .iface 3 (.int .i64 ls.length)] 20)) (by simp) (by simp)
  have K2 : Chg (fun k => k = fb) w (w1.alloc (.cells #[.iface 3 (.int .i64 line), .iface 3 (.int .i64 ls.length)] 20)).drew := (K1.alloc _).drew
  have F2 : fileIs (w1.alloc (.cells #[.iface 3 (.int .i64 line), .iface 3 (.int .i64 ls.length)] 20)).drew fb name base size (.int .i32 1) (.int .u32 0) (.slice a ls.length cap) (.slice none 0 0) := fileIs.chg (M := fun _ => False) F1 (((Chg.refl _ _).alloc _).drew) id
  go_wp2
  generalize (w1.alloc (.cells #[.iface 3 (.int .i64 line), .iface 3 (.int .i64 ls.length)] 20)).drew = w2 at *
  refine leaves_cons (f := 45) (args := #[.pointer (some ⟨fb, 3, none⟩)]) (by simp) (by simp [go_sem]) ?_
  refine (unlock_deferred Tryf.muLib ⟨fb, 3, none⟩ _ _ (by rw [cell_of F2]; rfl) (free_of F2 3)).mono ?_
  rintro e u' w3 ⟨rfl, rfl, hw3⟩
  have F3 : w3.heap[fb]? = some (.cells #[.string name, .int .i64 base, .int .i64 size, .int .i32 0, .int .u32 0, .slice a ls.length cap, .slice none 0 0] 87 (0, 0)) := by rw [hw3]; exact (heap_set F2 3 _).trans rfl
  have K3 : Chg (fun k => k = fb) w w3 := by rw [hw3]; refine Chg.set K2 ?_ _; simp
  exact ⟨s, rfl, below_back K3 F F3⟩

set_option maxRecDepth 100000 in
set_option maxHeartbeats 1000000 in
theorem lineStart_ok (B fb : Nat) (name : ByteArray) (base size : Int) (lv : Value) (ls : List Int) (m : Nat) (w : World) (H : FileSt w B fb name base size lv ls) (hm : m < ls.length) (g1 : 0 ≤ base) (g2 : base ≤ 1099511627776) (g3 : ∀ y ∈ ls, y ≤ 1099511627776) :
    Calls Tryf.prog 29 #[.pointer (some ⟨fb, 0, none⟩), .int .i64 ((m : Int) + 1)] w fun e w' => e = .returned (.int .i64 (base + ls.getD m 0)) ∧ Below w.heap.size w w' := by
  have hfb : fb < w.heap.size := lt_of_heap H.file
  have hlen := H.len
  rcases H.own.2 with ⟨_, h0⟩ | ⟨g, cap, cur, rfl, hgB, hg, hnc, hcap, hcs, htake⟩
  · omega
  have hgf : ¬ g = fb := ne_of_type hg H.file (by decide)
  have hc := owns_cell H.own m hm
  have hy0 := H.nneg _ (getD_mem hm)
  have hy1 := g3 _ (getD_mem hm)
  obtain ⟨y, hy⟩ : ∃ y, y = ls.getD m 0 := ⟨_, rfl⟩
  rw [← hy] at hc hy0 hy1 ⊢
  have c3 := H.file.c3
  have f3 := H.file.fz 3
  have F := H.file
  have F1 : fileIs (w.setCell ⟨fb, 3, none⟩ (.int .i32 1)) fb name base size (.int .i32 1) (.int .u32 0) (.slice (some ⟨g, 0, none⟩) ls.length cap) (.slice none 0 0) := (heap_set F 3 _).trans rfl
  have G1 : (w.setCell ⟨fb, 3, none⟩ (.int .i32 1)).cell? ⟨g, m, none⟩ = some (.int .i64 y) := by
    rw [← hc]
    exact World.cell?_of_block (heap_set_ne 3 _ hgf)
  have K1 : Chg (fun k => k = fb) w (w.setCell ⟨fb, 3, none⟩ (.int .i32 1)) := by refine Chg.set (Chg.refl _ _) ?_ _; simp
  have q1 : (m : Int) + 1 ≤ (ls.length : Int) := by omega
  have q2 : (m : Int) < (ls.length : Int) := by omega
  have q3 : 0 ≤ (m : Int) := by omega
  clear H hg htake hcs hcap hy hc
  go_enter_defers Tryf.func29, Tryf.ntmps29
  go_wp2_with fail
  refine (lock_free Tryf.muLib ⟨fb, 3, none⟩ _ c3 f3).mono ?_
  rintro e w1 ⟨rfl, hw1⟩
  rw [← hw1] at F1 K1 G1
  clear hw1 c3 f3
  have d5 : w1.cell? ⟨fb, 5, none⟩ = some (.slice (some ⟨g, 0, none⟩) ls.length cap) := by rw [cell_of F1]; rfl
  have d1 : w1.cell? ⟨fb, 1, none⟩ = some (.int .i64 base) := by rw [cell_of F1]; rfl
  have e1 : IntKind.i64.wrap (base + y) = base + y := IntWalk.i64_in _ (by omega)
  have e2 : IntKind.i64.wrap ((m : Int) + 1 - 1) = (m : Int) := by rw [IntWalk.i64_in _ (by omega)]; omega
  have e3 : (m : Int) + 1 - 1 = (m : Int) := by omega
  go_wp2_with fail
  go_quiet (fail)
  go_wp2_with fail
  have F2 : Hid (∀ n, fileIs (w1.drewN n) fb name base size (.int .i32 1) (.int .u32 0) (.slice (some ⟨g, 0, none⟩) ls.length cap) (.slice none 0 0) ∧ Chg (fun k => k = fb) w (w1.drewN n)) := fun n => ⟨F1, K1.drewN n⟩
  refine leaves_cons (f := 45) (args := #[.pointer (some ⟨fb, 3, none⟩)]) (by simp) (by simp [go_sem]) ?_
  refine (unlock_deferred Tryf.muLib ⟨fb, 3, none⟩ .returning _ (by rw [cell_of (F2.out _).1]; rfl) (free_of (F2.out _).1 3)).mono ?_
  rintro e u' w4 ⟨rfl, rfl, hw4⟩
  have F4 : w4.heap[fb]? = some (.cells #[.string name, .int .i64 base, .int .i64 size, .int .i32 0, .int .u32 0, .slice (some ⟨g, 0, none⟩) ls.length cap, .slice none 0 0] 87 (0, 0)) := by rw [hw4]; exact (heap_set (F2.out _).1 3 _).trans rfl
  have K4 : Chg (fun k => k = fb) w w4 := by rw [hw4]; refine Chg.set (F2.out _).2 ?_ _; simp
  exact ⟨_, results_tmp rfl _ _ _, rfl, below_back K4 F F4⟩

/-- LineStart's deferred function, where File.LineStart has panicked. -/
theorem startCatch_panics (b c : Nat) (x : Int) (y : Bool) (u : TypeId) (pv : Value) (older : List PanicEntry) (w : World) (hc : w.cell? ⟨b, 0, none⟩ = some (.int .i64 x)) (hz : w.frozen? ⟨b, 0, none⟩ = false) (hd : w.cell? ⟨c, 0, none⟩ = some (.bool y)) (hy : w.frozen? ⟨c, 0, none⟩ = false) (hne : ¬ c = b) :
    CallsD Tryf.prog 28 #[.pointer (some ⟨b, 0, none⟩), .pointer (some ⟨c, 0, none⟩)] (.panicking ({ v := .iface u pv, recovered := false } :: older)) w fun e u' w' =>
      e = .returned (.tuple #[]) ∧ u' = .panicking ({ v := .iface u pv, recovered := true } :: older) ∧ w' = (w.setCell ⟨b, 0, none⟩ (.int .i64 0)).setCell ⟨c, 0, none⟩ (.bool false) := by
  have hd' : (w.setCell ⟨b, 0, none⟩ (.int .i64 0)).cell? ⟨c, 0, none⟩ = some (.bool y) := (World.cell?_of_block (heap_set_ne 0 _ hne)).trans hd
  have hy' : (w.setCell ⟨b, 0, none⟩ (.int .i64 0)).frozen? ⟨c, 0, none⟩ = false := by
    have : (w.setCell ⟨b, 0, none⟩ (.int .i64 0)).heap[c]? = w.heap[c]? := heap_set_ne 0 _ hne
    simp only [World.frozen?, this]
    exact hy
  refine callsD_of_wpS Tryf.func28 rfl fun c₀ cs hu => ?_
  apply wpS_seq
  apply wpS_region
  simp [wpOpsS, go_sem, recoverD, hu, Tryf.ntmps28, Exit.thenS]
  refine wpS_cond (t := true) (by simp [Act.eval, Array.replicate]) ?_
  simp only [if_true]
  apply wpS_seq
  apply wpS_region
  simp [wpOpsS, go_sem, hc, hz, Exit.thenS]
  apply wpS_region
  simp [wpOpsS, go_sem, hd', hy', bodyPostS, results, Tryf.results28]
theorem startCatch_idle (p q : Addr) (w : World) :
    CallsD Tryf.prog 28 #[.pointer (some p), .pointer (some q)] .returning w fun e u' w' => e = .returned (.tuple #[]) ∧ u' = .returning ∧ w' = w := by
  refine callsD_of_wpS Tryf.func28 rfl fun c₀ cs hu => ?_
  apply wpS_seq
  apply wpS_region
  simp [wpOpsS, go_sem, recoverD, hu, Tryf.ntmps28, Exit.thenS]
  refine wpS_cond (t := false) (by simp [Act.eval, Array.replicate]) ?_
  simp only [Bool.false_eq_true, if_false]
  refine wpS_of_wp (wp_skip ?_)
  cases c₀
  simp_all [bodyPostS, results, Tryf.results28]

theorem alloc2 (w : World) (a b : Obj) : Below w.heap.size w ((w.alloc a).alloc b) ∧ ((w.alloc a).alloc b).heap[w.heap.size]? = some a ∧ ((w.alloc a).alloc b).heap[w.heap.size + 1]? = some b := by
  refine ⟨((Below.refl _ _).alloc (Nat.le_refl _) _).alloc (by simp) _, ?_, ?_⟩
  · rw [heap_new_ne _ (by simp)]; exact heap_new _ _
  · have := heap_new (w.alloc a) b
    rwa [World.size_alloc] at this

set_option maxRecDepth 100000 in
set_option maxHeartbeats 1000000 in
theorem implLineStart_any (fv : Value) (fs : List GFile) (k : Nat) (m : MFile) (line : Int) (w : World) (hf : Files w fv fs) (hv : validL fs) (hk : (madeL fs)[k]? = some m) (hll : ∀ y ∈ m.lines, y ≤ 1099511627776) :
    Calls Tryf.prog 14 #[fv, .int .i64 k, .int .i64 line] w fun e w' => e = .returned (.tuple #[.int .i64 (if 1 ≤ line ∧ line ≤ m.lines.length then m.base + m.lines.getD (line - 1).toNat 0 else 0), .bool (decide (1 ≤ line ∧ line ≤ m.lines.length))]) ∧ Below w.heap.size w w' := by
  have hmf : ∀ (fn : Fn) (first cap : Array Value) (w : World), (Instr.makeFunc fn first cap).run Tryf.prog w = .ok (.func fn first cap) w := fun _ _ _ _ => rfl
  obtain ⟨v1, v2, v3, v4, v5⟩ := (valid_bounds hv).2 m (List.mem_of_getElem? hk)
  obtain ⟨B0, N0, N1⟩ := alloc2 w (.cells #[.int .i64 0] 3) (.cells #[.bool false] 4)
  have HC := Lib.hid (pick_any fv fs k m _ (hf.below B0) hv hk)
  obtain ⟨fa, fc, rfl, _⟩ := hf.cell
  clear hf hv hk
  by_cases hok : 1 ≤ line ∧ line ≤ m.lines.length
  · obtain ⟨j, rfl⟩ : ∃ j : Nat, line = (j : Int) + 1 := ⟨(line - 1).toNat, by omega⟩
    rw [if_pos hok, decide_eq_true hok, show ((j : Int) + 1 - 1).toNat = j by omega]
    obtain ⟨y, hy⟩ : ∃ y, y = m.base + m.lines.getD j 0 := ⟨_, rfl⟩
    rw [← hy]
    have HY := Lib.hid hy
    have hj : j < m.lines.length := by omega
    clear hok hy
    go_enter_defers Tryf.func14, Tryf.ntmps14
    go_wp2_with fail
    refine HC.out.mono ?_
    rintro e w2 ⟨fb, lv, rfl, hb, hB, hF⟩
    have M0 := (hb.block w.heap.size (by simp; omega)).trans N0
    have M1 := (hb.block (w.heap.size + 1) (by simp)).trans N1
    have hb2 : Below w.heap.size w w2 := B0.trans (hb.mono (by simp; omega))
    have hc := Lib.hid (lineStart_ok _ fb m.name m.base m.size lv m.lines j w2 hF hj (by omega) v4 hll)
    rw [← HY.out] at hc
    clear HC N0 N1 hb hF B0
    go_wp2_with fail
    refine hc.out.mono ?_
    rintro e w3 ⟨rfl, hb3⟩
    have P0 := (hb3.block _ (lt_of_heap M0)).trans M0
    have P1 := (hb3.block _ (lt_of_heap M1)).trans M1
    have hb4 : Below w.heap.size w w3 := hb2.trans (hb3.mono hb2.size)
    have d0 : w3.cell? ⟨w.heap.size, 0, none⟩ = some (.int .i64 0) := by rw [cell_of P0]; rfl
    have z0 := free_of P0 0
    have d1 : (w3.setCell ⟨w.heap.size, 0, none⟩ (.int .i64 y)).cell? ⟨w.heap.size + 1, 0, none⟩ = some (.bool false) := by rw [cell_of ((heap_set_ne 0 _ (by omega)).trans P1)]; rfl
    have z1 := free_of ((heap_set_ne (v := .int .i64 y) (b := w.heap.size) (i := 0) (k := w.heap.size + 1) (by omega)).trans P1) 0
    have Q0 : ((w3.setCell ⟨w.heap.size, 0, none⟩ (.int .i64 y)).setCell ⟨w.heap.size + 1, 0, none⟩ (.bool true)).cell? ⟨w.heap.size, 0, none⟩ = some (.int .i64 y) := by rw [cell_of ((heap_set_ne 0 _ (by omega)).trans (heap_set P0 0 _))]; rfl
    have Q1 : ((w3.setCell ⟨w.heap.size, 0, none⟩ (.int .i64 y)).setCell ⟨w.heap.size + 1, 0, none⟩ (.bool true)).cell? ⟨w.heap.size + 1, 0, none⟩ = some (.bool true) := World.cell?_setCell_same _ _ _ d1
    have hb5 : Below w.heap.size w ((w3.setCell ⟨w.heap.size, 0, none⟩ (.int .i64 y)).setCell ⟨w.heap.size + 1, 0, none⟩ (.bool true)) := (hb4.setCell (Nat.le_refl _) _).setCell (by show w.heap.size ≤ w.heap.size + 1; omega) _
    clear hc hb3 hb4 hb2 M0 M1 P0 P1
    go_wp2_with fail
    generalize (w3.setCell ⟨w.heap.size, 0, none⟩ (.int .i64 y)).setCell ⟨w.heap.size + 1, 0, none⟩ (.bool true) = w4 at *
    refine leaves_cons (f := 28) (args := #[.pointer (some ⟨w.heap.size, 0, none⟩), .pointer (some ⟨w.heap.size + 1, 0, none⟩)]) (by simp) (by simp [go_sem]) ?_
    refine (startCatch_idle ⟨w.heap.size, 0, none⟩ ⟨w.heap.size + 1, 0, none⟩ _).mono ?_
    rintro e u' w5 ⟨rfl, rfl, rfl⟩
    exact ⟨.tuple #[.int .i64 y, .bool true], by simp [results, Tryf.results14, go_sem, Q0, Q1], rfl, hb5⟩
  · rw [if_neg hok, decide_eq_false hok]
    go_enter_defers Tryf.func14, Tryf.ntmps14
    go_wp2_with fail
    refine HC.out.mono ?_
    rintro e w2 ⟨fb, lv, rfl, hb, hB, hF⟩
    have M0 := (hb.block w.heap.size (by simp; omega)).trans N0
    have M1 := (hb.block (w.heap.size + 1) (by simp)).trans N1
    have hb2 : Below w.heap.size w w2 := B0.trans (hb.mono (by simp; omega))
    have hc : Calls Tryf.prog 29 #[.pointer (some ⟨fb, 0, none⟩), .int .i64 line] w2 (Panics w2) := by
      by_cases h1 : line < 1
      · exact lineStart_low fb line _ h1
      · exact lineStart_high _ fb m.name m.base m.size lv m.lines line _ hF (by omega) (by omega)
    have HCC := Lib.hid hc
    clear HC N0 N1 hb hF B0 hc hok
    go_wp2_with fail
    refine HCC.out.mono ?_
    rintro e w3 ⟨s, rfl, hb3⟩
    have P0 := (hb3.block _ (lt_of_heap M0)).trans M0
    have P1 := (hb3.block _ (lt_of_heap M1)).trans M1
    have hb4 : Below w.heap.size w w3 := hb2.trans (hb3.mono hb2.size)
    have d0 : w3.cell? ⟨w.heap.size, 0, none⟩ = some (.int .i64 0) := by rw [cell_of P0]; rfl
    have d1 : w3.cell? ⟨w.heap.size + 1, 0, none⟩ = some (.bool false) := by rw [cell_of P1]; rfl
    have Q0 : ((w3.setCell ⟨w.heap.size, 0, none⟩ (.int .i64 0)).setCell ⟨w.heap.size + 1, 0, none⟩ (.bool false)).cell? ⟨w.heap.size, 0, none⟩ = some (.int .i64 0) := by rw [cell_of ((heap_set_ne 0 _ (by omega)).trans (heap_set P0 0 _))]; rfl
    have Q1 : ((w3.setCell ⟨w.heap.size, 0, none⟩ (.int .i64 0)).setCell ⟨w.heap.size + 1, 0, none⟩ (.bool false)).cell? ⟨w.heap.size + 1, 0, none⟩ = some (.bool false) := by rw [cell_of (heap_set ((heap_set_ne 0 _ (by omega)).trans P1) 0 _)]; rfl
    have hb5 : Below w.heap.size w ((w3.setCell ⟨w.heap.size, 0, none⟩ (.int .i64 0)).setCell ⟨w.heap.size + 1, 0, none⟩ (.bool false)) := (hb4.setCell (Nat.le_refl _) _).setCell (by show w.heap.size ≤ w.heap.size + 1; omega) _
    have z0 := free_of P0 0
    have z1 := free_of P1 0
    clear HCC hb3 hb4 hb2 M0 M1 P0 P1
    go_wp2_with fail
    refine leaves_cons (f := 28) (args := #[.pointer (some ⟨w.heap.size, 0, none⟩), .pointer (some ⟨w.heap.size + 1, 0, none⟩)]) (by simp) (by simp [go_sem]) ?_
    refine (startCatch_panics w.heap.size (w.heap.size + 1) 0 false 9 _ [] _ d0 z0 d1 z1 (by omega)).mono ?_
    rintro e u' w4 ⟨rfl, rfl, hw4⟩
    rw [← hw4] at Q0 Q1 hb5
    exact ⟨.tuple #[.int .i64 0, .bool false], by simp [results, Tryf.results14, go_sem, Q0, Q1], rfl, hb5⟩
end Go.Proofs.YtgehgiafhfgacaaFmt
