/- NewFileSet, the atomic pointer, AddFile. -/
import Derived.Test.YtmijedghihebjaaGreatFmtAdd
import Derived.Test.YtmijedghihebjaaGreatFmtLocks
import Derived.Conc.RwLoneW
import Derived.Conc.RwLone
import Derived.Conc.MuLone
namespace Go.Proofs.YtmijedghihebjaaGreatFmt
open Go.RowKit Go.MuLone Go.RwLone

/-- A set at rest: its lock is free. -/
def setOK (w : World) (S : Nat) (base : Int) (root last : Option Nat) : Prop := setIs w S (.int .i32 0) (.int .u32 0) (.int .u32 0) (.int .u32 0) (.int .i32 0) (.int .i32 0) base root last

theorem newFileSet_any (w : World) : Calls Tryz.prog 24 #[] w fun e w' => e = .returned (.pointer (some ⟨w.heap.size, 0, none⟩)) ∧ setOK w' w.heap.size 1 none none ∧ Below w.heap.size w w' := by
  go_enter Tryz.func24, Tryz.ntmps24
  go_wp2
  go_ret
  exact ⟨rfl, heap_new _ _, (Below.refl _ _).alloc (Nat.le_refl _) _⟩

theorem storePointer_run (a : Addr) (v : Option Addr) (u : Value) (w : World) (hc : w.cell? a = some u) (hz : w.frozen? a = false) :
    (callFunc 60 #[.pointer (some a), .pointer v]).run Tryz.prog w = .ok (.value (.tuple #[])) (w.setCell a (.pointer v)) := by
  rw [run_callFunc_extern Tryz.func60 (by kernel_rfl) (by kernel_rfl) (by kernel_rfl) (e := Extern.Atomic.storeT) (by kernel_rfl)]
  change (Sem.run Tryz.prog (do
    store (← asAddr (.pointer (some a))) (.pointer v) .atomic
    pure Extern.Atomic.none_) w).andThen _ = _
  simp [asAddr, hc, hz, run_store Tryz.prog w a (.pointer v) .atomic rfl, Result.andThen, Extern.Atomic.none_]

theorem Tryz.infoFile : (Tryz.prog.info? 99).map (fun i => (i.zero.isSome, i.size, i.bytes)) = some (true, 7, 88) := by kernel_rfl

theorem apStore_any (S fb : Nat) (m0 m1 m2 m3 m4 m5 : Value) (base : Int) (root last : Option Nat) (w : World) (H : setIs w S m0 m1 m2 m3 m4 m5 base root last) (c : Array Value) (HF : w.heap[fb]? = some (.cells c 99 (0, 0))) (v : Value) (hv : c[0]? = some v) :
    Calls Tryz.prog 35 #[.pointer (some ⟨S, 8, none⟩), .pointer (some ⟨fb, 0, none⟩)] w fun e w' => e = .returned (.tuple #[]) ∧ w' = w.setCell ⟨S, 8, none⟩ (ptr (some fb)) := by
  have c8 : w.cell? ⟨S, 8, none⟩ = some (ptr last) := by rw [cell_of H]; rfl
  have f8 := free_of H 8
  have hs := storePointer_run ⟨S, 8, none⟩ (some ⟨fb, 0, none⟩) _ w c8 f8
  have c0 : w.cell? ⟨fb, 0, none⟩ = some v := by rw [cell_of HF]; exact hv
  have hcv := run_convert_to_unsafe Tryz.underlying36 Tryz.underlying92 (by rw [show (Tryz.prog.info? 99).map (fun i => decide (i.size = 0)) = some false from by kernel_rfl]) c0
  clear hv
  go_enter Tryz.func35, Tryz.ntmps35
  go_wp2
  go_end0
  exact ⟨rfl, rfl⟩


/-- A set with the files of a tree, at rest. -/
structure SetSt (w : World) (S : Nat) (base : Int) (t : T) (last : Option Nat) : Prop where
  set : setOK w S base t.root last
  at' : t.At w none
  avl : t.AVL
  nodup : t.nodes.Nodup

theorem SetSt.chg {M : Nat → Prop} {w w' : World} {S : Nat} {base : Int} {t : T} {last : Option Nat} (h : SetSt w S base t last) (hc : Chg M w w') (hS : ¬ M S) (hm : ∀ b ∈ t.nodes, ¬ M b) : SetSt w' S base t last :=
  ⟨setIs.chg h.set hc hS, h.at'.chg hc hm, h.avl, h.nodup⟩

/-- What AddFile leaves. -/
def AddFileLeaves (w : World) (S : Nat) (t : T) (name : ByteArray) (base size : Int) (e : Ending) (w' : World) : Prop :=
  ∃ (fb lb : Nat) (t' : T) (x : Nat), e = .returned (.pointer (some ⟨fb, 0, none⟩)) ∧ w.heap.size ≤ fb ∧ w.heap.size ≤ lb ∧ w.heap.size ≤ x ∧
    fileIs w' fb name base size (.int .i32 0) (.int .u32 0) (.slice (some ⟨lb, 0, none⟩) 1 1) (.slice none 0 0) ∧ w'.heap[lb]? = some (.cells #[.int .i64 0] 3 (0, 0)) ∧
    SetSt w' S (base + size + 1) t' (some fb) ∧ t'.files = t.files ++ [(fb, base, base + size)] ∧ t'.nodes.Perm (t.nodes ++ [x]) ∧ Chg (fun k => k = S ∨ k ∈ t.nodes) w w'

set_option maxRecDepth 100000 in
set_option maxHeartbeats 1000000 in
theorem addFile_any (S : Nat) (sbase : Int) (t : T) (last : Option Nat) (name : ByteArray) (b0 base size : Int) (w : World) (H : SetSt w S sbase t last) (hlen : t.nodes.length < 2 ^ 59) (hk : ∀ x ∈ t.files, x.2.1 ≤ x.2.2 ∧ x.2.2 < sbase)
    (hb : (b0 < 0 ∧ base = sbase) ∨ (0 ≤ b0 ∧ base = b0)) (g0 : 0 ≤ sbase) (g1 : sbase ≤ base) (g2 : base ≤ 1099511627776) (g3 : 0 ≤ size) (g4 : size ≤ 1099511627776) :
    Calls Tryz.prog 25 #[.pointer (some ⟨S, 0, none⟩), .string name, .int .i64 b0, .int .i64 size] w (AddFileLeaves w S t name base size) := by
  have HL := Lib.hid hlen
  have hSl : S < w.heap.size := lt_of_heap H.set
  have hk' : ∀ x ∈ t.files, x.2.1 ≤ x.2.2 ∧ x.2.2 < base := fun x hx => by have := hk x hx; omega
  have HK := Lib.hid hk'
  clear hlen hk hk'
  have HB := Lib.hid hb
  clear hb
  go_enter_defers Tryz.func25, Tryz.ntmps25
  go_wp2_with fail
  have K1 : Chg (fun _ => False) w ((w.alloc (.cells #[.int .i64 0] 3)).alloc (.cells #[.string name, .int .i64 0, .int .i64 size, .int .i32 0, .int .u32 0, .slice (some ⟨w.heap.size, 0, none⟩) 1 1, .slice none 0 0] 99)) := ((Chg.refl _ _).alloc _).alloc _
  have HF1 : fileIs ((w.alloc (.cells #[.int .i64 0] 3)).alloc (.cells #[.string name, .int .i64 0, .int .i64 size, .int .i32 0, .int .u32 0, .slice (some ⟨w.heap.size, 0, none⟩) 1 1, .slice none 0 0] 99)) (w.heap.size + 1) name 0 size (.int .i32 0) (.int .u32 0) (.slice (some ⟨w.heap.size, 0, none⟩) 1 1) (.slice none 0 0) := by
    have := heap_new (w.alloc (.cells #[.int .i64 0] 3)) (.cells #[.string name, .int .i64 0, .int .i64 size, .int .i32 0, .int .u32 0, .slice (some ⟨w.heap.size, 0, none⟩) 1 1, .slice none 0 0] 99)
    rw [World.size_alloc] at this
    exact this
  have HL1 : ((w.alloc (.cells #[.int .i64 0] 3)).alloc (.cells #[.string name, .int .i64 0, .int .i64 size, .int .i32 0, .int .u32 0, .slice (some ⟨w.heap.size, 0, none⟩) 1 1, .slice none 0 0] 99)).heap[w.heap.size]? = some (.cells #[.int .i64 0] 3 (0, 0)) := by
    rw [heap_new_ne _ (by simp)]
    exact heap_new _ _
  generalize (w.alloc (.cells #[.int .i64 0] 3)).alloc (.cells #[.string name, .int .i64 0, .int .i64 size, .int .i32 0, .int .u32 0, .slice (some ⟨w.heap.size, 0, none⟩) 1 1, .slice none 0 0] 99) = w1 at *
  have H1 := H.chg K1 id (fun _ _ => id)
  have HS1 : setIs w1 S (.int .i32 0) (.int .u32 0) (.int .u32 0) (.int .u32 0) (.int .i32 0) (.int .i32 0) sbase t.root last := H1.set
  obtain ⟨fb, hfb⟩ : ∃ fb, fb = w.heap.size + 1 := ⟨_, rfl⟩
  obtain ⟨lb, hlb⟩ : ∃ lb, lb = w.heap.size := ⟨_, rfl⟩
  rw [← hfb] at HF1 ⊢
  rw [← hlb] at HF1 HL1
  have gfb : w.heap.size ≤ fb := by omega
  have glb : w.heap.size ≤ lb := by omega
  have hne1 : ¬ S = fb := by omega
  have hne2 : ¬ fb = S := by omega
  have hne3 : ¬ lb = S := by omega
  have hne4 : ¬ lb = fb := by omega
  rw [← hlb]
  clear hfb hlb
  refine (wlock_free Tryz.rwWLib S 0 (.int .u32 0) (.int .u32 0) _ (by rw [cell_of HS1]; rfl) (by rw [cell_of HS1]; rfl) (by rw [cell_of HS1]; rfl) (by rw [cell_of HS1]; rfl) (free_of HS1 0) (free_of HS1 _)).mono ?_
  rintro e w2 ⟨rfl, hw2⟩
  have K2 : Chg (fun k => k = S) w1 w2 := by rw [hw2]; refine Chg.set (Chg.set (Chg.refl _ _) ?_ _) ?_ _ <;> simp
  have HS2 : setIs w2 S (.int .i32 1) (.int .u32 0) (.int .u32 0) (.int .u32 0) (.int .i32 (-1073741824)) (.int .i32 0) sbase t.root last := by
    rw [hw2]; exact (heap_set (heap_set HS1 0 _) 4 _).trans rfl
  have HF2 := HF1.chg K2 hne2
  have HL2 := K2.at HL1 hne3
  have ht2 := H1.at'.chg K2 (fun b hb e => H1.at'.notS HS1 (e ▸ hb))
  have K2' : Chg (fun k => k = S) w w2 := (K1.mono fun _ _ h => h.elim).trans K2
  have ha := H.avl
  have hnd := H.nodup
  have SN := H1.at'.notS HS1
  clear hw2 K2 K1 HF1 HL1 H1 HS1 H
  have c6 : w2.cell? ⟨S, 6, none⟩ = some (.int .i64 sbase) := by rw [cell_of HS2]; rfl
  have z6 := free_of HS2 6
  have c1 : w2.cell? ⟨fb, 1, none⟩ = some (.int .i64 0) := by rw [cell_of HF2]; rfl
  have z1 := free_of HF2 1
  have HF3 : fileIs ((w2.setCell ⟨fb, 1, none⟩ (.int .i64 base)).setCell ⟨S, 6, none⟩ (.int .i64 (base + (size + 1)))) fb name base size (.int .i32 0) (.int .u32 0) (.slice (some ⟨lb, 0, none⟩) 1 1) (.slice none 0 0) :=
    (heap_set_ne 6 _ hne2).trans ((heap_set HF2 1 _).trans rfl)
  have HS3 : setIs ((w2.setCell ⟨fb, 1, none⟩ (.int .i64 base)).setCell ⟨S, 6, none⟩ (.int .i64 (base + (size + 1)))) S (.int .i32 1) (.int .u32 0) (.int .u32 0) (.int .u32 0) (.int .i32 (-1073741824)) (.int .i32 0) (base + (size + 1)) t.root last :=
    (heap_set ((heap_set_ne 1 _ hne1).trans HS2) 6 _).trans rfl
  have K3 : Chg (fun k => k = S ∨ k = fb) w2 ((w2.setCell ⟨fb, 1, none⟩ (.int .i64 base)).setCell ⟨S, 6, none⟩ (.int .i64 (base + (size + 1)))) := by
    refine Chg.set (Chg.set (Chg.refl _ _) ?_ _) ?_ _ <;> simp
  have fbN : fb ∉ t.nodes := fun h => by obtain ⟨c, hc⟩ := ht2.lt fb h; exact ne_of_type hc HF2 (by decide) rfl
  have lbN : lb ∉ t.nodes := fun h => by obtain ⟨c, hc⟩ := ht2.lt lb h; exact ne_of_type hc HL2 (by decide) rfl
  have ht3 := ht2.chg K3 (fun b hb h => by rcases h with rfl | rfl; exact SN hb; exact fbN hb)
  have HL3 := K3.at HL2 (by rintro (h | h); exact hne3 h; exact hne4 h)
  have A3 := add_any S _ _ _ _ _ _ _ _ t fb name base size _ _ _ _ _ HS3 ht3 ha hnd HL.out HK.out HF3 (by omega) g2 g3 g4
  have AA := Lib.hid A3
  have KK := Lib.hid K3
  clear A3 K3
  rcases HB.out with ⟨hneg, rfl⟩ | ⟨hpos, rfl⟩
  all_goals
    clear HB HL HK
    go_wp2_with fail
    refine AA.out.mono ?_
    rintro e w4 ⟨rfl, t', x, hx0, ht4, ha4, hnd4, HS4, hfiles, hperm, K4⟩
    have HF4 := HF3.chg K4 (by rintro (h | h); exact hne2 h; exact fbN h)
    have HL4 := K4.at HL3 (by rintro (h | h); exact hne3 h; exact lbN h)
    have K4' : Chg (fun k => k = S ∨ k ∈ t.nodes) w w4 := by
      refine ((K2'.mono fun _ _ h => .inl h).step KK.out ?_).step K4 fun _ _ h => h
      rintro k hk (rfl | rfl)
      · exact .inl rfl
      · omega
    have hx : w.heap.size ≤ x := Nat.le_trans (Nat.le_trans K2'.size (by simp)) hx0
    have HFil := Lib.hid hfiles
    clear AA KK K4 HF3 HL3 ht3 HS3 c6 c1 z6 z1 HS2 HF2 HL2 ht2 ha hnd K2' hfiles hx0
    go_wp2_with fail
    refine (apStore_any S fb _ _ _ _ _ _ _ _ _ _ HS4 _ HF4 _ rfl).mono ?_
    rintro e w5 ⟨rfl, hw5⟩
    have K5 : Chg (fun k => k = S) w4 w5 := by rw [hw5]; refine Chg.set (Chg.refl _ _) ?_ _; simp
    have HS5 : setIs w5 S (.int .i32 1) (.int .u32 0) (.int .u32 0) (.int .u32 0) (.int .i32 (-1073741824)) (.int .i32 0) (base + (size + 1)) t'.root (some fb) := by rw [hw5]; exact (heap_set HS4 8 _).trans rfl
    have SN4 := ht4.notS HS4
    have HF5 := HF4.chg K5 hne2
    have HL5 := K5.at HL4 hne3
    have ht5 := ht4.chg K5 (fun b hb e => SN4 (e ▸ hb))
    have K5' := K4'.step K5 (fun _ _ h => .inl h)
    clear hw5 K5 K4' HS4 HF4 HL4 ht4
    go_wp2_with fail
    refine leaves_cons (f := 33) (args := #[.pointer (some ⟨S, 0, none⟩)]) (by simp) (by simp [go_sem]) ?_
    refine (wunlock_deferred Tryz.rwWLib S 0 (.int .u32 0) (.int .u32 0) .returning _ (by rw [cell_of HS5]; rfl) (by rw [cell_of HS5]; rfl) (by rw [cell_of HS5]; rfl) (by rw [cell_of HS5]; rfl) (free_of HS5 0) (free_of HS5 _)).mono ?_
    rintro e u' w6 ⟨rfl, rfl, hw6⟩
    have K6 : Chg (fun k => k = S) w5 w6 := by rw [hw6]; refine Chg.set (Chg.set (Chg.refl _ _) ?_ _) ?_ _ <;> simp
    have HS6 : setOK w6 S (base + size + 1) t'.root (some fb) := by
      rw [hw6, show base + size + 1 = base + (size + 1) by omega]; exact (heap_set (heap_set HS5 4 _) 0 _).trans rfl
    refine ⟨_, results_tmp rfl _ _ _, fb, lb, t', x, rfl, gfb, glb, hx, HF5.chg K6 hne2, K6.at HL5 hne3, ⟨HS6, ht5.chg K6 (fun b hb e => SN4 (e ▸ hb)), ha4, hnd4⟩, HFil.out, hperm, K5'.step K6 (fun _ _ h => .inl h)⟩
end Go.Proofs.YtmijedghihebjaaGreatFmt
