/- MergeLine. -/
import Derived.Test.YtmijedghihebjaaGreatFmtSetL
import Derived.Test.YtmijedghihebjaaGreatFmtFmt
import Derived.Laws.CopyOwn
import Derived.Recover
namespace Go.Proofs.YtmijedghihebjaaGreatFmt
open Go.RowKit Go.MuLone Go.RwLone

theorem Tryz.sizeInt : (Tryz.prog.info? 3).map (·.size) = some 1 := by kernel_rfl

theorem fmtLow : Extern.FmtStop.printed? ⟨#[105, 110, 118, 97, 108, 105, 100, 32, 108, 105, 110, 101, 32, 110, 117, 109, 98, 101, 114, 32, 37, 100, 32, 40, 115, 104, 111, 117, 108, 100, 32, 98, 101, 32, 62, 61, 32, 49, 41]⟩ 1 = some [(0, 100, false)] := by kernel_rfl
theorem fmtHigh : Extern.FmtStop.printed? ⟨#[105, 110, 118, 97, 108, 105, 100, 32, 108, 105, 110, 101, 32, 110, 117, 109, 98, 101, 114, 32, 37, 100, 32, 40, 115, 104, 111, 117, 108, 100, 32, 98, 101, 32, 60, 32, 37, 100, 41]⟩ 2 = some [(0, 100, false), (1, 100, false)] := by kernel_rfl

/-- The call ended in a panic with a text; nothing that was there has changed, but for block fb. -/
def Panics (w : World) (e : Ending) (w' : World) : Prop := ∃ s : ByteArray, e = .panicked [{ v := .iface 9 (.string s), recovered := false }] ∧ Below w.heap.size w w'

theorem mergeLine_low (fb : Nat) (line : Int) (w : World) (hl : line < 1) :
    Calls Tryz.prog 62 #[.pointer (some ⟨fb, 0, none⟩), .int .i64 line] w (Panics w) := by
  obtain ⟨s, hs⟩ := sprintf_d1 _ fmtLow w.heap.size line (w.alloc (.cells #[.iface 3 (.int .i64 line)] 20)) (by simp)
  have HB : Below w.heap.size w (w.alloc (.cells #[.iface 3 (.int .i64 line)] 20)).drew := ((Below.refl _ _).alloc (Nat.le_refl _) _).drew
  have HB' := Lib.hid HB
  clear HB
  go_enter_defers Tryz.func62, Tryz.ntmps62
  go_wp2
  exact ⟨s, rfl, HB'.out⟩

/-- Only block fb was written, and it is as it was. -/
theorem below_back {w w' : World} {fb : Nat} {o : Obj} (K : Chg (fun k => k = fb) w w') (h : w.heap[fb]? = some o) (h' : w'.heap[fb]? = some o) : Below w.heap.size w w' :=
  ⟨K.os, K.tape, K.output, K.size, fun k hk => by
    by_cases e : k = fb
    · subst e; rw [h, h']
    · exact K.block k hk e⟩

set_option maxRecDepth 100000 in
set_option maxHeartbeats 1000000 in
theorem mergeLine_high (B fb : Nat) (name : ByteArray) (base size : Int) (lv : Value) (ls : List Int) (line : Int) (w : World) (H : FileSt w B fb name base size lv ls) (hl : 1 ≤ line) (hh : (ls.length : Int) ≤ line) :
    Calls Tryz.prog 62 #[.pointer (some ⟨fb, 0, none⟩), .int .i64 line] w (Panics w) := by
  have hfb : fb < w.heap.size := lt_of_heap H.file
  obtain ⟨a, cap, rfl⟩ := owns_form H.own
  have c3 := H.file.c3
  have f3 := H.file.fz 3
  have F := H.file
  have F1 : fileIs (w.setCell ⟨fb, 3, none⟩ (.int .i32 1)) fb name base size (.int .i32 1) (.int .u32 0) (.slice a ls.length cap) (.slice none 0 0) := (heap_set F 3 _).trans rfl
  have K1 : Chg (fun k => k = fb) w (w.setCell ⟨fb, 3, none⟩ (.int .i32 1)) := by refine Chg.set (Chg.refl _ _) ?_ _; simp
  clear H
  go_enter_defers Tryz.func62, Tryz.ntmps62
  go_wp2_with fail
  refine (lock_free Tryz.muLib ⟨fb, 3, none⟩ _ c3 f3).mono ?_
  rintro e w1 ⟨rfl, hw1⟩
  rw [← hw1] at F1 K1
  clear hw1
  have d5 : w1.cell? ⟨fb, 5, none⟩ = some (.slice a ls.length cap) := by rw [cell_of F1]; rfl
  have hfb1 : fb < w1.heap.size := lt_of_heap F1
  obtain ⟨s, hs⟩ := sprintf_d2 _ fmtHigh w1.heap.size line ls.length (w1.alloc (.cells #[.iface 3 (.int .i64 line), .iface 3 (.int .i64 ls.length)] 20)) (by simp) (by simp)
  have K2 : Chg (fun k => k = fb) w (w1.alloc (.cells #[.iface 3 (.int .i64 line), .iface 3 (.int .i64 ls.length)] 20)).drew := (K1.alloc _).drew
  have F2 : fileIs (w1.alloc (.cells #[.iface 3 (.int .i64 line), .iface 3 (.int .i64 ls.length)] 20)).drew fb name base size (.int .i32 1) (.int .u32 0) (.slice a ls.length cap) (.slice none 0 0) := fileIs.chg (M := fun _ => False) F1 (((Chg.refl _ _).alloc _).drew) id
  go_wp2
  generalize (w1.alloc (.cells #[.iface 3 (.int .i64 line), .iface 3 (.int .i64 ls.length)] 20)).drew = w2 at *
  refine leaves_cons (f := 53) (args := #[.pointer (some ⟨fb, 3, none⟩)]) (by simp) (by simp [go_sem]) ?_
  refine (unlock_deferred Tryz.muLib ⟨fb, 3, none⟩ _ _ (by rw [cell_of F2]; rfl) (free_of F2 3)).mono ?_
  rintro e u' w3 ⟨rfl, rfl, hw3⟩
  have F3 : w3.heap[fb]? = some (.cells #[.string name, .int .i64 base, .int .i64 size, .int .i32 0, .int .u32 0, .slice a ls.length cap, .slice none 0 0] 99 (0, 0)) := by rw [hw3]; exact (heap_set F2 3 _).trans rfl
  have K3 : Chg (fun k => k = fb) w w3 := by rw [hw3]; refine Chg.set K2 ?_ _; simp
  exact ⟨s, rfl, below_back K3 F F3⟩

theorem chg_setRow (w : World) (g : Nat) (cs : Array Value) : Chg (fun k => k = g) w (w.setRow g cs) :=
  ⟨rfl, rfl, rfl, by simp [World.setRow], fun k _ hk => setRow_other w g k cs hk⟩

/-- copy into a known row: what the row holds then; nothing else has changed. -/
theorem wpList_copy_chg {P : Program} {w : World} {ops : Array Oper} {rest : List Oper} {o : Oper} {a : Act} {Q : Exit → Act → World → Prop} (hgd : o.guard = none) (d s : Operand) (dT sT : TypeId)
    (ho : o.op = .call { callee := .builtin .copy, args := #[d, s], argTypes := #[dT, sT] }) (elem : TypeId) (hu : P.underlying dT = some (.slice elem)) (hsz : (P.info? elem).map (·.size) = some 1)
    (dp sp : Option Addr) (dLen dCap sLen sCap : Nat) (hd : a.eval d = .slice dp dLen dCap) (hs : a.eval s = .slice sp sLen sCap)
    (g off : Nat) (cur : List Value) (t : TypeId) (hg : w.heap[g]? = some (.cells cur.toArray t (0, 0))) (cs : List Value) (hn : cs.length = Nat.min sLen dLen)
    (hpos : 0 < cs.length → dp = some ⟨g, off, none⟩ ∧ ∃ ad, sp = some ad ∧ ∀ j v, cs[j]? = some v → w.cell? (ad.add j) = some v)
    (hfit : off + cs.length ≤ cur.length) (h1 : ∀ v ∈ cs, v.oneCell' = true)
    (h : ∀ w', Hid (w'.heap[g]? = some (.cells (splice cur off cs).toArray t (0, 0))) → Chg (fun k => k = g) w w' → wpList P ops Q rest (a.put o.dst (goInt cs.length)) w') :
    wpList P ops Q (o :: rest) a w := by
  by_cases h0 : cs.length = 0
  · obtain rfl : cs = [] := List.eq_nil_of_length_eq_zero h0
    refine wpList_copy_nothing hgd d s dT sT ho elem hu hsz dp sp dLen dCap sLen sCap hd hs (by simpa using hn.symm) ?_
    exact h w (show _ = _ by simpa [splice] using hg) (Chg.refl _ _)
  · obtain ⟨rfl, ad, rfl, hsrc⟩ := hpos (by omega)
    refine wpList_copy_own hgd d s dT sT ho elem hu hsz g off dLen dCap ad sLen sCap hd hs cur.toArray t hg cs hn hsrc (by simpa using hfit) h1 ?_
    exact h _ (show _ = _ by simpa [splice] using setRow_heap w g _ _ t _ hg) (chg_setRow w g _)

/-- The row behind the copy. -/
theorem splice_erase {cur : List Value} {ls : List Int} {m : Nat} (hm : m < ls.length) (h : cur.take ls.length = ls.map (Value.int .i64)) :
    (splice cur m ((ls.drop (m + 1)).map (Value.int .i64))).take (ls.length - 1) = (ls.eraseIdx m).map (Value.int .i64) := by
  have h1 : cur.take m = (ls.take m).map (Value.int .i64) := by
    have := congrArg (List.take m) h
    rw [List.take_take, Nat.min_eq_left (by omega), ← List.map_take] at this
    exact this
  have hlen : ls.length ≤ cur.length := by have := congrArg List.length h; simp at this; omega
  unfold splice
  rw [← List.append_assoc, List.take_append_of_le_length (by simp; omega), List.take_of_length_le (by simp; omega), h1, List.eraseIdx_eq_take_drop_succ]
  simp

theorem Inc.erase {ls : List Int} (h : Inc ls) (m : Nat) : Inc (ls.eraseIdx m) := h.sublist (List.eraseIdx_sublist ls m)

set_option maxRecDepth 100000 in
set_option maxHeartbeats 2000000 in
theorem mergeLine_ok (B fb : Nat) (name : ByteArray) (base size : Int) (lv : Value) (ls : List Int) (m : Nat) (w : World) (H : FileSt w B fb name base size lv ls) (hm1 : 1 ≤ m) (hm2 : m < ls.length) :
    Calls Tryz.prog 62 #[.pointer (some ⟨fb, 0, none⟩), .int .i64 m] w (LeavesLines B fb name base size lv (ls.eraseIdx m) w) := by
  have hfb : fb < w.heap.size := lt_of_heap H.file
  have hlen := H.len
  rcases H.own.2 with ⟨_, h0⟩ | ⟨g, cap, cur, rfl, hgB, hg, hnc, hcap, hcs, htake⟩
  · omega
  obtain ⟨cur, rfl⟩ : ∃ l : List Value, cur = l.toArray := ⟨cur.toList, by simp⟩
  simp only [List.size_toArray, Nat.mul_one] at hcs htake
  have hgf : ¬ g = fb := ne_of_type hg H.file (by decide)
  have hcells := owns_cell H.own
  have c3 := H.file.c3
  have f3 := H.file.fz 3
  have HI := Lib.hid (H.inc.erase m)
  have HN : Hid (∀ y ∈ ls.eraseIdx m, 0 ≤ y) := fun y hy => H.nneg y (List.mem_of_mem_eraseIdx hy)
  have F1 : fileIs (w.setCell ⟨fb, 3, none⟩ (.int .i32 1)) fb name base size (.int .i32 1) (.int .u32 0) (.slice (some ⟨g, 0, none⟩) ls.length cap) (.slice none 0 0) := (heap_set H.file 3 _).trans rfl
  have G1 : (w.setCell ⟨fb, 3, none⟩ (.int .i32 1)).heap[g]? = some (.cells cur.toArray 3 (0, 0)) := (heap_set_ne 3 _ hgf).trans hg
  have B1 : Chg (fun k => k = fb ∨ (Value.slice (some ⟨g, 0, none⟩) ls.length cap).ownBlock = some k) w (w.setCell ⟨fb, 3, none⟩ (.int .i32 1)) := by refine Chg.set (Chg.refl _ _) ?_ _; simp
  have hsrc : Hid (∀ W : World, W.heap[g]? = some (.cells cur.toArray 3 (0, 0)) → ∀ j v, ((ls.drop (m + 1)).map (Value.int .i64))[j]? = some v → W.cell? ⟨g, m + 1 + j, none⟩ = some v) := by
    intro W hW j v hj
    rw [cell_of hW]
    rw [List.map_drop, List.getElem?_drop, ← show cur.take ls.length = ls.map (Value.int .i64) by simpa using htake] at hj
    rw [List.getElem?_take] at hj
    split at hj
    · simpa using hj
    · cases hj
  have hrow := Lib.hid (splice_erase hm2 (show cur.take ls.length = ls.map (Value.int .i64) by simpa using htake))
  have hcl : Hid (ls.length ≤ cur.length) := show ls.length ≤ cur.length by omega
  have HCS := Lib.hid hcs
  have HCP := Lib.hid hcap
  have hmax : cap ≤ 9223372036854775807 := by unfold maxLen at hcap; omega
  clear hcells H hg htake hcs hcap
  have i1 : (m : Int) < (ls.length : Int) := by omega
  have i2 : (m : Int) ≤ (ls.length : Int) := by omega
  have i3 : (m : Int) + 1 ≤ (ls.length : Int) := by omega
  have i4 : IntKind.i64.wrap ((m : Int) + 1) = (m : Int) + 1 := IntWalk.i64_in _ (by omega)
  have i5 : 0 ≤ (m : Int) + 1 := by omega
  have i6 : ((m : Int) + 1).toNat = m + 1 := by omega
  have i7 : (ls.length : Int) ≤ (cap : Int) := by omega
  have i8 : ¬ cap = m := by omega
  go_enter_defers Tryz.func62, Tryz.ntmps62
  go_wp2_with fail
  refine (lock_free Tryz.muLib ⟨fb, 3, none⟩ _ c3 f3).mono ?_
  rintro e w1 ⟨rfl, hw1⟩
  rw [← hw1] at F1 G1 B1
  clear hw1 c3 f3
  have d5 : w1.cell? ⟨fb, 5, none⟩ = some (.slice (some ⟨g, 0, none⟩) ls.length cap) := by rw [cell_of F1]; rfl
  obtain ⟨cs, hcs⟩ : ∃ cs, cs = (ls.drop (m + 1)).map (Value.int .i64) := ⟨_, rfl⟩
  rw [← hcs] at hsrc hrow
  have hcsl : cs.length = ls.length - (m + 1) := by rw [hcs]; simp
  have hone : Hid (∀ v ∈ cs, v.oneCell' = true) := by rw [hcs]; exact ints_oneCell _ _
  have HL := Lib.hid hcsl
  clear hcs hcsl
  have FIN : Hid (∀ w', fileOK w' fb name base size (.slice (some ⟨g, 0, none⟩) (ls.length - 1) cap) → w'.heap[g]? = some (.cells (splice cur m cs).toArray 3 (0, 0)) → Chg (fun k => k = fb ∨ (Value.slice (some ⟨g, 0, none⟩) ls.length cap).ownBlock = some k) w w' → LeavesLines B fb name base size (.slice (some ⟨g, 0, none⟩) ls.length cap) (ls.eraseIdx m) w (.returned (.tuple #[])) w') := by
    intro w' hF hG hb
    have hel : (ls.eraseIdx m).length = ls.length - 1 := by rw [List.length_eraseIdx]; simp [hm2]
    refine ⟨rfl, ⟨_, hF, ?_, HI.out, HN.out, by omega⟩, hb⟩
    rw [hel]
    have hl := HL.out
    have hcc := HCS.out
    refine ⟨by simp [hel], .inr ⟨g, cap, _, rfl, hgB, hG, by omega, HCP.out, ?_, ?_⟩⟩
    · simp [length_splice cur m cs (by omega)]
      exact hcc
    · simpa using hrow.out
  clear HI HN HCP hrow
  obtain ⟨n, hn⟩ : ∃ n, ls.length = n + 1 := ⟨ls.length - 1, by omega⟩
  rw [show ls.length - 1 = n by omega] at FIN
  rw [hn] at F1 d5 HL hlen hnc hm2
  have g0 : m ≤ n := by omega
  have g1 : n ≤ cap := by omega
  have g2 : (n : Int) ≤ (cap : Int) := by omega
  have g3 : (m : Int) < (n : Int) + 1 := by omega
  have g4 : (m : Int) + 1 ≤ (n : Int) + 1 := by omega
  have g5 : (m : Int) ≤ (n : Int) + 1 := by omega
  have g6 : (n : Int) + 1 ≤ (cap : Int) := by omega
  have g7 : n + 1 ≤ 9223372036854775807 := by omega
  clear i1 i2 i3 i7 hn
  by_cases hc : cap = m + 1
  all_goals
    go_wp2_with fail
    go_still_tail 13, (by kernel_rfl)
    change wpList _ _ _ _ _ w1.drew
    refine wpList_copy_chg rfl (.tmp 41) (.tmp 48) 23 23 rfl 3 Tryz.underlying23 Tryz.sizeInt _ _ _ _ _ _ rfl rfl g m cur 3 (by exact G1) cs (by rw [HL.out]; first | (simp only [Nat.min_def]; split <;> omega) | omega) ?_ (by have := HL.out; have := HCS.out; omega) hone.out ?_
    · intro hpos
      have hl := HL.out
      first
        | (exfalso; omega)
        | (refine ⟨rfl, ⟨g, m + 1, none⟩, rfl, fun j v hj => ?_⟩
           have := hsrc.out w1 G1 j v hj
           unfold Addr.add
           split
           · rename_i h0; subst h0; exact this
           · exact this)
    · intro w2 hg2 K2
      have F2 : fileIs w2 fb name base size (.int .i32 1) (.int .u32 0) (.slice (some ⟨g, 0, none⟩) (n + 1) cap) (.slice none 0 0) := fileIs.chg F1 ((Chg.refl _ _).drew.trans K2) (fun e => hgf e.symm)
      have B2 := B1.drew.step K2 (fun i _ hi => .inr (by rw [hi]; rfl))
      have e5 : w2.cell? ⟨fb, 5, none⟩ = some (.slice (some ⟨g, 0, none⟩) (n + 1) cap) := by rw [cell_of F2]; rfl
      have z5 := free_of F2 5
      have hz2 : w.heap.size ≤ w2.heap.size := B2.size
      clear K2 hsrc d5 hc
      have v1 : IntKind.i64.wrap (n : Int) = (n : Int) := IntWalk.i64_in _ (by omega)
      have v2 : 0 ≤ (n : Int) := by omega
      go_wp2_with fail
      go_still_tail 14, (by kernel_rfl)
      change wpList _ _ _ _ _ w2.drew
      go_wp2_with fail
      have F3 : fileIs (w2.setCell ⟨fb, 5, none⟩ (.slice (some ⟨g, 0, none⟩) n cap)).drew fb name base size (.int .i32 1) (.int .u32 0) (.slice (some ⟨g, 0, none⟩) n cap) (.slice none 0 0) := (heap_set F2 5 _).trans rfl
      have K3 : Chg (fun k => k = fb) w2 (w2.setCell ⟨fb, 5, none⟩ (.slice (some ⟨g, 0, none⟩) n cap)).drew := by refine Chg.drew (Chg.set (Chg.refl _ _) ?_ _); simp
      generalize (w2.setCell ⟨fb, 5, none⟩ (.slice (some ⟨g, 0, none⟩) n cap)).drew = w3 at *
      refine leaves_cons (f := 53) (args := #[.pointer (some ⟨fb, 3, none⟩)]) (by simp) (by simp [go_sem]) ?_
      refine (unlock_deferred Tryz.muLib ⟨fb, 3, none⟩ .returning _ (by rw [cell_of F3]; rfl) (free_of F3 3)).mono ?_
      rintro e u' w4 ⟨rfl, rfl, hw4⟩
      have F4 : fileOK w4 fb name base size (.slice (some ⟨g, 0, none⟩) n cap) := by rw [hw4]; exact (heap_set F3 3 _).trans rfl
      have K4 : Chg (fun k => k = fb) w2 w4 := by rw [hw4]; refine Chg.set K3 ?_ _; simp
      exact ⟨_, results_none rfl _ _ _, FIN.out w4 F4 (K4.at hg2.out hgf) (B2.step K4 (fun i _ hi => .inl hi))⟩

/-- merge's deferred function, where MergeLine has panicked. -/
theorem mergeCatch_panics (b : Nat) (x : Bool) (u : TypeId) (pv : Value) (older : List PanicEntry) (w : World) (hc : w.cell? ⟨b, 0, none⟩ = some (.bool x)) (hz : w.frozen? ⟨b, 0, none⟩ = false) :
    CallsD Tryz.prog 61 #[.pointer (some ⟨b, 0, none⟩)] (.panicking ({ v := .iface u pv, recovered := false } :: older)) w fun e u' w' =>
      e = .returned (.tuple #[]) ∧ u' = .panicking ({ v := .iface u pv, recovered := true } :: older) ∧ w' = w.setCell ⟨b, 0, none⟩ (.bool false) := by
  refine callsD_of_wpS Tryz.func61 rfl fun c₀ cs hu => ?_
  apply wpS_seq
  apply wpS_region
  simp [wpOpsS, go_sem, recoverD, hu, Tryz.ntmps61, Exit.thenS]
  refine wpS_cond (t := true) (by simp [Act.eval, Array.replicate]) ?_
  simp only [if_true]
  apply wpS_region
  simp [wpOpsS, go_sem, hc, hz, bodyPostS, results, Tryz.results61]
theorem mergeCatch_idle (p : Addr) (w : World) :
    CallsD Tryz.prog 61 #[.pointer (some p)] .returning w fun e u' w' => e = .returned (.tuple #[]) ∧ u' = .returning ∧ w' = w := by
  refine callsD_of_wpS Tryz.func61 rfl fun c₀ cs hu => ?_
  apply wpS_seq
  apply wpS_region
  simp [wpOpsS, go_sem, recoverD, hu, Tryz.ntmps61, Exit.thenS]
  refine wpS_cond (t := false) (by simp [Act.eval, Array.replicate]) ?_
  simp only [Bool.false_eq_true, if_false]
  refine wpS_of_wp (wp_skip ?_)
  cases c₀
  simp_all [bodyPostS, results, Tryz.results61]

/-- What merge does to the lines. -/
def mergeOk (ls : List Int) (line : Int) : Bool := decide (1 ≤ line ∧ line < ls.length)
def mergeL (ls : List Int) (line : Int) : List Int := if mergeOk ls line then ls.eraseIdx line.toNat else ls

def LeavesEdit (B fb : Nat) (name : ByteArray) (base size : Int) (lv : Value) (ls : List Int) (b : Bool) (w : World) (e : Ending) (w' : World) : Prop :=
  e = .returned (.bool b) ∧ (∃ lv', FileSt w' B fb name base size lv' ls) ∧ Chg (fun k => k = fb ∨ lv.ownBlock = some k) w w'

set_option maxRecDepth 100000 in
set_option maxHeartbeats 1000000 in
theorem merge_any (B fb : Nat) (name : ByteArray) (base size : Int) (lv : Value) (ls : List Int) (line : Int) (w : World) (H : FileSt w B fb name base size lv ls) :
    Calls Tryz.prog 37 #[.pointer (some ⟨fb, 0, none⟩), .int .i64 line] w (LeavesEdit B fb name base size lv (mergeL ls line) (mergeOk ls line) w) := by
  have hmf : ∀ (fn : Fn) (first cap : Array Value) (w : World), (Instr.makeFunc fn first cap).run Tryz.prog w = .ok (.func fn first cap) w := fun _ _ _ _ => rfl
  have hfb : fb < w.heap.size := lt_of_heap H.file
  have hlt := H.own.lt
  have HB : Below w.heap.size w (w.alloc (.cells #[.bool false] 4)) := (Below.refl _ _).alloc (Nat.le_refl _) _
  have H1 := H.below HB
  have hN : (w.alloc (.cells #[.bool false] 4)).heap[w.heap.size]? = some (.cells #[.bool false] 4 (0, 0)) := heap_new _ _
  by_cases hok : 1 ≤ line ∧ line < ls.length
  · obtain ⟨m, rfl⟩ : ∃ m : Nat, line = m := ⟨line.toNat, by omega⟩
    have e1 : mergeOk ls (m : Int) = true := by simp [mergeOk]; omega
    have e2 : mergeL ls (m : Int) = ls.eraseIdx m := by rw [mergeL, e1]; simp
    rw [e1, e2]
    have hc := Lib.hid (mergeLine_ok B fb name base size lv ls m _ H1 (by omega) (by omega))
    have HLT := Lib.hid hlt
    clear e1 e2 hok H1 hlt
    go_enter_defers Tryz.func37, Tryz.ntmps37
    go_wp2_with fail
    refine hc.out.mono ?_
    rintro e w2 ⟨rfl, ⟨lv2, FS2⟩, K2⟩
    have hn2 := K2.at hN (by rintro (h | h); omega; have := HLT.out _ h; omega)
    have B2 : Chg (fun k => k = fb ∨ lv.ownBlock = some k) w w2 := (Chg.of_below HB).trans K2
    have d0 : w2.cell? ⟨w.heap.size, 0, none⟩ = some (.bool false) := by rw [cell_of hn2]; rfl
    have z0 := free_of hn2 0
    have FS3 : FileSt (w2.setCell ⟨w.heap.size, 0, none⟩ (.bool true)) B fb name base size lv2 (ls.eraseIdx m) := FS2.chg (M := fun k => k = w.heap.size) (by refine Chg.set (Chg.refl _ _) ?_ _; simp) (by omega) (fun g hg e => by
      subst e
      exact owns_ne FS2.own hn2 (by decide) _ hg rfl)
    have B3 : Chg (fun k => k = fb ∨ lv.ownBlock = some k) w (w2.setCell ⟨w.heap.size, 0, none⟩ (.bool true)) := B2.set (.inr (Nat.le_refl _)) _
    have d1 : (w2.setCell ⟨w.heap.size, 0, none⟩ (.bool true)).cell? ⟨w.heap.size, 0, none⟩ = some (.bool true) := World.cell?_setCell_same _ _ _ d0
    clear K2 hc HB hN B2 FS2 hn2
    go_wp2_with fail
    generalize w2.setCell ⟨w.heap.size, 0, none⟩ (.bool true) = w3 at *
    refine leaves_cons (f := 61) (args := #[.pointer (some ⟨w.heap.size, 0, none⟩)]) (by simp) (by simp [go_sem]) ?_
    refine (mergeCatch_idle ⟨w.heap.size, 0, none⟩ _).mono ?_
    rintro e u' w4 ⟨rfl, rfl, rfl⟩
    exact ⟨.bool true, by simp [results, Tryz.results37, go_sem, d1], rfl, ⟨_, FS3⟩, B3⟩
  · have e1 : mergeOk ls line = false := by simp [mergeOk]; omega
    have e2 : mergeL ls line = ls := by rw [mergeL, e1]; simp
    rw [e1, e2]
    have hc : Calls Tryz.prog 62 #[.pointer (some ⟨fb, 0, none⟩), .int .i64 line] (w.alloc (.cells #[.bool false] 4)) (Panics (w.alloc (.cells #[.bool false] 4))) := by
      by_cases h1 : line < 1
      · exact mergeLine_low fb line _ h1
      · exact mergeLine_high B fb name base size lv ls line _ H1 (by omega) (by omega)
    have HC := Lib.hid hc
    have HH := Lib.hid H
    clear e1 e2 hok H1 hlt hc H
    go_enter_defers Tryz.func37, Tryz.ntmps37
    go_wp2_with fail
    refine HC.out.mono ?_
    rintro e w2 ⟨s, rfl, hb2⟩
    have hn2 : w2.heap[w.heap.size]? = some (.cells #[.bool false] 4 (0, 0)) := (hb2.block _ (by simp)).trans hN
    have d0 : w2.cell? ⟨w.heap.size, 0, none⟩ = some (.bool false) := by rw [cell_of hn2]; rfl
    have z0 := free_of hn2 0
    have B3 : Below w.heap.size w w2 := HB.trans (hb2.mono (by simp))
    clear HC HB hN hb2
    go_wp2_with fail
    refine leaves_cons (f := 61) (args := #[.pointer (some ⟨w.heap.size, 0, none⟩)]) (by simp) (by simp [go_sem]) ?_
    refine (mergeCatch_panics w.heap.size false 9 _ [] _ d0 z0).mono ?_
    rintro e u' w4 ⟨rfl, rfl, hw4⟩
    have d1 : w4.cell? ⟨w.heap.size, 0, none⟩ = some (.bool false) := by rw [hw4]; exact World.cell?_setCell_same _ _ _ d0
    have B4 : Below w.heap.size w w4 := by rw [hw4]; exact B3.setCell (Nat.le_refl _) _
    exact ⟨.bool false, by simp [results, Tryz.results37, go_sem, d1], rfl, ⟨_, HH.out.below B4⟩, Chg.of_below B4⟩
end Go.Proofs.YtmijedghihebjaaGreatFmt
