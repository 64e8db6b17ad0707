/- FileSet.file: the file in which a position is. -/
import Derived.Test.YtigjdicghjofoaaFmtPick
import Derived.Test.YtigjdicghjofoaaFmtPlain
import Derived.Deep.QuietTactic
import Derived.BigQuiet
import Derived.StillTailTactics
namespace Go.Proofs.YtigjdicghjofoaaFmt
open Go.RowKit Go.MuLone Go.RwLone

theorem T.loc_at {w : World} (ks ke : Int) : ∀ (t : T) (a : Addr) (p : Option Nat), t.At w p → w.cell? a = some (ptr t.root) → w.cell? (t.loc ks ke a p).1 = some (ptr (t.loc ks ke a p).2.2.root) ∧ (t.loc ks ke a p).2.2.At w (t.loc ks ke a p).2.1 := by
  intro t
  induction t with
  | nil => intro a p h hc; exact ⟨hc, h⟩
  | node b l f lo hi r ihl ihr =>
    intro a p h hc
    simp only [T.loc]
    split
    · exact ihl _ _ h.2.1 h.1.c1
    · split
      · exact ihr _ _ h.2.2 h.1.c2
      · exact ⟨hc, h⟩

theorem T.loc_find (p : Int) : ∀ (t : T) (a : Addr) (q : Option Nat), (∀ x ∈ t.files, x.2.1 ≤ x.2.2) → t.files.Pairwise (fun x y => x.2.2 < y.2.1) →
    ((t.loc p p a q).2.2 = .nil ∧ ∀ x ∈ t.files, p < x.2.1 ∨ x.2.2 < p) ∨ ∃ b l f lo hi r, (t.loc p p a q).2.2 = .node b l f lo hi r ∧ (f, lo, hi) ∈ t.files ∧ lo ≤ p ∧ p ≤ hi := by
  intro t
  induction t with
  | nil => intro a q _ _; exact .inl ⟨rfl, fun x hx => by simp [T.files] at hx⟩
  | node b l f lo hi r ihl ihr =>
    intro a q h1 h2
    simp only [T.files] at h1 h2
    rw [List.pairwise_append] at h2
    obtain ⟨p1, p2, p3⟩ := h2
    obtain ⟨p4, p5⟩ := List.pairwise_cons.1 p2
    have hx := h1 (f, lo, hi) (by simp)
    simp only at hx
    simp only [T.loc]
    split
    · rename_i hlt
      rcases ihl ⟨b, 1, none⟩ (some b) (fun x hx => h1 x (by simp [hx])) p1 with ⟨h3, h4⟩ | ⟨b', l', f', lo', hi', r', h3, h4, h5⟩
      · refine .inl ⟨h3, fun x hx => ?_⟩
        simp only [T.files] at hx
        rcases List.mem_append.1 hx with hx | hx
        · exact h4 x hx
        · rcases List.mem_cons.1 hx with rfl | hx
          · exact .inl hlt
          · have := p4 x hx
            simp only at this
            exact .inl (by omega)
      · exact .inr ⟨b', l', f', lo', hi', r', h3, by simp [T.files, h4], h5⟩
    · split
      · rename_i hlt
        rcases ihr ⟨b, 2, none⟩ (some b) (fun x hx => h1 x (by simp [hx])) p5 with ⟨h3, h4⟩ | ⟨b', l', f', lo', hi', r', h3, h4, h5⟩
        · refine .inl ⟨h3, fun x hx => ?_⟩
          simp only [T.files] at hx
          rcases List.mem_append.1 hx with hx | hx
          · have := p3 x hx (f, lo, hi) (by simp)
            simp only at this
            exact .inr (by omega)
          · rcases List.mem_cons.1 hx with rfl | hx
            · exact .inr hlt
            · exact h4 x hx
        · exact .inr ⟨b', l', f', lo', hi', r', h3, by simp [T.files, h4], h5⟩
      · exact .inr ⟨b, l, f, lo, hi, r, rfl, by simp [T.files], by omega, by omega⟩

theorem made_pair (n : Int) (gs : List GFile) (h : validFrom n gs) : (madeFrom n gs).Pairwise (fun a b => a.base + a.size < b.base) := by
  induction gs generalizing n with
  | nil => simp [madeFrom]
  | cons g gs ih =>
    simp only [madeFrom, List.pairwise_cons]
    refine ⟨fun m hm => ?_, ih _ h.2⟩
    have := ((madeFrom_bounds _ gs h.2).2 m hm).1
    have hn : (make n g).next = (make n g).base + g.size + 1 := rfl
    have hs : (make n g).size = g.size := rfl
    omega

/-- The files of a built set, in order. -/
theorem built_sorted {fbs : List Nat} {ms : List MFile} (hl : fbs.length = ms.length) (hp : ms.Pairwise (fun a b => a.base + a.size < b.base)) (h0 : ∀ m ∈ ms, 0 ≤ m.size) :
    (∀ x ∈ List.zipWith (fun fb (m : MFile) => (fb, m.base, m.base + m.size)) fbs ms, x.2.1 ≤ x.2.2) ∧ (List.zipWith (fun fb (m : MFile) => (fb, m.base, m.base + m.size)) fbs ms).Pairwise (fun x y => x.2.2 < y.2.1) := by
  constructor
  · intro x hx
    obtain ⟨k, hk, rfl⟩ := List.getElem_of_mem hx
    simp at hk
    have := h0 (ms[k]'(by omega)) (List.getElem_mem _)
    simp
    omega
  · rw [List.pairwise_iff_getElem]
    intro i j hi hj hij
    simp at hi hj
    have := List.pairwise_iff_getElem.1 hp i j (by omega) (by omega) hij
    simpa using this
theorem zip_mem {fbs : List Nat} {ms : List MFile} {f : Nat} {lo hi : Int} (h : (f, lo, hi) ∈ List.zipWith (fun fb (m : MFile) => (fb, m.base, m.base + m.size)) fbs ms) : ∃ (k : Nat) (m : MFile), fbs[k]? = some f ∧ ms[k]? = some m ∧ lo = m.base ∧ hi = m.base + m.size := by
  obtain ⟨k, hk, he⟩ := List.getElem_of_mem h
  simp at hk he
  exact ⟨k, ms[k]'(by omega), by rw [List.getElem?_eq_getElem (by omega), he.1], List.getElem?_eq_getElem (by omega), he.2.1.symm, he.2.2.symm⟩
theorem zip_at {fbs : List Nat} {ms : List MFile} (hl : fbs.length = ms.length) {k : Nat} {m : MFile} (hk : ms[k]? = some m) : ∃ fb, fbs[k]? = some fb ∧ (fb, m.base, m.base + m.size) ∈ List.zipWith (fun fb (m : MFile) => (fb, m.base, m.base + m.size)) fbs ms := by
  obtain ⟨h1, h2⟩ := List.getElem?_eq_some_iff.1 hk
  refine ⟨fbs[k]'(by omega), List.getElem?_eq_getElem (by omega), ?_⟩
  refine List.mem_of_getElem? (i := k) ?_
  rw [List.getElem?_zipWith, List.getElem?_eq_getElem (by omega), hk]

/-- What file hands back: the file in which p is, or nil. -/
def FileRes (fbs : List Nat) (ms : List MFile) (p : Int) (r : Option Nat) : Prop :=
  (r = none ∧ ∀ m ∈ ms, p < m.base ∨ m.base + m.size < p) ∨ ∃ (k : Nat) (m : MFile) (fb : Nat), r = some fb ∧ fbs[k]? = some fb ∧ ms[k]? = some m ∧ m.base ≤ p ∧ p ≤ m.base + m.size
def LeavesFile (S : Nat) (fbs : List Nat) (ms : List MFile) (p : Int) (w : World) (e : Ending) (w' : World) : Prop :=
  ∃ r, e = .returned (ptr r) ∧ FileRes fbs ms p r ∧ Chg (fun k => k = S) w w'

set_option maxRecDepth 100000 in
set_option maxHeartbeats 2000000 in
theorem setFile_any (B S : Nat) (lv tv : Value) (gs : List GFile) (t : T) (fbs : List Nat) (yvs : List Value) (p : Int) (w : World) (H : Built B w S lv tv gs t fbs yvs) (hv : validL gs) :
    Calls Tryf.prog 53 #[.pointer (some ⟨S, 0, none⟩), .int .i64 p] w (LeavesFile S fbs (madeL gs) p w) := by
  have hml : fbs.length = (madeL gs).length := by rw [H.fbl, madeL_length]
  obtain ⟨sr1, sr2⟩ := built_sorted hml (made_pair 1 gs hv) (fun m hm => ((valid_bounds hv).2 m hm).2.1)
  rw [← H.files] at sr1 sr2
  have HS0 : setIs w S (.int .i32 0) (.int .u32 0) (.int .u32 0) (.int .u32 0) (.int .i32 0) (.int .i32 0) (baseOf gs) t.root fbs.getLast? := H.set.set
  have hSl : S < w.heap.size := lt_of_heap HS0
  have SN : S ∉ t.nodes := fun h => by obtain ⟨c, hc⟩ := H.set.at'.lt S h; exact ne_of_type hc HS0 (by decide) rfl
  have hfile : Hid (∀ fb ∈ fbs, ∃ c : Array Value, c.size = 7 ∧ (∃ v, c[0]? = some v) ∧ w.heap[fb]? = some (.cells c 87 (0, 0))) := fun fb hfb => by
    obtain ⟨k, hk⟩ := List.getElem?_of_mem hfb
    obtain ⟨hk1, _⟩ := List.getElem?_eq_some_iff.1 hk
    obtain ⟨fb', yv, lv', h1, h2, h3, h4, h5⟩ := H.each k _ (List.getElem?_eq_getElem (by omega))
    rw [hk] at h1
    obtain rfl := Option.some.inj h1
    exact ⟨_, rfl, ⟨_, rfl⟩, h4.file⟩
  -- the search, behind the look at the last file
  have RL : Hid (∀ n, Calls Tryf.prog 51 #[.pointer (some ⟨S, 0, none⟩)] (w.drewN n) fun e w1 => e = .returned (.tuple #[]) ∧ Chg (fun k => k = S) w w1 ∧ setIs w1 S (.int .i32 0) (.int .u32 0) (.int .u32 0) (.int .u32 0) (.int .i32 1) (.int .i32 0) (baseOf gs) t.root fbs.getLast?) := fun n => by
    have HSn : setIs (w.drewN n) S (.int .i32 0) (.int .u32 0) (.int .u32 0) (.int .u32 0) (.int .i32 0) (.int .i32 0) (baseOf gs) t.root fbs.getLast? := HS0
    refine (rlock_open Tryf.rwRLib S 0 0 (.int .i32 0) (.int .u32 0) _ (by rw [cell_of HSn]; rfl) (by rw [cell_of HSn]; rfl) (by rw [cell_of HSn]; rfl) (free_of HSn _) (by rw [up1]; decide)).mono ?_
    rintro e w1 ⟨rfl, hw1⟩
    rw [up1] at hw1
    refine ⟨rfl, ?_, ?_⟩
    · rw [hw1]; refine Chg.set ((Chg.refl _ _).drewN n) ?_ _; simp
    · rw [hw1]; exact (heap_set HSn 4 _).trans rfl
  have HAT := Lib.hid H.set.at'
  have HLF : Hid (∀ k, k ∈ t.nodes → ¬ k = S) := fun k hk e => SN (e ▸ hk)
  have LAST : Hid (fbs.getLast? = none ∧ madeL gs = [] ∨ ∃ (fb : Nat) (m : MFile) (k : Nat), fbs.getLast? = some fb ∧ fbs[k]? = some fb ∧ (madeL gs)[k]? = some m ∧ ∃ lv, fileOK w fb m.name m.base m.size lv ∧ 0 ≤ m.base ∧ m.base ≤ 1099511627776 ∧ 0 ≤ m.size ∧ m.size ≤ 1099511627776) := by
    rcases List.eq_nil_or_concat fbs with rfl | ⟨l, fb, rfl⟩
    · exact .inl ⟨rfl, List.eq_nil_of_length_eq_zero hml.symm⟩
    · rw [List.concat_eq_append] at *
      have hk : l.length < (madeL gs).length := by rw [← hml]; simp
      obtain ⟨fb', yv, lv', h1, h2, h3, h4, h5⟩ := H.each l.length _ (List.getElem?_eq_getElem hk)
      rw [List.getElem?_append_right (Nat.le_refl _)] at h1
      simp at h1
      subst h1
      obtain ⟨b1, b2, b3, b4, _⟩ := (valid_bounds hv).2 _ (List.getElem_mem hk)
      exact .inr ⟨fb, _, l.length, by simp, by simp, List.getElem?_eq_getElem hk, lv', h4.file, by omega, b4, b2, b3⟩
  have FIND : Hid (∀ a q, ((t.loc p p a q).2.2 = .nil ∧ FileRes fbs (madeL gs) p none) ∨ ∃ b l f lo hi r, (t.loc p p a q).2.2 = .node b l f lo hi r ∧ f ∈ fbs ∧ FileRes fbs (madeL gs) p (some f)) := fun a q => by
    rcases T.loc_find p t a q sr1 sr2 with ⟨h1, h2⟩ | ⟨b, l, f, lo, hi, r, h1, h2, h3, h4⟩
    · refine .inl ⟨h1, .inl ⟨rfl, fun m hm => ?_⟩⟩
      obtain ⟨k, hk⟩ := List.getElem?_of_mem hm
      obtain ⟨fb, _, hz⟩ := zip_at hml hk
      rw [← H.files] at hz
      exact h2 _ hz
    · rw [H.files] at h2
      obtain ⟨k, m, k1, k2, rfl, rfl⟩ := zip_mem h2
      exact .inr ⟨b, l, f, _, _, r, h1, List.mem_of_getElem? k1, .inr ⟨k, m, f, rfl, k1, k2, h3, h4⟩⟩
  clear H hv hml sr1 sr2
  rcases LAST.out with ⟨hl0, hm0⟩ | ⟨fb, m, k, hl1, hk1, hk2, flv, hF, b1, b2, b3, b4⟩
  · have HL := Lib.hid (apLoad_none S _ _ _ _ _ _ _ _ w (by rw [hl0] at HS0; exact HS0))
    clear LAST hl0 hm0
    go_enter_defers Tryf.func53, Tryf.ntmps53
    go_wp2_with fail
    refine HL.out.mono ?_
    rintro e w0 ⟨rfl, rfl⟩
    clear HL
    go_wp2_with fail
    go_quiet (fail)
    go_wp2_with fail
    refine (RL.out _).mono ?_
    rintro e w1 ⟨rfl, K1, HS1⟩
    have at1 := HAT.out.chg K1 (fun b hb => HLF.out b hb)
    have LOC := Lib.hid (locate_any S t p p _ _ _ _ _ _ _ _ w1 HS1 at1)
    go_wp2_with fail
    refine LOC.out.mono ?_
    rintro e w2 ⟨rfl, hb2⟩
    have HS2 := setIs.chg (M := fun _ => False) HS1 (Chg.of_below hb2) id
    have at2 := at1.chg (Chg.of_below (M := fun _ => False) hb2) (fun _ _ => id)
    have c7 : w2.cell? ⟨S, 7, none⟩ = some (ptr t.root) := by rw [cell_of HS2]; rfl
    obtain ⟨lc1, lc2⟩ := T.loc_at p p t ⟨S, 7, none⟩ none at2 c7
    have K2 : Chg (fun k => k = S) w w2 := K1.trans (Chg.of_below hb2)
    have FI := FIND.out ⟨S, 7, none⟩ none
    generalize (t.loc p p ⟨S, 7, none⟩ none).1 = ad at *
    generalize (t.loc p p ⟨S, 7, none⟩ none).2.1 = q at *
    generalize (t.loc p p ⟨S, 7, none⟩ none).2.2 = s at *
    clear LOC RL FIND at1 at2 c7 HS1 K1 hb2
    rcases FI with ⟨rfl, res⟩ | ⟨b, l, f, lo, hi, r, rfl, hf, res⟩
    · rw [show ptr T.nil.root = .pointer none from rfl] at lc1
      have HR := Lib.hid res
      have HSS := Lib.hid HS2
      clear res lc2 HS2
      go_wp2_with fail
      refine leaves_cons (f := 52) (args := #[.pointer (some ⟨S, 0, none⟩)]) (by simp) (by simp [go_sem]) ?_
      refine (runlock_deferred Tryf.rwRLib S 0 1 (.int .i32 0) (.int .u32 0) .returning _ (by rw [cell_of HSS.out]; rfl) (by rw [cell_of HSS.out]; rfl) (by rw [cell_of HSS.out]; rfl) (free_of HSS.out _) (by rw [down1]; decide)).mono ?_
      rintro e u' w6 ⟨rfl, rfl, hw6⟩
      have K6 : Chg (fun k => k = S) w w6 := by rw [hw6]; refine Chg.set K2 ?_ _; simp
      exact ⟨_, results_tmp rfl _ _ _, none, rfl, HR.out, K6⟩
    · have c3 : w2.cell? ⟨b, 3, none⟩ = some (.pointer (some ⟨f, 0, none⟩)) := by rw [cell_of lc2.1]; rfl
      rw [show ptr (T.node b l f lo hi r).root = .pointer (some ⟨b, 0, none⟩) from rfl] at lc1
      obtain ⟨c, hc7, ⟨v, hv0⟩, hF⟩ := hfile.out f hf
      have hfS : ¬ f = S := ne_of_type hF HS0 (by decide)
      have hbS : ¬ b = S := ne_of_type lc2.1 HS2 (by decide)
      have hF2 := K2.at hF hfS
      have HR := Lib.hid res
      have AS := Lib.hid (apStore_any S f _ _ _ _ _ _ _ _ _ w2.drew HS2 c hF2 v hv0)
      have HSS := Lib.hid HS2
      clear res lc2 HS2 hF hc7 hv0 hF2
      go_wp2_with fail
      go_still_tail 7, (by kernel_rfl)
      change wpList _ _ _ _ _ w2.drew
      go_wp2_with fail
      refine AS.out.mono ?_
      rintro e w3 ⟨rfl, hw3⟩
      have K3 : Chg (fun k => k = S) w w3 := by rw [hw3]; refine Chg.set K2.drew ?_ _; simp
      have HS3 : setIs w3 S (.int .i32 0) (.int .u32 0) (.int .u32 0) (.int .u32 0) (.int .i32 1) (.int .i32 0) (baseOf gs) t.root (some f) := by rw [hw3]; exact (heap_set HSS.out 8 _).trans rfl
      have d3 : w3.cell? ⟨b, 3, none⟩ = some (.pointer (some ⟨f, 0, none⟩)) := by rw [hw3, ← c3]; exact World.cell?_of_block (heap_set_ne 8 _ hbS)
      have HSS3 := Lib.hid HS3
      clear hw3 HS3 AS HSS c3 K2
      go_wp2_with fail
      refine leaves_cons (f := 52) (args := #[.pointer (some ⟨S, 0, none⟩)]) (by simp) (by simp [go_sem]) ?_
      refine (runlock_deferred Tryf.rwRLib S 0 1 (.int .i32 0) (.int .u32 0) .returning _ (by rw [cell_of HSS3.out]; rfl) (by rw [cell_of HSS3.out]; rfl) (by rw [cell_of HSS3.out]; rfl) (free_of HSS3.out _) (by rw [down1]; decide)).mono ?_
      rintro e u' w6 ⟨rfl, rfl, hw6⟩
      have K6 : Chg (fun k => k = S) w w6 := by rw [hw6]; refine Chg.set K3 ?_ _; simp
      exact ⟨_, results_tmp rfl _ _ _, some f, rfl, HR.out, K6⟩
  · have HL := Lib.hid (apLoad_some S fb _ _ _ _ _ _ _ _ w (by rw [hl1] at HS0; exact HS0) _ rfl hF)
    have c1 := hF.c1
    have c2 := hF.c2
    have HIT : Hid (m.base ≤ p → p ≤ m.base + m.size → FileRes fbs (madeL gs) p (some fb)) := fun h1 h2 => .inr ⟨k, m, fb, rfl, hk1, hk2, h1, h2⟩
    generalize m.base = mb at *
    generalize m.size = ms at *
    have e1 : IntKind.i64.wrap (mb + ms) = mb + ms := IntWalk.i64_in _ (by omega)
    clear LAST hl1 hk1 hk2 hF
    by_cases h1 : mb ≤ p
    · by_cases h2 : p ≤ mb + ms
      · have HR := Lib.hid (HIT.out h1 h2)
        have q1 : decide (mb ≤ p) = true := by simpa using h1
        have q2 : decide (p ≤ mb + ms) = true := by simpa using h2
        clear HIT RL FIND
        go_enter_defers Tryf.func53, Tryf.ntmps53
        go_wp2_with fail
        refine HL.out.mono ?_
        rintro e w0 ⟨rfl, rfl⟩
        clear HL
        go_wp2_with fail
        go_quiet (fail)
        go_wp2_with fail
        exact ⟨_, results_tmp rfl _ _ _, some fb, rfl, HR.out, (Chg.refl _ _).drewN _⟩
      · have q1 : decide (mb ≤ p) = true := by simpa using h1
        have q2 : decide (p ≤ mb + ms) = false := by simpa using h2
        clear HIT
        go_enter_defers Tryf.func53, Tryf.ntmps53
        go_wp2_with fail
        refine HL.out.mono ?_
        rintro e w0 ⟨rfl, rfl⟩
        clear HL
        go_wp2_with fail
        go_quiet (fail)
        go_wp2_with fail
        refine (RL.out _).mono ?_
        rintro e w1 ⟨rfl, K1, HS1⟩
        have at1 := HAT.out.chg K1 (fun b hb => HLF.out b hb)
        have LOC := Lib.hid (locate_any S t p p _ _ _ _ _ _ _ _ w1 HS1 at1)
        go_wp2_with fail
        refine LOC.out.mono ?_
        rintro e w2 ⟨rfl, hb2⟩
        have HS2 := setIs.chg (M := fun _ => False) HS1 (Chg.of_below hb2) id
        have at2 := at1.chg (Chg.of_below (M := fun _ => False) hb2) (fun _ _ => id)
        have c7 : w2.cell? ⟨S, 7, none⟩ = some (ptr t.root) := by rw [cell_of HS2]; rfl
        obtain ⟨lc1, lc2⟩ := T.loc_at p p t ⟨S, 7, none⟩ none at2 c7
        have K2 : Chg (fun k => k = S) w w2 := K1.trans (Chg.of_below hb2)
        have FI := FIND.out ⟨S, 7, none⟩ none
        generalize (t.loc p p ⟨S, 7, none⟩ none).1 = ad at *
        generalize (t.loc p p ⟨S, 7, none⟩ none).2.1 = q at *
        generalize (t.loc p p ⟨S, 7, none⟩ none).2.2 = s at *
        clear LOC RL FIND at1 at2 c7 HS1 K1 hb2
        rcases FI with ⟨rfl, res⟩ | ⟨b, l, f, lo, hi, r, rfl, hf, res⟩
        · rw [show ptr T.nil.root = .pointer none from rfl] at lc1
          have HR := Lib.hid res
          have HSS := Lib.hid HS2
          clear res lc2 HS2
          go_wp2_with fail
          refine leaves_cons (f := 52) (args := #[.pointer (some ⟨S, 0, none⟩)]) (by simp) (by simp [go_sem]) ?_
          refine (runlock_deferred Tryf.rwRLib S 0 1 (.int .i32 0) (.int .u32 0) .returning _ (by rw [cell_of HSS.out]; rfl) (by rw [cell_of HSS.out]; rfl) (by rw [cell_of HSS.out]; rfl) (free_of HSS.out _) (by rw [down1]; decide)).mono ?_
          rintro e u' w6 ⟨rfl, rfl, hw6⟩
          have K6 : Chg (fun k => k = S) w w6 := by rw [hw6]; refine Chg.set K2 ?_ _; simp
          exact ⟨_, results_tmp rfl _ _ _, none, rfl, HR.out, K6⟩
        · have c3 : w2.cell? ⟨b, 3, none⟩ = some (.pointer (some ⟨f, 0, none⟩)) := by rw [cell_of lc2.1]; rfl
          rw [show ptr (T.node b l f lo hi r).root = .pointer (some ⟨b, 0, none⟩) from rfl] at lc1
          obtain ⟨c, hc7, ⟨v, hv0⟩, hF⟩ := hfile.out f hf
          have hfS : ¬ f = S := ne_of_type hF HS0 (by decide)
          have hbS : ¬ b = S := ne_of_type lc2.1 HS2 (by decide)
          have hF2 := K2.at hF hfS
          have HR := Lib.hid res
          have AS := Lib.hid (apStore_any S f _ _ _ _ _ _ _ _ _ w2.drew HS2 c hF2 v hv0)
          have HSS := Lib.hid HS2
          clear res lc2 HS2 hF hc7 hv0 hF2
          go_wp2_with fail
          go_still_tail 7, (by kernel_rfl)
          change wpList _ _ _ _ _ w2.drew
          go_wp2_with fail
          refine AS.out.mono ?_
          rintro e w3 ⟨rfl, hw3⟩
          have K3 : Chg (fun k => k = S) w w3 := by rw [hw3]; refine Chg.set K2.drew ?_ _; simp
          have HS3 : setIs w3 S (.int .i32 0) (.int .u32 0) (.int .u32 0) (.int .u32 0) (.int .i32 1) (.int .i32 0) (baseOf gs) t.root (some f) := by rw [hw3]; exact (heap_set HSS.out 8 _).trans rfl
          have d3 : w3.cell? ⟨b, 3, none⟩ = some (.pointer (some ⟨f, 0, none⟩)) := by rw [hw3, ← c3]; exact World.cell?_of_block (heap_set_ne 8 _ hbS)
          have HSS3 := Lib.hid HS3
          clear hw3 HS3 AS HSS c3 K2
          go_wp2_with fail
          refine leaves_cons (f := 52) (args := #[.pointer (some ⟨S, 0, none⟩)]) (by simp) (by simp [go_sem]) ?_
          refine (runlock_deferred Tryf.rwRLib S 0 1 (.int .i32 0) (.int .u32 0) .returning _ (by rw [cell_of HSS3.out]; rfl) (by rw [cell_of HSS3.out]; rfl) (by rw [cell_of HSS3.out]; rfl) (free_of HSS3.out _) (by rw [down1]; decide)).mono ?_
          rintro e u' w6 ⟨rfl, rfl, hw6⟩
          have K6 : Chg (fun k => k = S) w w6 := by rw [hw6]; refine Chg.set K3 ?_ _; simp
          exact ⟨_, results_tmp rfl _ _ _, some f, rfl, HR.out, K6⟩
    · have q1 : decide (mb ≤ p) = false := by simpa using h1
      clear HIT
      go_enter_defers Tryf.func53, Tryf.ntmps53
      go_wp2_with fail
      refine HL.out.mono ?_
      rintro e w0 ⟨rfl, rfl⟩
      clear HL
      go_wp2_with fail
      go_quiet (fail)
      go_wp2_with fail
      refine (RL.out _).mono ?_
      rintro e w1 ⟨rfl, K1, HS1⟩
      have at1 := HAT.out.chg K1 (fun b hb => HLF.out b hb)
      have LOC := Lib.hid (locate_any S t p p _ _ _ _ _ _ _ _ w1 HS1 at1)
      go_wp2_with fail
      refine LOC.out.mono ?_
      rintro e w2 ⟨rfl, hb2⟩
      have HS2 := setIs.chg (M := fun _ => False) HS1 (Chg.of_below hb2) id
      have at2 := at1.chg (Chg.of_below (M := fun _ => False) hb2) (fun _ _ => id)
      have c7 : w2.cell? ⟨S, 7, none⟩ = some (ptr t.root) := by rw [cell_of HS2]; rfl
      obtain ⟨lc1, lc2⟩ := T.loc_at p p t ⟨S, 7, none⟩ none at2 c7
      have K2 : Chg (fun k => k = S) w w2 := K1.trans (Chg.of_below hb2)
      have FI := FIND.out ⟨S, 7, none⟩ none
      generalize (t.loc p p ⟨S, 7, none⟩ none).1 = ad at *
      generalize (t.loc p p ⟨S, 7, none⟩ none).2.1 = q at *
      generalize (t.loc p p ⟨S, 7, none⟩ none).2.2 = s at *
      clear LOC RL FIND at1 at2 c7 HS1 K1 hb2
      rcases FI with ⟨rfl, res⟩ | ⟨b, l, f, lo, hi, r, rfl, hf, res⟩
      · rw [show ptr T.nil.root = .pointer none from rfl] at lc1
        have HR := Lib.hid res
        have HSS := Lib.hid HS2
        clear res lc2 HS2
        go_wp2_with fail
        refine leaves_cons (f := 52) (args := #[.pointer (some ⟨S, 0, none⟩)]) (by simp) (by simp [go_sem]) ?_
        refine (runlock_deferred Tryf.rwRLib S 0 1 (.int .i32 0) (.int .u32 0) .returning _ (by rw [cell_of HSS.out]; rfl) (by rw [cell_of HSS.out]; rfl) (by rw [cell_of HSS.out]; rfl) (free_of HSS.out _) (by rw [down1]; decide)).mono ?_
        rintro e u' w6 ⟨rfl, rfl, hw6⟩
        have K6 : Chg (fun k => k = S) w w6 := by rw [hw6]; refine Chg.set K2 ?_ _; simp
        exact ⟨_, results_tmp rfl _ _ _, none, rfl, HR.out, K6⟩
      · have c3 : w2.cell? ⟨b, 3, none⟩ = some (.pointer (some ⟨f, 0, none⟩)) := by rw [cell_of lc2.1]; rfl
        rw [show ptr (T.node b l f lo hi r).root = .pointer (some ⟨b, 0, none⟩) from rfl] at lc1
        obtain ⟨c, hc7, ⟨v, hv0⟩, hF⟩ := hfile.out f hf
        have hfS : ¬ f = S := ne_of_type hF HS0 (by decide)
        have hbS : ¬ b = S := ne_of_type lc2.1 HS2 (by decide)
        have hF2 := K2.at hF hfS
        have HR := Lib.hid res
        have AS := Lib.hid (apStore_any S f _ _ _ _ _ _ _ _ _ w2.drew HS2 c hF2 v hv0)
        have HSS := Lib.hid HS2
        clear res lc2 HS2 hF hc7 hv0 hF2
        go_wp2_with fail
        go_still_tail 7, (by kernel_rfl)
        change wpList _ _ _ _ _ w2.drew
        go_wp2_with fail
        refine AS.out.mono ?_
        rintro e w3 ⟨rfl, hw3⟩
        have K3 : Chg (fun k => k = S) w w3 := by rw [hw3]; refine Chg.set K2.drew ?_ _; simp
        have HS3 : setIs w3 S (.int .i32 0) (.int .u32 0) (.int .u32 0) (.int .u32 0) (.int .i32 1) (.int .i32 0) (baseOf gs) t.root (some f) := by rw [hw3]; exact (heap_set HSS.out 8 _).trans rfl
        have d3 : w3.cell? ⟨b, 3, none⟩ = some (.pointer (some ⟨f, 0, none⟩)) := by rw [hw3, ← c3]; exact World.cell?_of_block (heap_set_ne 8 _ hbS)
        have HSS3 := Lib.hid HS3
        clear hw3 HS3 AS HSS c3 K2
        go_wp2_with fail
        refine leaves_cons (f := 52) (args := #[.pointer (some ⟨S, 0, none⟩)]) (by simp) (by simp [go_sem]) ?_
        refine (runlock_deferred Tryf.rwRLib S 0 1 (.int .i32 0) (.int .u32 0) .returning _ (by rw [cell_of HSS3.out]; rfl) (by rw [cell_of HSS3.out]; rfl) (by rw [cell_of HSS3.out]; rfl) (free_of HSS3.out _) (by rw [down1]; decide)).mono ?_
        rintro e u' w6 ⟨rfl, rfl, hw6⟩
        have K6 : Chg (fun k => k = S) w w6 := by rw [hw6]; refine Chg.set K3 ?_ _; simp
        exact ⟨_, results_tmp rfl _ _ _, some f, rfl, HR.out, K6⟩
end Go.Proofs.YtigjdicghjofoaaFmt
