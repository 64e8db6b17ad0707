/- FileSet.File, impl.FileAt. -/
import Derived.Test.YtigjdicghjofoaaFmtSetFile
import Derived.Test.YtigjdicghjofoaaFmtSpecF
import Derived.LaidEqlPtr
namespace Go.Proofs.YtigjdicghjofoaaFmt
open Go.RowKit Go.MuLone Go.RwLone

set_option maxRecDepth 100000 in
set_option maxHeartbeats 1000000 in
theorem setFileOf_any (B S : Nat) (lv tv : Value) (gs : List GFile) (t : T) (fbs : List Nat) (yvs : List Value) (p : Int) (w : World) (H : Built B w S lv tv gs t fbs yvs) (hv : validL gs) :
    Calls Tryf.prog 38 #[.pointer (some ⟨S, 0, none⟩), .int .i64 p] w (LeavesFile S fbs (madeL gs) p w) := by
  by_cases hp : p = 0
  · subst hp
    have FIN : Hid (LeavesFile S fbs (madeL gs) 0 w (.returned (.pointer none)) w) := ⟨none, rfl, .inl ⟨rfl, fun m hm => by have := (valid_bounds hv).2 m hm; omega⟩, Chg.refl _ _⟩
    clear H hv
    go_enter Tryf.func38, Tryf.ntmps38
    go_wp2
    go_ret
    exact FIN.out
  · have hp1 : (p != 0) = true := by simpa using hp
    have hp2 : (p == 0) = false := by simpa using hp
    have HF := Lib.hid (setFile_any B S lv tv gs t fbs yvs p w H hv)
    clear H hv hp
    go_enter Tryf.func38, Tryf.ntmps38
    go_wp2_with fail
    refine HF.out.mono ?_
    rintro e w2 ⟨r, rfl, res, K2⟩
    have RES := Lib.hid res
    clear HF res
    go_wp2
    go_ret
    exact ⟨r, rfl, RES.out, K2⟩

/-- A position lies in one file alone. -/
theorem one_file2 {fs : List GFile} (hv : validL fs) {i j : Nat} {a b : MFile} {p : Int} (hi : (madeL fs)[i]? = some a) (hj : (madeL fs)[j]? = some b) (h1 : a.base ≤ p) (h2 : p ≤ a.base + a.size) (h3 : b.base ≤ p) (h4 : p ≤ b.base + b.size) : i = j := by
  have hp : (madeL fs).Pairwise (fun a b => a.base + a.size < b.base) := made_pair 1 fs hv
  obtain ⟨li, ei⟩ := List.getElem?_eq_some_iff.1 hi
  obtain ⟨lj, ej⟩ := List.getElem?_eq_some_iff.1 hj
  rcases Nat.lt_trichotomy i j with h | h | h
  · have := List.pairwise_iff_getElem.1 hp i j li lj h
    rw [ei, ej] at this
    omega
  · exact h
  · have := List.pairwise_iff_getElem.1 hp j i lj li h
    rw [ei, ej] at this
    omega

theorem nodup_at {fbs : List Nat} (h : fbs.Nodup) {i j : Nat} {x : Nat} (hi : fbs[i]? = some x) (hj : fbs[j]? = some x) : i = j := by
  obtain ⟨li, ei⟩ := List.getElem?_eq_some_iff.1 hi
  obtain ⟨lj, ej⟩ := List.getElem?_eq_some_iff.1 hj
  exact (List.getElem_inj (h₀ := li) (h₁ := lj) h).1 (by rw [ei, ej])

set_option maxRecDepth 100000 in
set_option maxHeartbeats 1000000 in
theorem implFileAt_any (fv : Value) (fs : List GFile) (p : Int) (w : World) (hf : Files w fv fs) (hv : validL fs) :
    Calls Tryf.prog 22 #[fv, .int .i64 p] w (LeavesIdx (madeL fs) p w) := by
  have HC := Lib.hid (build_any fv fs w hf hv)
  have HV := Lib.hid hv
  have hlen := hf.1
  obtain ⟨fa, fc, rfl, _⟩ := hf.cell
  clear hf hv
  go_enter Tryf.func22, Tryf.ntmps22
  go_wp2_with fail
  refine HC.out.mono ?_
  rintro e w1 ⟨S, lv, tv, t, fbs, yvs, rfl, hB, hb1⟩
  have HP := Lib.hid (setFileOf_any _ S lv tv fs t fbs yvs p w1 hB HV.out)
  have hS := hB.hS
  have hSS := hB.set.set
  obtain ⟨la, lc, rfl⟩ := owns_form hB.own
  obtain ⟨ta, tc, rfl⟩ := owns_form hB.told
  have OWN := Lib.hid hB.own
  have ND := Lib.hid hB.nd
  have FBL := Lib.hid hB.fbl
  have FILES : Hid (∀ x ∈ fbs, ∃ c, w1.heap[x]? = some (.cells c 87 (0, 0))) := fun x hx => by
    obtain ⟨k, hk⟩ := List.getElem?_of_mem hx
    obtain ⟨hk1, _⟩ := List.getElem?_eq_some_iff.1 hk
    obtain ⟨fb', yv, lv', h1, h2, h3, h4, h5⟩ := hB.each k _ (List.getElem?_eq_getElem (by rw [madeL_length, ← hB.fbl]; exact hk1))
    rw [hk] at h1
    obtain rfl := Option.some.inj h1
    exact ⟨_, h4.file⟩
  clear HC hB
  go_wp2_with fail
  refine HP.out.mono ?_
  rintro e w2 ⟨r, rfl, res, K2⟩
  have hb3 : Below w.heap.size w w2 := K2.below_of hb1 hb1.size (fun k h => by omega)
  have O2 := owns_chg OWN.out K2 (fun g hg => owns_ne OWN.out hSS (by decide) g hg)
  have HO2 := Lib.hid O2
  have FILES2 : Hid (∀ x ∈ fbs, ∃ c, w2.heap[x]? = some (.cells c 87 (0, 0))) := fun x hx => by
    obtain ⟨c, hc⟩ := FILES.out x hx
    exact ⟨c, K2.at hc (ne_of_type hc hSS (by decide))⟩
  clear HP hb1 K2 hSS O2 OWN
  rcases res with ⟨rfl, hno⟩ | ⟨k, m, fb, rfl, h1, h2, h3, h4⟩
  · rw [ptr_none]
    have FIN : Hid (FileIdx (madeL fs) p (-1)) := .inl ⟨rfl, hno⟩
    clear hno
    go_wp2_with fail
    go_loopg [22] fs.length (fun k v wr => ∃ i : Nat, v = .int .i64 i ∧ i ≤ fs.length ∧ k = fs.length - i ∧ wr = w2)
    case atStart => exact ⟨0, rfl, by omega, by omega, rfl⟩
    case round =>
      obtain ⟨i, rfl, hi, rfl, rfl⟩ := hrel
      by_cases hlt : i < fs.length
      · obtain ⟨x, hx⟩ : ∃ x, fbs[i]? = some x := ⟨_, List.getElem?_eq_getElem (by rw [FBL.out]; exact hlt)⟩
        rcases HO2.out.2 with ⟨_, h0⟩ | ⟨g, cap, cur, hv, _⟩
        · omega
        simp at hv
        obtain ⟨rfl, rfl⟩ := hv
        have hc := HO2.out.cells (g := g) rfl i (fbV x) (by rw [List.getElem?_map, hx]; rfl)
        rw [Addr.add_lit, Nat.zero_add] at hc
        unfold fbV at hc
        have q1 : (i : Int) < (fs.length : Int) := by omega
        clear hx
        go_wp2
        go_roundg (fs.length - (i + 1))
        case measure => omega
        case rel => exact ⟨i + 1, by go_num, by omega, rfl, rfl⟩
      · have hi2 : i = fs.length := by omega
        subst hi2
        have hns : ¬ ((fs.length : Int) < (fs.length : Int)) := by omega
        clear hlt
        go_wp2
        go_ret
        exact ⟨_, rfl, FIN.out, hb3⟩
  · rw [ptr_some]
    have FIN : Hid (FileIdx (madeL fs) p k) := .inr ⟨k, m, rfl, h2, h3, h4⟩
    have hkl : k < fs.length := by have := (List.getElem?_eq_some_iff.1 h1).1; rwa [FBL.out] at this
    have HK := Lib.hid h1
    clear h1 h2 h3 h4
    go_wp2_with fail
    go_loopg [22] fs.length (fun kk v wr => ∃ i : Nat, v = .int .i64 i ∧ i ≤ k ∧ kk = fs.length - i ∧ wr = w2)
    case atStart => exact ⟨0, rfl, by omega, by omega, rfl⟩
    case round =>
      obtain ⟨i, rfl, hi, rfl, rfl⟩ := hrel
      have hlt : i < fs.length := by omega
      obtain ⟨x, hx⟩ : ∃ x, fbs[i]? = some x := ⟨_, List.getElem?_eq_getElem (by rw [FBL.out]; exact hlt)⟩
      rcases HO2.out.2 with ⟨_, h0⟩ | ⟨g, cap, cur, hv, _⟩
      · omega
      simp at hv
      obtain ⟨rfl, rfl⟩ := hv
      have hc := HO2.out.cells (g := g) rfl i (fbV x) (by rw [List.getElem?_map, hx]; rfl)
      rw [Addr.add_lit, Nat.zero_add] at hc
      unfold fbV at hc
      have q1 : (i : Int) < (fs.length : Int) := by omega
      by_cases hik : i = k
      · subst hik
        have hxf : x = fb := by have := HK.out; rw [hx] at this; exact Option.some.inj this
        subst hxf
        obtain ⟨i0, hi0, _⟩ := info_size Tryf.infoFile
        have eqs : (binOp .eql 57 (.pointer (some ⟨x, 0, none⟩)) (.pointer (some ⟨x, 0, none⟩))).run Tryf.prog wr = .ok (.bool true) wr := run_eql_ptr_same wr _ Tryf.underlying57 hi0
        clear hx hi0
        go_wp2
        go_ret
        exact ⟨_, rfl, FIN.out, hb3⟩
      · have hxf : ¬ fb = x := fun e => hik (nodup_at ND.out hx (by rw [← e]; exact HK.out))
        have hxf' : ¬ x = fb := fun e => hxf e.symm
        have hik' : i < k := by omega
        obtain ⟨i0, hi0, hs0⟩ := info_size Tryf.infoFile
        obtain ⟨ca, hca⟩ := FILES2.out fb (List.mem_of_getElem? HK.out)
        obtain ⟨cb, hcb⟩ := FILES2.out x (List.mem_of_getElem? hx)
        have eqs : (binOp .eql 57 (.pointer (some ⟨fb, 0, none⟩)) (.pointer (some ⟨x, 0, none⟩))).run Tryf.prog wr = .ok (.bool false) wr := run_eql_ptr_other wr Tryf.underlying57 hi0 (by omega) (by first | (simp; done) | (simp; exact hxf)) hca hcb
        clear hx hik hi0 hs0 hca hcb
        go_wp2
        go_roundg (fs.length - (i + 1))
        case measure => omega
        case rel => exact ⟨i + 1, by go_num, by omega, rfl, rfl⟩
end Go.Proofs.YtigjdicghjofoaaFmt
