/- searchInts, unpack, position, Position, Line, Offset, Pos. -/
import Derived.Test.YtmijedghihebjaaGreatFmtFile
namespace Go.Proofs.YtmijedghihebjaaGreatFmt
open Go.RowKit Go.MuLone Go.RwLone

/-- The cells of an owned slice of integers. -/
theorem owns_cell {w : World} {B : Nat} {e : TypeId} {g n cap : Nat} {ls : List Int} (h : w.ownsRow B e 1 (.slice (some ⟨g, 0, none⟩) n cap) n (ls.map (Value.int .i64))) :
    ∀ k, k < ls.length → w.cell? ⟨g, k, none⟩ = some (.int .i64 (ls.getD k 0)) := by
  intro k hk
  have := h.cells (g := g) rfl k (.int .i64 (ls.getD k 0)) (by rw [List.getElem?_map, List.getElem?_eq_getElem hk]; simp [List.getD_eq_getElem?_getD, hk])
  unfold Addr.add at this
  split at this
  · rename_i h0; subst h0; exact this
  · simpa using this

set_option maxHeartbeats 1000000 in
theorem searchInts_some (g n cap : Nat) (ls : List Int) (x : Int) (w : World) (hn : n = ls.length) (hcap : n ≤ 140737488355328) (hc : ∀ k, k < ls.length → w.cell? ⟨g, k, none⟩ = some (.int .i64 (ls.getD k 0))) (hi : Inc ls) :
    Calls Tryz.prog 63 #[.slice (some ⟨g, 0, none⟩) n cap, .int .i64 x] w fun e w' => e = .returned (.int .i64 ((cnt ls x : Int) - 1)) ∧ w' = w := by
  subst hn
  have hcl := cnt_le ls x
  have HC := Lib.hid hc
  have HI := Lib.hid (cnt_iff hi x)
  clear hc hi
  obtain ⟨c, hc⟩ : ∃ c, c = cnt ls x := ⟨_, rfl⟩
  rw [← hc] at hcl HI ⊢
  clear hc
  go_enter Tryz.func63, Tryz.ntmps63
  go_wp2
  go_loopg [5, 6] ls.length (fun k vi vj wr => ∃ i j : Nat, vi = .int .i64 i ∧ vj = .int .i64 j ∧ i ≤ c ∧ c ≤ j ∧ j ≤ ls.length ∧ k = j - i ∧ wr = w)
  case atStart => exact ⟨0, ls.length, rfl, rfl, by omega, by omega, by omega, by omega, rfl⟩
  case round =>
    obtain ⟨i, j, rfl, rfl, h1, h2, h3, rfl, rfl⟩ := hrel
    by_cases hlt : i < j
    · have cell := HC.out ((i + j) / 2) (by omega)
      have iff := HI.out ((i + j) / 2) (by omega)
      have b1 : (((i : Int) + j) / 2).toNat = (i + j) / 2 := by omega
      obtain ⟨y, hy⟩ : ∃ y, y = ls.getD ((i + j) / 2) 0 := ⟨_, rfl⟩
      rw [← hy] at cell iff
      clear hy
      by_cases hle : y ≤ x
      · have hge := iff.1 hle
        clear iff
        go_wp2
        go_roundg (j - ((i + j) / 2 + 1))
        case measure => omega
        case rel => exact ⟨(i + j) / 2 + 1, j, by go_num, rfl, by omega, by omega, by omega, rfl, rfl⟩
      · have hge : c ≤ (i + j) / 2 := by
          rcases Nat.lt_or_ge ((i + j) / 2) c with h | h
          · exact absurd (iff.2 h) hle
          · exact h
        have hle' : x < y := by omega
        clear iff hle
        go_wp2
        go_roundg ((i + j) / 2 - i)
        case measure => omega
        case rel => exact ⟨i, (i + j) / 2, rfl, by go_num, by omega, by omega, by omega, rfl, rfl⟩
    · have : c = i := by omega
      subst this
      have hij : j ≤ c := by omega
      clear hlt
      go_wp2
      go_ret
      exact ⟨rfl, rfl⟩

theorem searchInts_none (x : Int) (w : World) :
    Calls Tryz.prog 63 #[.slice none 0 0, .int .i64 x] w fun e w' => e = .returned (.int .i64 (-1)) ∧ w' = w := by
  go_enter Tryz.func63, Tryz.ntmps63
  go_wp2
  go_loopg [5, 6] 0 (fun _ vi vj wr => vi = .int .i64 0 ∧ vj = .int .i64 0 ∧ wr = w)
  case atStart => exact ⟨rfl, rfl, rfl⟩
  case round =>
    obtain ⟨rfl, rfl, rfl⟩ := hrel
    go_wp2
    go_ret
    exact ⟨rfl, rfl⟩

theorem searchInts_any (B : Nat) (v : Value) (ls : List Int) (x : Int) (w : World) (hcap : ls.length ≤ 140737488355328) (h : w.ownsRow B 3 1 v ls.length (ls.map (Value.int .i64))) (hi : Inc ls) :
    Calls Tryz.prog 63 #[v, .int .i64 x] w fun e w' => e = .returned (.int .i64 ((cnt ls x : Int) - 1)) ∧ w' = w := by
  rcases h.2 with ⟨rfl, h0⟩ | ⟨g, cap, cur, rfl, _⟩
  · refine (searchInts_none x w).mono fun e w' ⟨he, hw⟩ => ⟨?_, hw⟩
    rw [List.length_eq_zero_iff.1 h0]
    exact he
  · exact searchInts_some g _ cap ls x w rfl hcap (owns_cell h) hi

/-- Line and column of an offset; 0, 0 if no line begins up to it. -/
def lineCol (ls : List Int) (off : Int) : Int × Int := if cnt ls off = 0 then (0, 0) else ((cnt ls off : Int), off - ls.getD (cnt ls off - 1) 0 + 1)

theorem getD_mem {ls : List Int} {k : Nat} (h : k < ls.length) : ls.getD k 0 ∈ ls := by
  rw [List.getD_eq_getElem?_getD, List.getElem?_eq_getElem h]; simp

/-- A file at rest, with its lines. -/
structure FileSt (w : World) (B fb : Nat) (name : ByteArray) (base size : Int) (lv : Value) (ls : List Int) : Prop where
  file : fileOK w fb name base size lv
  own : w.ownsRow B 3 1 lv ls.length (ls.map (Value.int .i64))
  inc : Inc ls
  nneg : ∀ y ∈ ls, 0 ≤ y
  len : ls.length ≤ 140737488355328

set_option maxRecDepth 100000 in
set_option maxHeartbeats 1000000 in
theorem unpack_any (B fb : Nat) (name : ByteArray) (base size : Int) (lv : Value) (ls : List Int) (off : Int) (w : World) (H : FileSt w B fb name base size lv ls) (g1 : 0 ≤ off) (g2 : off ≤ 1099511627776) :
    Calls Tryz.prog 39 #[.pointer (some ⟨fb, 0, none⟩), .int .i64 off, .bool true] w fun e w' => e = .returned (.tuple #[.string name, .int .i64 (lineCol ls off).1, .int .i64 (lineCol ls off).2]) ∧ ∃ n, w' = w.drewN n := by
  have c3 := H.file.c3
  have f3 := H.file.fz 3
  have c3' : (w.setCell ⟨fb, 3, none⟩ (.int .i32 1)).cell? ⟨fb, 3, none⟩ = some (.int .i32 1) := World.cell?_setCell_same _ _ _ c3
  have f3' : (w.setCell ⟨fb, 3, none⟩ (.int .i32 1)).frozen? ⟨fb, 3, none⟩ = false := by simp [f3]
  have c0 : (w.setCell ⟨fb, 3, none⟩ (.int .i32 1)).cell? ⟨fb, 0, none⟩ = some (.string name) := (World.cell?_setCell_other _ _ _ _ (by simp)).trans H.file.c0
  have c5 : (w.setCell ⟨fb, 3, none⟩ (.int .i32 1)).cell? ⟨fb, 5, none⟩ = some lv := (World.cell?_setCell_other _ _ _ _ (by simp)).trans H.file.c5
  have c6 : (w.setCell ⟨fb, 3, none⟩ (.int .i32 1)).cell? ⟨fb, 6, none⟩ = some (.slice none 0 0) := (World.cell?_setCell_other _ _ _ _ (by simp)).trans H.file.c6
  have hback := Lib.hid (setCell_back (.int .i32 1) c3)
  have hown : (w.setCell ⟨fb, 3, none⟩ (.int .i32 1)).ownsRow B 3 1 lv ls.length (ls.map (Value.int .i64)) := by
    refine ⟨H.own.1, ?_⟩
    rcases H.own.2 with h | ⟨g, cap, cur, hv, hg, hh, r⟩
    · exact .inl h
    · refine .inr ⟨g, cap, cur, hv, hg, ?_, r⟩
      rw [heap_set_ne 3 _ (ne_of_type hh H.file (by decide))]
      exact hh
  have hcl := cnt_le ls off
  have hlen := H.len
  have hcnt := cnt_iff H.inc off
  obtain ⟨c, hc⟩ : ∃ c, c = cnt ls off := ⟨_, rfl⟩
  have hLC : lineCol ls off = if c = 0 then (0, 0) else ((c : Int), off - ls.getD (c - 1) 0 + 1) := by rw [hc]; rfl
  have HLC := Lib.hid hLC
  have hsearch := Lib.hid (searchInts_any B lv ls off _ hlen hown H.inc)
  rw [← hc] at hsearch hcl hcnt
  clear hc hLC
  by_cases hz : c = 0
  · subst hz
    obtain ⟨a, cap, rfl⟩ := owns_form H.own
    clear hown hcnt H
    go_enter Tryz.func39, Tryz.ntmps39
    go_wp2_with fail
    refine (lock_free Tryz.muLib ⟨fb, 3, none⟩ _ c3 f3).mono ?_
    rintro e w1 ⟨rfl, rfl⟩
    go_wp2_with fail
    refine hsearch.out.mono ?_
    rintro e w1 ⟨rfl, rfl⟩
    rw [show ((0 : Nat) : Int) - 1 = -1 from rfl]
    go_wp2_with fail
    refine (unlock_held Tryz.muLib ⟨fb, 3, none⟩ _ c3' f3').mono ?_
    rintro e w1 ⟨rfl, rfl⟩
    rw [hback.out]
    go_wp2
    go_ret3
    refine ⟨?_, 0, rfl⟩
    rw [HLC.out]
    rfl
  · obtain ⟨m, rfl⟩ : ∃ m, c = m + 1 := ⟨c - 1, by omega⟩
    have hy1 := (hcnt m (by omega)).2 (by omega)
    have hy2 := H.nneg _ (getD_mem (ls := ls) (k := m) (by omega))
    rcases hown.2 with ⟨_, h0⟩ | ⟨g, cap, cur, rfl, _⟩
    · omega
    have cell := owns_cell hown m (by omega)
    have hm : m < ls.length := by omega
    have HV : Hid (lineCol ls off = ((m : Int) + 1, off - ls.getD m 0 + 1)) := by
      have := HLC.out
      rw [if_neg (by omega)] at this
      rw [show Hid (lineCol ls off = ((m : Int) + 1, off - ls.getD m 0 + 1)) = (lineCol ls off = ((m : Int) + 1, off - ls.getD m 0 + 1)) from rfl, this]
      simp
    generalize ls.getD m 0 = y at *
    clear hown hcnt H HLC hz
    have e1 : IntKind.i64.wrap ((m : Int) + 1) = (m : Int) + 1 := IntWalk.i64_in _ (by omega)
    have e2 : IntKind.i64.wrap (off - y) = off - y := IntWalk.i64_in _ (by omega)
    have e3 : IntKind.i64.wrap (off - y + 1) = off - y + 1 := IntWalk.i64_in _ (by omega)
    have b1 : (m : Int) < (ls.length : Int) := by omega
    go_enter Tryz.func39, Tryz.ntmps39
    go_wp2_with fail
    refine (lock_free Tryz.muLib ⟨fb, 3, none⟩ _ c3 f3).mono ?_
    rintro e w1 ⟨rfl, rfl⟩
    go_wp2_with fail
    refine hsearch.out.mono ?_
    rintro e w1 ⟨rfl, rfl⟩
    rw [show ((m + 1 : Nat) : Int) - 1 = (m : Int) by omega]
    go_wp2_with fail
    go_quiet (fail)
    go_wp2_with fail
    refine (unlock_held Tryz.muLib ⟨fb, 3, none⟩ _ (by exact c3') (by exact f3')).mono ?_
    rintro e w1 ⟨rfl, hw1⟩
    have hw : w1 = w.drewN nq := by rw [hw1]; exact congrArg (fun x => World.drewN x nq) hback.out
    subst hw
    clear hw1
    go_wp2
    go_ret3
    refine ⟨?_, nq, rfl⟩
    rw [HV.out]
    rfl
end Go.Proofs.YtmijedghihebjaaGreatFmt
