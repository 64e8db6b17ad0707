/- Arguments opened: slices of files. -/
import Derived.Test.YtmijedghihebjaaGreatFmtOpen
import Derived.Test.YtmijedghihebjaaGreatFmtModel
import Derived.Deep.Slices
import Derived.Deep.Fields
import Derived.ChangeSame
namespace Go.Proofs.YtmijedghihebjaaGreatFmt
open Go.ChangeShapes Go.WideShapes Go.ChangeAt Go.RowKit Go.Deep

theorem exists_list {α : Type} {n : Nat} {P : Nat → α → Prop} (h : ∀ i, i < n → ∃ x, P i x) : ∃ l : List α, l.length = n ∧ ∀ i x, l[i]? = some x → P i x := by
  induction n with
  | zero => exact ⟨[], rfl, fun i x h => by simp at h⟩
  | succ n ih =>
    obtain ⟨l, hl, hp⟩ := ih (fun i hi => h i (by omega))
    obtain ⟨x, hx⟩ := h n (by omega)
    refine ⟨l ++ [x], by simp [hl], fun i y hy => ?_⟩
    rcases Nat.lt_or_ge i l.length with hk | hk
    · rw [List.getElem?_append_left hk] at hy; exact hp i y hy
    · rw [List.getElem?_append_right hk] at hy
      obtain ⟨h0, h1⟩ := List.getElem?_eq_some_iff.1 hy
      simp at h0 h1
      have : i = n := by omega
      subst this
      rw [← h1]; exact hx
theorem flat_inv {size : Nat} {rs : List (List Value)} (h : AllLen size rs) {j : Nat} {u : Value} (hj : rs.flatten[j]? = some u) : ∃ k r i, rs[k]? = some r ∧ r[i]? = some u ∧ j = k * size + i := by
  induction rs generalizing j with
  | nil => simp at hj
  | cons r0 rs ih =>
    have h1 := h r0 (by simp)
    rw [List.flatten_cons] at hj
    rcases Nat.lt_or_ge j r0.length with hk | hk
    · rw [List.getElem?_append_left hk] at hj
      exact ⟨0, r0, j, rfl, hj, by omega⟩
    · rw [List.getElem?_append_right hk] at hj
      obtain ⟨k, r, i, a, b, c⟩ := ih (fun x hx => h x (by simp [hx])) hj
      exact ⟨k + 1, r, i, a, b, by rw [Nat.add_mul]; omega⟩

section
variable {H : Type} {enc : TypeId × Value → H} {P : Program} {w : World} {base : Nat} {spare : Nat → Bool} {held : Bool}
/-- A slice of structs of one-cell fields, opened (after the kit's page on structs). -/
theorem open_slice_fields {t e : TypeId} {fs : Array Field} {fuel : Nat} {cs : List Value} {x : DataW H × List MemPlace} (ht : P.underlying t = some (.slice e)) (he : P.underlying e = some (.struct fs))
    (hone : oneCellFields P fs = true) (hC : P.cellsOf e = fs.size) (h : DataW.trod enc P w base spare held fuel t cs = some x) :
    (cs = [.slice none 0 0] ∧ x = (.nil, [])) ∨
    ∃ (a : Addr) (len cap m : Nat) (D : Nat → DataW H) (Pl : Nat → List MemPlace), cs = [.slice (some a) len cap] ∧ base ≤ a.block ∧ len ≤ cap ∧ cap ≤ maxLen ∧ m = (if spare a.block then cap else len) ∧
      x = (.slice ((List.range len).map D) ((List.range (m - len)).map fun j => D (len + j)), MemPlace.row a (m * fs.size) ++ (List.range m).flatMap Pl) ∧
      ∀ i, i < m → ∃ (ys : List (DataW H × List MemPlace)) (n : Nat), D i = .agg (ys.map (·.1)) ∧ Pl i = ys.flatMap (·.2) ∧ ys.length = fs.size ∧
        ∀ (j : Nat) (f : Field), fs[j]? = some f → ∃ (v : Value) (y : DataW H × List MemPlace), w.cell? (a.add (i * fs.size + j)) = some v ∧ ys[j]? = some y ∧ DataW.trod enc P w base spare held n f.type [v] = some y := by
  rcases open_slice ht h with h0 | ⟨a, len, cap, m, n, D, Pl, hcs, hb, hl, hm, hmm, hx, hi⟩
  · exact .inl h0
  · refine .inr ⟨a, len, cap, m, D, Pl, hcs, hb, hl, hm, hmm, by rw [hC] at hx; exact hx, fun i him => ?_⟩
    obtain ⟨cs', hc, ht'⟩ := hi i him
    rw [hC] at hc
    obtain ⟨ys, n', hn', hy, hlen, hyl, hf⟩ := DataW.trod_struct he ht'
    obtain ⟨_, hcl, hat⟩ := World.cells?_some hc
    simp only [Prod.mk.injEq] at hy
    refine ⟨ys, n', hy.1, hy.2, hyl, fun j f hj => ?_⟩
    obtain ⟨ho, hk⟩ := hone_of hone j f hj
    have hjl : j < fs.size := (Array.getElem?_eq_some_iff.1 hj).1
    have hcell := hat j hjl
    have hv : cs'[j]? = some (cs'[j]'(by omega)) := List.getElem?_eq_getElem (by omega)
    have h1 := hf j f hj
    rw [ho, hk] at h1
    have hone' : (cs'.drop j).take 1 = [cs'[j]'(by omega)] := by
      rw [List.drop_eq_getElem_cons (by omega)]
      rfl
    rw [hone'] at h1
    have hys : ys[j]? = some (ys[j]'(by omega)) := List.getElem?_eq_getElem (by omega)
    refine ⟨_, _, ?_, hys, h1.trans hys⟩
    rw [← Go.Deep.add_add, hcell, hv]
end

/-- Rows at an address make a slice of rows. -/
theorem rows_of {W : World} {size : Nat} {a : Addr} {len cap : Nat} {rs : List (List Value)} (hs : 0 < size) (hl : rs.length = len) (hal : AllLen size rs) (h : ∀ k r, rs[k]? = some r → ∀ j u, r[j]? = some u → W.cell? (a.add (k * size + j)) = some u) : RowsL W size (.slice (some a) len cap) rs := by
  refine ⟨hal, flat_len hal, some a, cap, by rw [hl], ?_⟩
  rcases rs with _ | ⟨r0, rs⟩
  · exact .inl rfl
  · obtain ⟨b, off, spot⟩ := a
    have h0 : r0.length = size := hal r0 (by simp)
    obtain ⟨u0, hu0⟩ : ∃ u, r0[0]? = some u := ⟨_, List.getElem?_eq_getElem (by omega)⟩
    have hspot : spot = none := by simpa [Addr.add] using World.cell?_spot (h 0 r0 rfl 0 u0 hu0)
    subst hspot
    refine .inr ⟨b, off, rfl, fun j u hj => ?_⟩
    obtain ⟨k, r, i, h1, h2, rfl⟩ := flat_inv hal hj
    have := h k r h1 i u h2
    rwa [Go.WideShapes.add_plain] at this

theorem cellsEdit : Tryz.prog.cellsOf 67 = 3 := by kernel_rfl
theorem cellsFile : Tryz.prog.cellsOf 64 = 4 := by kernel_rfl
theorem bytesEdit : Tryz.prog.bytesOf 67 = 40 := by kernel_rfl
theorem bytesFile : Tryz.prog.bytesOf 64 = 56 := by kernel_rfl
theorem bytesInt' : Tryz.prog.bytesOf 3 = 8 := by kernel_rfl
theorem oneEdit : ∃ f0 f1 f2, Tryz.prog.underlying 67 = some (.struct #[f0, f1, f2]) ∧ f0.type = 3 ∧ f1.type = 23 ∧ f2.type = 3 ∧ oneCellFields Tryz.prog #[f0, f1, f2] = true := ⟨_, _, _, Tryz.underlying67, rfl, rfl, rfl, by kernel_rfl⟩
theorem oneFile : ∃ f0 f1 f2 f3, Tryz.prog.underlying 64 = some (.struct #[f0, f1, f2, f3]) ∧ f0.type = 9 ∧ f1.type = 3 ∧ f2.type = 3 ∧ f3.type = 62 ∧ oneCellFields Tryz.prog #[f0, f1, f2, f3] = true := ⟨_, _, _, _, Tryz.underlying64, rfl, rfl, rfl, rfl, by kernel_rfl⟩

theorem weights_all {H : Type} {P : Program} {e : TypeId} {ds : List (DataW H)} {d : DataW H} (hd : d ∈ ds) : ∀ n ∈ d.weights P e, n ∈ DataW.weightsAll P e ds := by
  intro n hn
  induction ds with
  | nil => simp at hd
  | cons x xs ih =>
    simp only [DataW.weightsAll, List.mem_append]
    rcases List.mem_cons.1 hd with rfl | h
    · exact .inl hn
    · exact .inr (ih h)
theorem weights_elem {H : Type} {P : Program} {t e : TypeId} {elems spare : List (DataW H)} (hu : P.underlying t = some (.slice e)) (hw : ∀ n ∈ (DataW.slice elems spare).weights P t, n ≤ 140737488351232) {d : DataW H} (hd : d ∈ elems) : ∀ n ∈ d.weights P e, n ≤ 140737488351232 := by
  intro n hn
  refine hw n ?_
  simp only [DataW.weights, hu, List.mem_cons, List.mem_append]
  exact .inr (.inl (weights_all hd n hn))
theorem weights_len {H : Type} {P : Program} {t e : TypeId} {elems spare : List (DataW H)} (hu : P.underlying t = some (.slice e)) (hw : ∀ n ∈ (DataW.slice elems spare).weights P t, n ≤ 140737488351232) : elems.length * P.bytesOf e ≤ 140737488351232 := by
  have := hw ((elems.length + spare.length) * P.bytesOf e) (by simp [DataW.weights, hu])
  have h2 := Nat.mul_le_mul_right (P.bytesOf e) (Nat.le_add_right elems.length spare.length)
  omega
theorem weights_part {H : Type} {P : Program} {t : TypeId} {fs : Array Field} {parts : List (DataW H)} (hu : P.underlying t = some (.struct fs)) (hw : ∀ n ∈ (DataW.agg parts).weights P t, n ≤ 140737488351232) {j : Nat} {f : Field} {d : DataW H} (hf : fs[j]? = some f) (hd : parts[j]? = some d) : ∀ n ∈ d.weights P f.type, n ≤ 140737488351232 := by
  intro n hn
  refine hw n ?_
  simp only [DataW.weights, hu]
  refine DataW.weights_mem_each (j := j) ?_ hd n hn
  rw [List.getElem?_map, Array.getElem?_toList, hf]
  rfl

set_option maxRecDepth 100000 in
theorem open_edits {H : Type} {enc : TypeId × Value → H} {W : World} {base : Nat} {sp : Nat → Bool} {held : Bool} {fuel : Nat} {cs : List Value} {x : DataW H × List MemPlace} (hsp : ∀ b, sp b = true) (h : DataW.trod enc Tryz.prog W base sp held fuel 62 cs = some x)
    (hw : ∀ n ∈ x.1.weights Tryz.prog 62, n ≤ 140737488351232) : ∃ v es, cs = [v] ∧ Edits W v es ∧ (es.length * 40 ≤ 140737488351232) := by
  obtain ⟨f0, f1, f2, hu, t0, t1, t2, hone⟩ := oneEdit
  rcases open_slice_fields Tryz.underlying62 hu hone cellsEdit h with ⟨rfl, rfl⟩ | ⟨a, len, cap, m, D, Pl, rfl, _, hl, hm, hmm, rfl, hi⟩
  · exact ⟨_, [], rfl, ⟨by simp, [], ⟨fun r hr => by simp at hr, by simp, none, 0, rfl, .inl rfl⟩, rfl, fun k e hk => by simp at hk⟩, by simp⟩
  · rw [hsp, if_pos rfl] at hmm
    subst hmm
    have hlen := weights_len Tryz.underlying62 hw
    rw [bytesEdit, List.length_map, List.length_range] at hlen
    have hex : ∀ i, i < len → ∃ y : List Value × GEdit, y.1.length = 3 ∧ EditRow W y.2 y.1 ∧ ∀ j u, y.1[j]? = some u → W.cell? (a.add (i * 3 + j)) = some u := by
      intro i hlt
      obtain ⟨ys, n, hD, _, hyl, hf⟩ := hi i (by omega)
      obtain ⟨v0, y0, c0, g0, k0⟩ := hf 0 f0 rfl
      obtain ⟨v1, y1, c1, g1, k1⟩ := hf 1 f1 rfl
      obtain ⟨v2, y2, c2, g2, k2⟩ := hf 2 f2 rfl
      rw [t0] at k0; rw [t1] at k1; rw [t2] at k2
      obtain ⟨kind, e0, _, _⟩ := DataW.trod_int Tryz.underlying3 k0
      obtain ⟨lv, ls, e1, hI, _, hd⟩ := open_cells_ints hsp k1
      obtain ⟨line, e2, _, _⟩ := DataW.trod_int Tryz.underlying3 k2
      simp at e0 e1 e2
      subst e0 e1 e2
      have hwi := weights_elem Tryz.underlying62 hw (d := D i) (by simp only [List.mem_map, List.mem_range]; exact ⟨i, hlt, rfl⟩)
      rw [hD] at hwi
      have hw1 := weights_part hu hwi (j := 1) (f := f1) (d := y1.1) rfl (by rw [List.getElem?_map, g1]; rfl)
      rw [t1] at hw1
      have hll : ls.length * 8 ≤ 140737488355328 := by
        rcases hd with ⟨_, rfl⟩ | ⟨rest, hd⟩
        · simp
        · rw [hd] at hw1
          have := weights_len Tryz.underlying23 hw1
          rw [bytesInt', lits_length] at this
          omega
      refine ⟨([.int .i64 kind, v1, .int .i64 line], ⟨kind, ls, line⟩), rfl, ⟨_, rfl, hI, hll⟩, fun j u hj => ?_⟩
      match j, hj with
      | 0, hj => simp at hj; subst hj; exact c0
      | 1, hj => simp at hj; subst hj; exact c1
      | 2, hj => simp at hj; subst hj; exact c2
    obtain ⟨l, hll, hp⟩ := exists_list hex
    refine ⟨_, l.map (·.2), rfl, ⟨by simp [hll]; omega, l.map (·.1), rows_of (by omega) (by simp [hll]) ?_ ?_, by simp, ?_⟩, by simp [hll]; omega⟩
    · intro r hr
      obtain ⟨y, hy, rfl⟩ := List.mem_map.1 hr
      obtain ⟨k, hk⟩ := List.getElem?_of_mem hy
      exact (hp k y hk).1
    · intro k r hr j u hj
      rw [List.getElem?_map] at hr
      obtain ⟨y, hy, rfl⟩ := Option.map_eq_some_iff.1 hr
      exact (hp k y hy).2.2 j u hj
    · intro k e hk
      rw [List.getElem?_map] at hk
      obtain ⟨y, hy, rfl⟩ := Option.map_eq_some_iff.1 hk
      exact ⟨y.1, by rw [List.getElem?_map, hy]; rfl, (hp k y hy).2.1⟩

/-- Names that came in are no longer than what can be read. -/
def NamesOk (fs : List GFile) : Prop := ∀ f ∈ fs, f.name.size ≤ 140737488351232
/-- Edits are few enough that one more may be laid. -/
def RoomOk (fs : List GFile) : Prop := ∀ f ∈ fs, f.edits.length * 40 ≤ 140737488351232

set_option maxRecDepth 100000 in
theorem open_files {H : Type} {enc : TypeId × Value → H} {W : World} {base : Nat} {sp : Nat → Bool} {held : Bool} {fuel : Nat} {cs : List Value} {x : DataW H × List MemPlace} (hsp : ∀ b, sp b = true) (h : DataW.trod enc Tryz.prog W base sp held fuel 22 cs = some x)
    (hw : ∀ n ∈ x.1.weights Tryz.prog 22, n ≤ 140737488351232) : ∃ v fs, cs = [v] ∧ Files W v fs ∧ NamesOk fs ∧ RoomOk fs := by
  obtain ⟨f0, f1, f2, f3, hu, t0, t1, t2, t3, hone⟩ := oneFile
  rcases open_slice_fields Tryz.underlying22 hu hone cellsFile h with ⟨rfl, rfl⟩ | ⟨a, len, cap, m, D, Pl, rfl, _, hl, hm, hmm, rfl, hi⟩
  · exact ⟨_, [], rfl, ⟨by simp, [], ⟨fun r hr => by simp at hr, by simp, none, 0, rfl, .inl rfl⟩, rfl, fun k e hk => by simp at hk⟩, fun f hf => by simp at hf, fun f hf => by simp at hf⟩
  · rw [hsp, if_pos rfl] at hmm
    subst hmm
    have hlen := weights_len Tryz.underlying22 hw
    rw [bytesFile, List.length_map, List.length_range] at hlen
    have hex : ∀ i, i < len → ∃ y : List Value × GFile, y.1.length = 4 ∧ FileRow W y.2 y.1 ∧ (y.2.name.size ≤ 140737488351232 ∧ y.2.edits.length * 40 ≤ 140737488351232) ∧ ∀ j u, y.1[j]? = some u → W.cell? (a.add (i * 4 + j)) = some u := by
      intro i hlt
      obtain ⟨ys, n, hD, _, hyl, hf⟩ := hi i (by omega)
      obtain ⟨v0, y0, c0, g0, k0⟩ := hf 0 f0 rfl
      obtain ⟨v1, y1, c1, g1, k1⟩ := hf 1 f1 rfl
      obtain ⟨v2, y2, c2, g2, k2⟩ := hf 2 f2 rfl
      obtain ⟨v3, y3, c3, g3, k3⟩ := hf 3 f3 rfl
      rw [t0] at k0; rw [t1] at k1; rw [t2] at k2; rw [t3] at k3
      have hwi := weights_elem Tryz.underlying22 hw (d := D i) (by simp only [List.mem_map, List.mem_range]; exact ⟨i, hlt, rfl⟩)
      rw [hD] at hwi
      have hw3 := weights_part hu hwi (j := 3) (f := f3) (d := y3.1) rfl (by rw [List.getElem?_map, g3]; rfl)
      have hw0 := weights_part hu hwi (j := 0) (f := f0) (d := y0.1) rfl (by rw [List.getElem?_map, g0]; rfl)
      rw [t3] at hw3
      obtain ⟨name, e0, hy0, _⟩ := DataW.trod_string Tryz.underlying9 k0
      obtain ⟨base, e1, _, _⟩ := DataW.trod_int Tryz.underlying3 k1
      obtain ⟨size, e2, _, _⟩ := DataW.trod_int Tryz.underlying3 k2
      obtain ⟨ev, es, e3, hE, hr⟩ := open_edits hsp k3 hw3
      simp at e0 e1 e2 e3
      subst e0 e1 e2 e3
      have hnm : name.size ≤ 140737488351232 := by
        have := hw0 name.data.toList.length (by rw [hy0]; simp [DataW.weights])
        simpa using this
      refine ⟨([.string name, .int .i64 base, .int .i64 size, v3], ⟨name, base, size, es⟩), rfl, ⟨_, rfl, hE⟩, ⟨hnm, hr⟩, fun j u hj => ?_⟩
      match j, hj with
      | 0, hj => simp at hj; subst hj; exact c0
      | 1, hj => simp at hj; subst hj; exact c1
      | 2, hj => simp at hj; subst hj; exact c2
      | 3, hj => simp at hj; subst hj; exact c3
    obtain ⟨l, hll, hp⟩ := exists_list hex
    refine ⟨_, l.map (·.2), rfl, ⟨by simp [hll]; omega, l.map (·.1), rows_of (by omega) (by simp [hll]) ?_ ?_, by simp, ?_⟩, ?_, ?_⟩
    · intro r hr
      obtain ⟨y, hy, rfl⟩ := List.mem_map.1 hr
      obtain ⟨k, hk⟩ := List.getElem?_of_mem hy
      exact (hp k y hk).1
    · intro k r hr j u hj
      rw [List.getElem?_map] at hr
      obtain ⟨y, hy, rfl⟩ := Option.map_eq_some_iff.1 hr
      exact (hp k y hy).2.2.2 j u hj
    · intro k e hk
      rw [List.getElem?_map] at hk
      obtain ⟨y, hy, rfl⟩ := Option.map_eq_some_iff.1 hk
      exact ⟨y.1, by rw [List.getElem?_map, hy]; rfl, (hp k y hy).2.1⟩
    · intro f hf
      obtain ⟨y, hy, rfl⟩ := List.mem_map.1 hf
      obtain ⟨k, hk⟩ := List.getElem?_of_mem hy
      exact (hp k y hk).2.2.1.1
    · intro f hf
      obtain ⟨y, hy, rfl⟩ := List.mem_map.1 hf
      obtain ⟨k, hk⟩ := List.getElem?_of_mem hy
      exact (hp k y hk).2.2.1.2

set_option maxRecDepth 100000 in
theorem open_arg_files {H : Type} {enc : TypeId × Value → H} {W : World} {base : Nat} {v : Value} {d : DataW H} {ps : List MemPlace} (hv : Value.okWide Tryz.prog W .any base 22 v) (h : DataW.Trod enc Tryz.prog W 0 (fun _ => true) true 22 v d ps)
    (hw : ∀ n ∈ d.weights Tryz.prog 22, n ≤ 140737488351232) : ∃ fs, Files W v fs ∧ NamesOk fs ∧ RoomOk fs := by
  obtain ⟨a0, len, cap, rfl⟩ := okWide_slice Tryz.underlying22 hv
  obtain ⟨fuel, hf⟩ := h
  obtain ⟨v, fs, hcs, hi, hn, hr⟩ := open_files (fun _ => rfl) hf hw
  simp [Value.cells] at hcs
  subst hcs
  exact ⟨fs, hi, hn, hr⟩

theorem weights_arg {H : Type} {ts : List TypeId} {ds : List (DataW H)} (hsz : (DataW.weightsEach Tryz.checked.prog ts ds).all (· ≤ reachBytes) = true) {j : Nat} {t : TypeId} {d : DataW H} (ht : ts[j]? = some t) (hd : ds[j]? = some d) : ∀ n ∈ d.weights Tryz.prog t, n ≤ 140737488351232 := by
  intro n hn
  have := List.all_eq_true.1 hsz n (DataW.weights_mem_each ht hd n hn)
  have hr : reachBytes ≤ 140737488351232 := by decide
  simp at this
  omega
end Go.Proofs.YtmijedghihebjaaGreatFmt
