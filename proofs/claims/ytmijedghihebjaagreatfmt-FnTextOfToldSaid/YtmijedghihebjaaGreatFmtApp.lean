/- Slices of rows (structs); append of whatever source onto an owned slice. -/
import Derived.Test.YtmijedghihebjaaGreatFmtSetL
import Derived.Deep.DeepAppendWide
namespace Go.Proofs.YtmijedghihebjaaGreatFmt
open Go.RowKit

/-- A slice that yields cells. -/
def Cells (w : World) (size : Nat) (x : Value) (m : Nat) (news : List Value) : Prop :=
  news.length = m * size ∧ ∃ a c, x = .slice a m c ∧ (m = 0 ∨ ∃ g o, a = some ⟨g, o, none⟩ ∧ ∀ j u, news[j]? = some u → w.cell? ⟨g, o + j, none⟩ = some u)

theorem run_append_nil_src {P : Program} (w : World) (base : Nat) (t ty e : TypeId) (i : TypeInfo) (ht : P.underlying t = some (.slice e)) (hi : P.info? e = some i)
    (v : Value) (n : Nat) (xs : List Value) (hown : w.ownsRow base e i.size v n xs) (c : Nat) : (Builtin.append_ #[t, t] ty #[v, .slice none 0 c]).run P w = .ok v w := by
  rcases hown.2 with ⟨rfl, rfl⟩ | ⟨g, cap, cur, rfl, hbg, hg, hnc, hcm, hcs, htake⟩
  · simp [Builtin.append_, run_underlying ht, sizeOf, typeInfo, hi, Builtin.lenOf, Builtin.firstCells]
  · have hc := run_firstCells_none (P := P) w i.size 0 0 c
    simp [Builtin.append_, run_underlying ht, sizeOf, typeInfo, hi, Builtin.lenOf, hnc, hc, storeCells]

theorem run_append_any {P : Program} (w : World) (base : Nat) (t ty e : TypeId) (i : TypeInfo) (z : Value) (size bytes : Nat) (ht : P.underlying t = some (.slice e)) (hi : P.info? e = some i) (hz : i.zero = some z)
    (hsize : i.size = size) (hby : i.bytes = bytes) (hzs : z.cells.size = size) (hsz : 0 < size)
    (v : Value) (n : Nat) (xs : List Value) (hown : w.ownsRow base e size v n xs)
    (xv : Value) (m : Nat) (news : List Value) (hsrc : Cells w size xv m news) (h1 : ∀ u ∈ news, u.oneCell' = true)
    (h63 : n + m ≤ maxLen) (hbytes : ((n + m) + (n + m) / 4 + 192) * bytes ≤ 281474976710656) (hbase : base ≤ w.heap.size) :
    ∃ v' w', (Builtin.append_ #[t, t] ty #[v, xv]).run P w = .ok v' w' ∧ w'.ownsRow base e size v' (n + m) (xs ++ news) ∧ w.grownBy w' v.ownBlock := by
  obtain ⟨hl, a', c, rfl, hsrc⟩ := hsrc
  rcases a' with _ | ad
  · have hm : m = 0 := by
      rcases hsrc with h0 | ⟨g, o', ha, _⟩
      · exact h0
      · cases ha
    subst hm
    have hnil : news = [] := List.eq_nil_of_length_eq_zero (by simpa using hl)
    subst hnil
    subst hsize
    exact ⟨v, w, run_append_nil_src (P := P) w base t ty e i ht hi v n xs hown c, by simpa using hown, ⟨rfl, rfl, rfl, Nat.le_refl _, fun _ _ _ => rfl⟩⟩
  · obtain ⟨v', w', h2, h3, h4, _⟩ := run_append_own_wide (P := P) w base t ty e i z size bytes ht hi hz hsize hby hzs hsz v n xs hown ad m c news hl (by
      intro j u hj
      rcases hsrc with h0 | ⟨g, o', ha, hcell⟩
      · subst h0
        have : news = [] := List.eq_nil_of_length_eq_zero (by simpa using hl)
        subst this
        simp at hj
      · cases ha
        rw [Addr.add_lit]
        exact hcell j u hj) h1 h63 hbytes hbase
    exact ⟨v', w', h2, h3, h4⟩

theorem wp_append_any {P : Program} {w : World} {o : Oper} {a : Act} {K : Act → World → Prop} {Q : Exit → Act → World → Prop} (s x : Operand) (t : TypeId)
    (ho : o.op = .call { callee := .builtin .append, args := #[s, x], argTypes := #[t, t] })
    (base : Nat) (e : TypeId) (i : TypeInfo) (z : Value) (size bytes : Nat) (ht : P.underlying t = some (.slice e)) (hi : P.info? e = some i) (hz : i.zero = some z)
    (hsize : i.size = size) (hby : i.bytes = bytes) (hzs : z.cells.size = size) (hsz : 0 < size)
    (v : Value) (n : Nat) (xs : List Value) (hs : a.eval s = v) (hown : w.ownsRow base e size v n xs)
    (xv : Value) (m : Nat) (news : List Value) (hx : a.eval x = xv) (hsrc : Cells w size xv m news) (h1 : ∀ u ∈ news, u.oneCell' = true)
    (h63 : n + m ≤ maxLen) (hbytes : ((n + m) + (n + m) / 4 + 192) * bytes ≤ 281474976710656) (hbase : base ≤ w.heap.size)
    (h : ∀ v' w', w'.ownsRow base e size v' (n + m) (xs ++ news) → w.grownBy w' v.ownBlock → K (a.put o.dst v') w') : o.wp P a w K Q := by
  obtain ⟨v', w', hr, h2, h3⟩ := run_append_any (P := P) w base t o.type e i z size bytes ht hi hz hsize hby hzs hsz v n xs hown xv m news hsrc h1 h63 hbytes hbase
  unfold Oper.wp execOp
  simp only [ho, resolve, invoke, builtin, Sem.run_bind, Sem.run_pure, Result.andThen_ok, List.map_toArray, List.map_cons, List.map_nil, hs, hx, hr]
  exact h v' w' h2 h3

theorem wpList_append_any {P : Program} {w : World} {ops : Array Oper} {rest : List Oper} {o : Oper} {a : Act} {Q : Exit → Act → World → Prop} (hgd : o.guard = none) (s x : Operand) (t : TypeId)
    (ho : o.op = .call { callee := .builtin .append, args := #[s, x], argTypes := #[t, t] })
    (base : Nat) (e : TypeId) (i : TypeInfo) (z : Value) (size bytes : Nat) (ht : P.underlying t = some (.slice e)) (hi : P.info? e = some i) (hz : i.zero = some z)
    (hsize : i.size = size) (hby : i.bytes = bytes) (hzs : z.cells.size = size) (hsz : 0 < size)
    (v : Value) (n : Nat) (xs : List Value) (hs : a.eval s = v) (hown : w.ownsRow base e size v n xs)
    (xv : Value) (m : Nat) (news : List Value) (hx : a.eval x = xv) (hsrc : Cells w size xv m news) (h1 : ∀ u ∈ news, u.oneCell' = true)
    (h63 : n + m ≤ maxLen) (hbytes : ((n + m) + (n + m) / 4 + 192) * bytes ≤ 281474976710656) (hbase : base ≤ w.heap.size)
    (h : ∀ v' w', w'.ownsRow base e size v' (n + m) (xs ++ news) → w.grownBy w' v.ownBlock → wpList P ops Q rest (a.put o.dst v') w') : wpList P ops Q (o :: rest) a w :=
  wpList_plain hgd fun _ hK => wp_append_any s x t ho base e i z size bytes ht hi hz hsize hby hzs hsz v n xs hs hown xv m news hx hsrc h1 h63 hbytes hbase fun v' w' h2 h3 => hK _ _ (h v' w' h2 h3)

/-- The like inside a region that draws its order. -/
theorem step_append_any {P : Program} {w : World} {ops : Array Oper} {o : Oper} {a : Act} {K : Act → World → Prop} {Q : Exit → Act → World → Prop} {E : Prop} (hgd : o.guard = none) (s x : Operand) (t : TypeId)
    (ho : o.op = .call { callee := .builtin .append, args := #[s, x], argTypes := #[t, t] })
    (base : Nat) (e : TypeId) (i : TypeInfo) (z : Value) (size bytes : Nat) (ht : P.underlying t = some (.slice e)) (hi : P.info? e = some i) (hz : i.zero = some z)
    (hsize : i.size = size) (hby : i.bytes = bytes) (hzs : z.cells.size = size) (hsz : 0 < size)
    (v : Value) (n : Nat) (xs : List Value) (hs : a.eval s = v) (hown : w.ownsRow base e size v n xs)
    (xv : Value) (m : Nat) (news : List Value) (hx : a.eval x = xv) (hsrc : Cells w size xv m news) (h1 : ∀ u ∈ news, u.oneCell' = true)
    (h63 : n + m ≤ maxLen) (hbytes : ((n + m) + (n + m) / 4 + 192) * bytes ≤ 281474976710656) (hbase : base ≤ w.heap.size)
    (h : ∀ v' w', w'.ownsRow base e size v' (n + m) (xs ++ news) → w.grownBy w' v.ownBlock → K (a.put o.dst v') w') :
    if Region.wanted o (yielded ops a.tmps) = true then Oper.wp P o a w K Q else E := by
  have hw : Region.wanted o (yielded ops a.tmps) = true := by simp [Region.wanted, hgd]
  rw [if_pos hw]
  exact wp_append_any s x t ho base e i z size bytes ht hi hz hsize hby hzs hsz v n xs hs hown xv m news hx hsrc h1 h63 hbytes hbase h

theorem Reads.cells {w : World} {v : Value} {xs : List Value} (h : Reads w v xs) : Cells w 1 v xs.length xs := by
  obtain ⟨a, cap, rfl, h⟩ := h
  refine ⟨by simp, a, cap, rfl, ?_⟩
  rcases h with rfl | ⟨g, o, rfl, h⟩
  · exact .inl rfl
  · exact .inr ⟨g, o, rfl, h⟩
theorem Cells.below {w w' : World} {size : Nat} {v : Value} {m : Nat} {xs : List Value} (h : Cells w size v m xs) (hb : Below w.heap.size w w') : Cells w' size v m xs := by
  obtain ⟨hl, a, cap, rfl, h⟩ := h
  refine ⟨hl, a, cap, rfl, ?_⟩
  rcases h with rfl | ⟨g, o, rfl, h⟩
  · exact .inl rfl
  · exact .inr ⟨g, o, rfl, fun j u hj => (hb.cell (p := ⟨g, o + j, none⟩) (World.block_lt_of_cell? w _ (h j u hj))).trans (h j u hj)⟩
theorem owns_cells {w : World} {B : Nat} {e : TypeId} {size : Nat} {v : Value} {n : Nat} {xs : List Value} (h : w.ownsRow B e size v n xs) : Cells w size v n xs := by
  rcases h.2 with ⟨rfl, h0⟩ | ⟨g, cap, cur, rfl, _⟩
  · exact ⟨h.1, none, 0, by rw [h0], .inl h0⟩
  · refine ⟨h.1, _, cap, rfl, .inr ⟨g, 0, rfl, fun k u hk => ?_⟩⟩
    have := h.cells (g := g) rfl k u hk
    rwa [Addr.add_lit] at this

theorem ints_one (ls : List Int) : ∀ u ∈ ls.map (Value.int .i64), u.oneCell' = true := by
  intro u hu
  obtain ⟨x, _, rfl⟩ := List.mem_map.1 hu
  rfl

/-- Rows of one length, laid one behind the other. -/
def AllLen (size : Nat) (rs : List (List Value)) : Prop := ∀ r ∈ rs, r.length = size

theorem flat_len {size : Nat} {rs : List (List Value)} (h : AllLen size rs) : rs.flatten.length = rs.length * size := by
  induction rs with
  | nil => simp
  | cons r rs ih =>
    have h1 := h r (by simp)
    have h2 := ih (fun x hx => h x (by simp [hx]))
    simp [h1, h2, Nat.add_mul]
    omega
theorem flat_get {size : Nat} {rs : List (List Value)} (h : AllLen size rs) {k : Nat} {r : List Value} (hk : rs[k]? = some r) {j : Nat} {u : Value} (hj : r[j]? = some u) : rs.flatten[k * size + j]? = some u := by
  induction rs generalizing k with
  | nil => simp at hk
  | cons r0 rs ih =>
    have h1 := h r0 (by simp)
    cases k with
    | zero =>
      simp at hk
      subst hk
      have hlt : j < r0.length := (List.getElem?_eq_some_iff.1 hj).1
      simp [List.getElem?_append_left hlt, hj]
    | succ k =>
      simp at hk
      have := ih (fun x hx => h x (by simp [hx])) hk
      rw [List.flatten_cons, List.getElem?_append_right (by rw [h1, Nat.add_mul]; omega), h1, show (k + 1) * size + j - size = k * size + j by rw [Nat.add_mul]; omega]
      exact this

/-- A slice of rows. -/
def RowsL (w : World) (size : Nat) (v : Value) (rs : List (List Value)) : Prop := AllLen size rs ∧ Cells w size v rs.length rs.flatten

theorem RowsL.below {w w' : World} {size : Nat} {v : Value} {rs : List (List Value)} (h : RowsL w size v rs) (hb : Below w.heap.size w w') : RowsL w' size v rs := ⟨h.1, h.2.below hb⟩

theorem RowsL.cell {w : World} {size : Nat} {v : Value} {rs : List (List Value)} (h : RowsL w size v rs) : ∃ a c, v = .slice a rs.length c ∧
    (rs = [] ∨ ∃ g o, a = some ⟨g, o, none⟩ ∧ ∀ k r, rs[k]? = some r → ∀ j u, r[j]? = some u → w.cell? ⟨g, o + k * size + j, none⟩ = some u) := by
  obtain ⟨hl, _, a, c, rfl, h⟩ := h
  refine ⟨a, c, rfl, ?_⟩
  rcases h with h0 | ⟨g, o, rfl, h⟩
  · exact .inl (List.eq_nil_of_length_eq_zero h0)
  · refine .inr ⟨g, o, rfl, fun k r hk j u hj => ?_⟩
    rw [Nat.add_assoc]
    exact h _ _ (flat_get hl hk hj)

def OwnsL (w : World) (B : Nat) (e : TypeId) (size : Nat) (v : Value) (rs : List (List Value)) : Prop := AllLen size rs ∧ w.ownsRow B e size v rs.length rs.flatten

theorem OwnsL.rows {w : World} {B : Nat} {e : TypeId} {size : Nat} {v : Value} {rs : List (List Value)} (h : OwnsL w B e size v rs) : RowsL w size v rs := ⟨h.1, owns_cells h.2⟩
theorem OwnsL.snoc {w : World} {B : Nat} {e : TypeId} {size : Nat} {v : Value} {rs : List (List Value)} {r : List Value} (h : AllLen size rs) (hr : r.length = size) (ho : w.ownsRow B e size v (rs.length + 1) (rs.flatten ++ r)) : OwnsL w B e size v (rs ++ [r]) := by
  refine ⟨fun x hx => ?_, by simpa using ho⟩
  rcases List.mem_append.1 hx with hx | hx
  · exact h x hx
  · simp at hx; subst hx; exact hr
theorem OwnsL.empty {w : World} {B : Nat} {e : TypeId} {size : Nat} {v : Value} (ho : w.ownsRow B e size v 0 []) : OwnsL w B e size v [] := ⟨fun x hx => by simp at hx, by simpa using ho⟩
end Go.Proofs.YtmijedghihebjaaGreatFmt
