/- FnEarlier: for every script of files, every index and every position the law returns true (fmt's texts told by the kit's own function); no condition. -/
import Derived.Test.YtgehgiafhfgacaaFmtOpenF
import Derived.Test.YtgehgiafhfgacaaFmtPlace
import Derived.Test.YtgehgiafhfgacaaFmtOpenC
import Derived.Deep.RegionHeld3
import Derived.Test.YtgehgiafhfgacaaFmtHeldF
import Derived.Test.YtgehgiafhfgacaaFmtCards
namespace Go.Proofs.YtgehgiafhfgacaaFmt
open Go.RowKit

set_option maxRecDepth 100000 in
set_option maxHeartbeats 4000000 in
theorem fnEarlier_walk (fv : Value) (fs : List GFile) (k p : Int) (w : World) (hf : Files w fv fs) (hcp : ∃ a len cap, fv = .slice a len cap ∧ len ≤ cap ∧ cap ≤ maxLen) : Calls Tryf.prog 4 #[fv, .int .i64 k, .int .i64 p] w fun e w' => e = .returned (.bool true) ∧ Below w.heap.size w w' := by
  rcases lines_or fs k with ⟨m, hk, hs⟩ | hk
  · obtain ⟨v1, v2, v3, v4⟩ := hasK_bd hk
    have hg := Lib.hid (good_of hk.1 hk.2.2 hs)
    have HC := Lib.hid (lined_yes fv fs k m w hf hk hs)
    have hnk : ∃ kn : Nat, k = kn ∧ (madeL fs)[kn]? = some m := ⟨k.toNat, by have := hk.2.1; omega, hk.2.2⟩
    obtain ⟨kn, rfl, hkn⟩ := hnk
    have hkl : kn < fs.length := by have := (List.getElem?_eq_some_iff.1 hkn).1; rwa [madeL_length] at this
    obtain ⟨fa, len, fc, rfl, hcap, hcm⟩ := hcp
    obtain ⟨_, _, hv0, hcell0⟩ := hf.cell
    simp only [Value.slice.injEq] at hv0
    obtain ⟨rfl, rfl, rfl⟩ := hv0
    obtain ⟨g, o, _, rfl, _⟩ := hcell0 kn _ (List.getElem?_eq_getElem hkl)
    have hkT : HasK (fs.take (kn + 1)) kn m := ⟨valid_take hk.1 (kn + 1), by omega, by simpa using made_take hkn⟩
    have HP : Hid (∀ W, Below w.heap.size w W → p ≠ 0 → -4398046511104 ≤ p → p ≤ 4398046511104 → Calls Tryf.prog 10 #[.slice (some ⟨g, o, none⟩) fs.length fc, .int .i64 kn, .int .i64 p] W fun e w' => e = .returned (.agg #[.string m.name, .int .i64 (offP m p), .int .i64 (lnP m p), .int .i64 (clP m p)]) ∧ Below W.heap.size W w') := fun W hb h1 h2 h3 => pos_good _ fs kn m p W (hf.below hb) hk hs h1 h2 h3
    have HP0 : Hid (∀ W, Below w.heap.size w W → Calls Tryf.prog 10 #[.slice (some ⟨g, o, none⟩) fs.length fc, .int .i64 kn, .int .i64 0] W fun e w' => e = .returned (.agg #[.string ⟨#[]⟩, .int .i64 0, .int .i64 0, .int .i64 0]) ∧ Below W.heap.size W w') := fun W hb => pos_zero _ fs kn m W (hf.below hb) hk
    have HT : Hid (∀ W, Below w.heap.size w W → p ≠ 0 → -4398046511104 ≤ p → p ≤ 4398046511104 → Calls Tryf.prog 10 #[.slice (some ⟨g, o, none⟩) (kn + 1) fc, .int .i64 kn, .int .i64 p] W fun e w' => e = .returned (.agg #[.string m.name, .int .i64 (offP m p), .int .i64 (lnP m p), .int .i64 (clP m p)]) ∧ Below W.heap.size W w') := fun W hb h1 h2 h3 => pos_good _ (fs.take (kn + 1)) kn m p W ((hf.below hb).take (by omega)) hkT hs h1 h2 h3
    have HT0 : Hid (∀ W, Below w.heap.size w W → Calls Tryf.prog 10 #[.slice (some ⟨g, o, none⟩) (kn + 1) fc, .int .i64 kn, .int .i64 0] W fun e w' => e = .returned (.agg #[.string ⟨#[]⟩, .int .i64 0, .int .i64 0, .int .i64 0]) ∧ Below W.heap.size W w') := fun W hb => pos_zero _ (fs.take (kn + 1)) kn m W ((hf.below hb).take (by omega)) hkT
    have HO : Hid (∀ W, Below w.heap.size w W → -4398046511104 ≤ p → p ≤ 4398046511104 → Calls Tryf.prog 13 #[.slice (some ⟨g, o, none⟩) fs.length fc, .int .i64 kn, .int .i64 p] W fun e w' => e = .returned (.int .i64 (offP m p)) ∧ Below W.heap.size W w') := fun W hb h2 h3 => off_good _ fs kn m p W (hf.below hb) hk h2 h3
    have HOT : Hid (∀ W, Below w.heap.size w W → -4398046511104 ≤ p → p ≤ 4398046511104 → Calls Tryf.prog 13 #[.slice (some ⟨g, o, none⟩) (kn + 1) fc, .int .i64 kn, .int .i64 p] W fun e w' => e = .returned (.int .i64 (offP m p)) ∧ Below W.heap.size W w') := fun W hb h2 h3 => off_good _ (fs.take (kn + 1)) kn m p W ((hf.below hb).take (by omega)) hkT h2 h3
    have hcm2 : fc ≤ 9223372036854775807 := by unfold maxLen at hcm; omega
    have i1 : 0 ≤ (kn : Int) + 1 := by omega
    have i2 : (kn : Int) + 1 ≤ (fc : Int) := by omega
    have i3 : ((kn : Int) + 1).toNat = kn + 1 := by omega
    have i5 : 0 ≤ (kn : Int) := by omega
    have i6 : kn ≤ 9223372036854775806 := by omega
    clear hkT hcell0 hcap hcm hkn
    clear hf hk
    go_enter Tryf.func4, Tryf.ntmps4
    go_wp2_with fail
    refine HC.out.mono ?_
    rintro e w1 ⟨la, lc, ya, yc, rfl, oL, _, hl, hb1⟩
    clear HC
    have hNN := heap_new w1 (.cells #[.string m.name, .int .i64 m.base, .int .i64 m.size, .slice la m.lines.length lc, .slice ya m.yes.length yc] 26)
    have hb2 : Below w.heap.size w (w1.alloc (.cells #[.string m.name, .int .i64 m.base, .int .i64 m.size, .slice la m.lines.length lc, .slice ya m.yes.length yc] 26)) := hb1.alloc hb1.size _
    by_cases hn : -2199023255552 ≤ p ∧ p ≤ 2199023255552
    · obtain ⟨n1, n2⟩ := hn
      by_cases hp : p = 0
      · subst hp
        have HA := Lib.hid (fun W hb => HP0.out W hb)
        have HOO := Lib.hid (fun W hb => HO.out W hb (by omega) (by omega))
        have HOTT := Lib.hid (fun W hb => HOT.out W hb (by omega) (by omega))
        generalize offP m 0 = of at *
        have s2 : ((of : Int) == of) = true := by simp
        clear HP HT HP0 hg HO HOT
        go_wp2_with fail
        refine (near_yes 0 _ n1 n2).mono ?_
        rintro e w' ⟨rfl, rfl⟩
        go_wp2_with fail
        refine (HA.out _ hb2).mono ?_
        rintro e w3 ⟨rfl, hb3⟩
        have hb4 : Below w.heap.size w (w3.alloc (.cells #[.string ⟨#[]⟩, .int .i64 0, .int .i64 0, .int .i64 0] 30)) := (hb2.trans (hb3.mono hb2.size)).alloc (by have := hb2.size; have := hb3.size; omega) _
        have hA := heap_new w3 (.cells #[.string ⟨#[]⟩, .int .i64 0, .int .i64 0, .int .i64 0] 30)
        clear HA hb3 hNN hb1 hb2
        go_wp2_with fail
        generalize (w3.alloc (.cells #[.string ⟨#[]⟩, .int .i64 0, .int .i64 0, .int .i64 0] 30)) = w4 at *
        generalize w3.heap.size = xa at *
        have a0 := cell_of hA 0
        have a1 := cell_of hA 1
        have a2 := cell_of hA 2
        have a3 := cell_of hA 3
        simp only [List.getElem?_toArray, List.getElem?_cons_zero, List.getElem?_cons_succ] at a0 a1 a2 a3
        have ta := lt_of_heap hA
        have i4 : IntKind.i64.wrap ((kn : Int) + 1) = (kn : Int) + 1 := IntWalk.i64_in _ (by omega)
        clear hA
        refine wp_region_noPanic ?_
        refine wp_region_E (S := (fun w' => w'.cell? ⟨xa, 0, none⟩ = some (.string ⟨#[]⟩) ∧ w'.cell? ⟨xa, 1, none⟩ = some (.int .i64 0) ∧ w'.cell? ⟨xa, 2, none⟩ = some (.int .i64 0) ∧ w'.cell? ⟨xa, 3, none⟩ = some (.int .i64 0))) (z := 99) (by kernel_rfl) ?_
        refine wpAnyE_take (i := 0) (oi := { dst := some 27, op := Op.load 30 (Operand.tmp 9), type := 30, pos := "laws.go:104", after := #[], guard := none }) (v := ?_) rfl (by kernel_rfl) (by kernel_rfl) (by kernel_rfl) (by kernel_rfl) (fun _ _ _ h => h) (Or.inl ⟨by rfl, ?_⟩) ⟨a0, a1, a2, a3⟩ ?_
        rotate_left
        · intro w hSw
          obtain ⟨hSw1, hSw2, hSw3, hSw4⟩ := hSw
          first | (go_simp; done) | (go_simp; with_reducible rfl)
        try simp only [Act.put, List.setIfInBounds_toArray, List.set_cons_zero, List.set_cons_succ]
        refine wpAnyE_take (i := 1) (oi := { dst := some 28, op := Op.move (Operand.tmp 0), type := 22, pos := "laws.go:104", after := #[], guard := none }) (v := ?_) rfl (by kernel_rfl) (by kernel_rfl) (by kernel_rfl) (by kernel_rfl) (fun _ _ _ h => h) (Or.inl ⟨by rfl, ?_⟩) ⟨a0, a1, a2, a3⟩ ?_
        rotate_left
        · intro w hSw
          obtain ⟨hSw1, hSw2, hSw3, hSw4⟩ := hSw
          first | (go_simp; done) | (go_simp; with_reducible rfl)
        try simp only [Act.put, List.setIfInBounds_toArray, List.set_cons_zero, List.set_cons_succ]
        refine wpAnyE_take (i := 2) (oi := { dst := some 29, op := Op.move (Operand.tmp 1), type := 3, pos := "laws.go:104", after := #[], guard := none }) (v := ?_) rfl (by kernel_rfl) (by kernel_rfl) (by kernel_rfl) (by kernel_rfl) (fun _ _ _ h => h) (Or.inl ⟨by rfl, ?_⟩) ⟨a0, a1, a2, a3⟩ ?_
        rotate_left
        · intro w hSw
          obtain ⟨hSw1, hSw2, hSw3, hSw4⟩ := hSw
          first | (go_simp; done) | (go_simp; with_reducible rfl)
        try simp only [Act.put, List.setIfInBounds_toArray, List.set_cons_zero, List.set_cons_succ]
        refine wpAnyE_take (i := 3) (oi := { dst := some 30, op := Op.binOp BinOp.add 3 (Operand.tmp 29) (Operand.const (Value.int IntKind.i64 1)) 3, type := 3, pos := "laws.go:104", after := #[{ on := 2, ground := Ground.data }], guard := none }) (v := ?_) rfl (by kernel_rfl) (by kernel_rfl) (by kernel_rfl) (by kernel_rfl) (fun _ _ _ h => h) (Or.inl ⟨by rfl, ?_⟩) ⟨a0, a1, a2, a3⟩ ?_
        rotate_left
        · intro w hSw
          obtain ⟨hSw1, hSw2, hSw3, hSw4⟩ := hSw
          first | (go_simp; done) | (go_simp; with_reducible rfl)
        try simp only [Act.put, List.setIfInBounds_toArray, List.set_cons_zero, List.set_cons_succ]
        refine wpAnyE_take (i := 4) (oi := { dst := some 31, op := Op.slice 22 (Operand.tmp 28) none (some (Operand.tmp 30)) none, type := 22, pos := "laws.go:104", after := #[{ on := 1, ground := Ground.data }, { on := 3, ground := Ground.data }], guard := none }) (v := ?_) rfl (by kernel_rfl) (by kernel_rfl) (by kernel_rfl) (by kernel_rfl) (fun _ _ _ h => h) (Or.inl ⟨by rfl, ?_⟩) ⟨a0, a1, a2, a3⟩ ?_
        rotate_left
        · intro w hSw
          obtain ⟨hSw1, hSw2, hSw3, hSw4⟩ := hSw
          first | (go_simp; done) | (go_simp; with_reducible rfl)
        try simp only [Act.put, List.setIfInBounds_toArray, List.set_cons_zero, List.set_cons_succ]
        refine wpAnyE_take (i := 5) (oi := { dst := some 32, op := Op.move (Operand.tmp 1), type := 3, pos := "laws.go:104", after := #[], guard := none }) (v := ?_) rfl (by kernel_rfl) (by kernel_rfl) (by kernel_rfl) (by kernel_rfl) (fun _ _ _ h => h) (Or.inl ⟨by rfl, ?_⟩) ⟨a0, a1, a2, a3⟩ ?_
        rotate_left
        · intro w hSw
          obtain ⟨hSw1, hSw2, hSw3, hSw4⟩ := hSw
          first | (go_simp; done) | (go_simp; with_reducible rfl)
        try simp only [Act.put, List.setIfInBounds_toArray, List.set_cons_zero, List.set_cons_succ]
        refine wpAnyE_take (i := 6) (oi := { dst := some 33, op := Op.move (Operand.tmp 2), type := 3, pos := "laws.go:104", after := #[], guard := none }) (v := ?_) rfl (by kernel_rfl) (by kernel_rfl) (by kernel_rfl) (by kernel_rfl) (fun _ _ _ h => h) (Or.inl ⟨by rfl, ?_⟩) ⟨a0, a1, a2, a3⟩ ?_
        rotate_left
        · intro w hSw
          obtain ⟨hSw1, hSw2, hSw3, hSw4⟩ := hSw
          first | (go_simp; done) | (go_simp; with_reducible rfl)
        try simp only [Act.put, List.setIfInBounds_toArray, List.set_cons_zero, List.set_cons_succ]
        refine wpAnyE_oneW (i := 7) (o := { dst := some 34, op := Op.call { callee := Callee.value (Operand.func 10), args := #[Operand.tmp 31, Operand.tmp 32, Operand.tmp 33], argTypes := #[22, 3, 3] }, type := 30, pos := "laws.go:104", after := #[{ on := 4, ground := Ground.data }, { on := 5, ground := Ground.data }, { on := 6, ground := Ground.data }], guard := none }) (by kernel_rfl) rfl (by rfl) ?_
        intro K hK
        go_simp
        refine (HT0.out _ hb4.drew).mono ?_
        rintro e w5 ⟨rfl, hbw5⟩
        have b0 := (hbw5.cell (p := ⟨xa, 0, none⟩) ta).trans a0
        have b1 := (hbw5.cell (p := ⟨xa, 1, none⟩) ta).trans a1
        have b2 := (hbw5.cell (p := ⟨xa, 2, none⟩) ta).trans a2
        have b3 := (hbw5.cell (p := ⟨xa, 3, none⟩) ta).trans a3
        have tb := Nat.lt_of_lt_of_le ta hbw5.size
        have hc5 : Below w.heap.size w w5 := hb4.drew.trans (hbw5.mono hb4.drew.size)
        refine hK.out _ _ (.inr ⟨b0, b1, b2, b3⟩) ?_
        clear hK K
        try simp only [Act.put, List.setIfInBounds_toArray, List.set_cons_zero, List.set_cons_succ]
        refine wpAnyE_take (i := 8) (oi := { dst := some 35, op := Op.binOp BinOp.eql 30 (Operand.tmp 27) (Operand.tmp 34) 30, type := 4, pos := "laws.go:104", after := #[{ on := 0, ground := Ground.data }, { on := 7, ground := Ground.data }], guard := none }) (v := ?_) rfl (by kernel_rfl) (by kernel_rfl) (by kernel_rfl) (by kernel_rfl) (fun _ _ _ h => h) (Or.inl ⟨by rfl, ?_⟩) ⟨b0, b1, b2, b3⟩ ?_
        rotate_left
        · intro w hSw
          obtain ⟨hSw1, hSw2, hSw3, hSw4⟩ := hSw
          first | (go_simp; done) | (go_simp; with_reducible rfl)
        try simp only [Act.put, List.setIfInBounds_toArray, List.set_cons_zero, List.set_cons_succ]
        refine wpAnyE_take (i := 9) (oi := { dst := some 36, op := Op.move (Operand.tmp 35), type := 4, pos := "laws.go:104", after := #[{ on := 8, ground := Ground.data }, { on := 7, ground := Ground.chain }], guard := none }) (v := ?_) rfl (by kernel_rfl) (by kernel_rfl) (by kernel_rfl) (by kernel_rfl) (fun _ _ _ h => h) (Or.inl ⟨by rfl, ?_⟩) ⟨b0, b1, b2, b3⟩ ?_
        rotate_left
        · intro w hSw
          obtain ⟨hSw1, hSw2, hSw3, hSw4⟩ := hSw
          first | (go_simp; done) | (go_simp; with_reducible rfl)
        try simp only [Act.put, List.setIfInBounds_toArray, List.set_cons_zero, List.set_cons_succ]
        refine wpAnyE_take (i := 10) (oi := { dst := some 37, op := Op.move (Operand.tmp 2), type := 3, pos := "laws.go:104", after := #[{ on := 9, ground := Ground.guard }], guard := some (9, true) }) (v := ?_) rfl (by kernel_rfl) (by kernel_rfl) (by kernel_rfl) (by kernel_rfl) (fun _ _ _ h => h) (Or.inl ⟨by rfl, ?_⟩) ⟨b0, b1, b2, b3⟩ ?_
        rotate_left
        · intro w hSw
          obtain ⟨hSw1, hSw2, hSw3, hSw4⟩ := hSw
          first | (go_simp; done) | (go_simp; with_reducible rfl)
        try simp only [Act.put, List.setIfInBounds_toArray, List.set_cons_zero, List.set_cons_succ]
        refine wpAnyE_take (i := 11) (oi := { dst := some 38, op := Op.binOp BinOp.eql 3 (Operand.tmp 37) (Operand.const (Value.int IntKind.i64 0)) 3, type := 4, pos := "laws.go:104", after := #[{ on := 10, ground := Ground.data }, { on := 9, ground := Ground.guard }], guard := some (9, true) }) (v := ?_) rfl (by kernel_rfl) (by kernel_rfl) (by kernel_rfl) (by kernel_rfl) (fun _ _ _ h => h) (Or.inl ⟨by rfl, ?_⟩) ⟨b0, b1, b2, b3⟩ ?_
        rotate_left
        · intro w hSw
          obtain ⟨hSw1, hSw2, hSw3, hSw4⟩ := hSw
          first | (go_simp; done) | (go_simp; with_reducible rfl)
        try simp only [Act.put, List.setIfInBounds_toArray, List.set_cons_zero, List.set_cons_succ]
        refine wpAnyE_take (i := 12) (oi := { dst := some 39, op := Op.move (Operand.tmp 38), type := 4, pos := "laws.go:104", after := #[{ on := 11, ground := Ground.data }, { on := 9, ground := Ground.chain }, { on := 9, ground := Ground.guard }], guard := some (9, true) }) (v := ?_) rfl (by kernel_rfl) (by kernel_rfl) (by kernel_rfl) (by kernel_rfl) (fun _ _ _ h => h) (Or.inl ⟨by rfl, ?_⟩) ⟨b0, b1, b2, b3⟩ ?_
        rotate_left
        · intro w hSw
          obtain ⟨hSw1, hSw2, hSw3, hSw4⟩ := hSw
          first | (go_simp; done) | (go_simp; with_reducible rfl)
        try simp only [Act.put, List.setIfInBounds_toArray, List.set_cons_zero, List.set_cons_succ]
        refine wpAnyE_take (i := 13) (oi := { dst := some 40, op := Op.fieldAddr 30 (Operand.tmp 9) 2, type := 0, pos := "laws.go:104", after := #[{ on := 12, ground := Ground.guard }], guard := some (12, false) }) (v := undef) rfl (by kernel_rfl) (by kernel_rfl) (by kernel_rfl) (by kernel_rfl) (fun _ _ _ h => h) (Or.inr ⟨by rfl, rfl⟩) ⟨b0, b1, b2, b3⟩ ?_
        try simp only [Act.put, List.setIfInBounds_toArray, List.set_cons_zero, List.set_cons_succ]
        refine wpAnyE_take (i := 14) (oi := { dst := some 41, op := Op.load 3 (Operand.tmp 40), type := 3, pos := "laws.go:104", after := #[{ on := 13, ground := Ground.data }, { on := 12, ground := Ground.guard }], guard := some (12, false) }) (v := undef) rfl (by kernel_rfl) (by kernel_rfl) (by kernel_rfl) (by kernel_rfl) (fun _ _ _ h => h) (Or.inr ⟨by rfl, rfl⟩) ⟨b0, b1, b2, b3⟩ ?_
        try simp only [Act.put, List.setIfInBounds_toArray, List.set_cons_zero, List.set_cons_succ]
        refine wpAnyE_take (i := 15) (oi := { dst := some 42, op := Op.binOp BinOp.gtr 3 (Operand.tmp 41) (Operand.const (Value.int IntKind.i64 0)) 3, type := 4, pos := "laws.go:104", after := #[{ on := 14, ground := Ground.data }, { on := 12, ground := Ground.guard }], guard := some (12, false) }) (v := undef) rfl (by kernel_rfl) (by kernel_rfl) (by kernel_rfl) (by kernel_rfl) (fun _ _ _ h => h) (Or.inr ⟨by rfl, rfl⟩) ⟨b0, b1, b2, b3⟩ ?_
        try simp only [Act.put, List.setIfInBounds_toArray, List.set_cons_zero, List.set_cons_succ]
        refine wpAnyE_take (i := 16) (oi := { dst := some 43, op := Op.pick (Operand.tmp 39) (Operand.const (Value.bool true)) (Operand.tmp 42), type := 4, pos := "laws.go:104", after := #[{ on := 12, ground := Ground.data }, { on := 15, ground := Ground.data }, { on := 9, ground := Ground.guard }], guard := some (9, true) }) (v := ?_) rfl (by kernel_rfl) (by kernel_rfl) (by kernel_rfl) (by kernel_rfl) (fun _ _ _ h => h) (Or.inl ⟨by rfl, ?_⟩) ⟨b0, b1, b2, b3⟩ ?_
        rotate_left
        · intro w hSw
          obtain ⟨hSw1, hSw2, hSw3, hSw4⟩ := hSw
          first | (go_simp; done) | (go_simp; with_reducible rfl)
        try simp only [Act.put, List.setIfInBounds_toArray, List.set_cons_zero, List.set_cons_succ]
        refine wpAnyE_take (i := 17) (oi := { dst := some 44, op := Op.pick (Operand.tmp 36) (Operand.tmp 43) (Operand.const (Value.bool false)), type := 4, pos := "laws.go:104", after := #[{ on := 9, ground := Ground.data }, { on := 16, ground := Ground.data }], guard := none }) (v := ?_) rfl (by kernel_rfl) (by kernel_rfl) (by kernel_rfl) (by kernel_rfl) (fun _ _ _ h => h) (Or.inl ⟨by rfl, ?_⟩) ⟨b0, b1, b2, b3⟩ ?_
        rotate_left
        · intro w hSw
          obtain ⟨hSw1, hSw2, hSw3, hSw4⟩ := hSw
          first | (go_simp; done) | (go_simp; with_reducible rfl)
        try simp only [Act.put, List.setIfInBounds_toArray, List.set_cons_zero, List.set_cons_succ]
        refine wpAnyE_take (i := 18) (oi := { dst := some 45, op := Op.move (Operand.tmp 44), type := 4, pos := "laws.go:104", after := #[{ on := 17, ground := Ground.data }, { on := 12, ground := Ground.chain }], guard := none }) (v := ?_) rfl (by kernel_rfl) (by kernel_rfl) (by kernel_rfl) (by kernel_rfl) (fun _ _ _ h => h) (Or.inl ⟨by rfl, ?_⟩) ⟨b0, b1, b2, b3⟩ ?_
        rotate_left
        · intro w hSw
          obtain ⟨hSw1, hSw2, hSw3, hSw4⟩ := hSw
          first | (go_simp; done) | (go_simp; with_reducible rfl)
        try simp only [Act.put, List.setIfInBounds_toArray, List.set_cons_zero, List.set_cons_succ]
        refine wpAnyE_take (i := 19) (oi := { dst := some 46, op := Op.move (Operand.tmp 0), type := 22, pos := "laws.go:104", after := #[{ on := 18, ground := Ground.guard }], guard := some (18, true) }) (v := ?_) rfl (by kernel_rfl) (by kernel_rfl) (by kernel_rfl) (by kernel_rfl) (fun _ _ _ h => h) (Or.inl ⟨by rfl, ?_⟩) ⟨b0, b1, b2, b3⟩ ?_
        rotate_left
        · intro w hSw
          obtain ⟨hSw1, hSw2, hSw3, hSw4⟩ := hSw
          first | (go_simp; done) | (go_simp; with_reducible rfl)
        try simp only [Act.put, List.setIfInBounds_toArray, List.set_cons_zero, List.set_cons_succ]
        refine wpAnyE_take (i := 20) (oi := { dst := some 47, op := Op.move (Operand.tmp 1), type := 3, pos := "laws.go:104", after := #[{ on := 18, ground := Ground.guard }], guard := some (18, true) }) (v := ?_) rfl (by kernel_rfl) (by kernel_rfl) (by kernel_rfl) (by kernel_rfl) (fun _ _ _ h => h) (Or.inl ⟨by rfl, ?_⟩) ⟨b0, b1, b2, b3⟩ ?_
        rotate_left
        · intro w hSw
          obtain ⟨hSw1, hSw2, hSw3, hSw4⟩ := hSw
          first | (go_simp; done) | (go_simp; with_reducible rfl)
        try simp only [Act.put, List.setIfInBounds_toArray, List.set_cons_zero, List.set_cons_succ]
        refine wpAnyE_take (i := 21) (oi := { dst := some 48, op := Op.move (Operand.tmp 2), type := 3, pos := "laws.go:104", after := #[{ on := 18, ground := Ground.guard }], guard := some (18, true) }) (v := ?_) rfl (by kernel_rfl) (by kernel_rfl) (by kernel_rfl) (by kernel_rfl) (fun _ _ _ h => h) (Or.inl ⟨by rfl, ?_⟩) ⟨b0, b1, b2, b3⟩ ?_
        rotate_left
        · intro w hSw
          obtain ⟨hSw1, hSw2, hSw3, hSw4⟩ := hSw
          first | (go_simp; done) | (go_simp; with_reducible rfl)
        try simp only [Act.put, List.setIfInBounds_toArray, List.set_cons_zero, List.set_cons_succ]
        refine wpAnyE_take (i := 23) (oi := { dst := some 50, op := Op.move (Operand.tmp 0), type := 22, pos := "laws.go:104", after := #[{ on := 18, ground := Ground.guard }], guard := some (18, true) }) (v := ?_) rfl (by kernel_rfl) (by kernel_rfl) (by kernel_rfl) (by kernel_rfl) (fun _ _ _ h => h) (Or.inl ⟨by rfl, ?_⟩) ⟨b0, b1, b2, b3⟩ ?_
        rotate_left
        · intro w hSw
          obtain ⟨hSw1, hSw2, hSw3, hSw4⟩ := hSw
          first | (go_simp; done) | (go_simp; with_reducible rfl)
        try simp only [Act.put, List.setIfInBounds_toArray, List.set_cons_zero, List.set_cons_succ]
        refine wpAnyE_take (i := 24) (oi := { dst := some 51, op := Op.move (Operand.tmp 1), type := 3, pos := "laws.go:104", after := #[{ on := 18, ground := Ground.guard }], guard := some (18, true) }) (v := ?_) rfl (by kernel_rfl) (by kernel_rfl) (by kernel_rfl) (by kernel_rfl) (fun _ _ _ h => h) (Or.inl ⟨by rfl, ?_⟩) ⟨b0, b1, b2, b3⟩ ?_
        rotate_left
        · intro w hSw
          obtain ⟨hSw1, hSw2, hSw3, hSw4⟩ := hSw
          first | (go_simp; done) | (go_simp; with_reducible rfl)
        try simp only [Act.put, List.setIfInBounds_toArray, List.set_cons_zero, List.set_cons_succ]
        refine wpAnyE_take (i := 25) (oi := { dst := some 52, op := Op.binOp BinOp.add 3 (Operand.tmp 51) (Operand.const (Value.int IntKind.i64 1)) 3, type := 3, pos := "laws.go:104", after := #[{ on := 24, ground := Ground.data }, { on := 18, ground := Ground.guard }], guard := some (18, true) }) (v := ?_) rfl (by kernel_rfl) (by kernel_rfl) (by kernel_rfl) (by kernel_rfl) (fun _ _ _ h => h) (Or.inl ⟨by rfl, ?_⟩) ⟨b0, b1, b2, b3⟩ ?_
        rotate_left
        · intro w hSw
          obtain ⟨hSw1, hSw2, hSw3, hSw4⟩ := hSw
          first | (go_simp; done) | (go_simp; with_reducible rfl)
        try simp only [Act.put, List.setIfInBounds_toArray, List.set_cons_zero, List.set_cons_succ]
        refine wpAnyE_take (i := 26) (oi := { dst := some 53, op := Op.slice 22 (Operand.tmp 50) none (some (Operand.tmp 52)) none, type := 22, pos := "laws.go:104", after := #[{ on := 23, ground := Ground.data }, { on := 25, ground := Ground.data }, { on := 18, ground := Ground.guard }], guard := some (18, true) }) (v := ?_) rfl (by kernel_rfl) (by kernel_rfl) (by kernel_rfl) (by kernel_rfl) (fun _ _ _ h => h) (Or.inl ⟨by rfl, ?_⟩) ⟨b0, b1, b2, b3⟩ ?_
        rotate_left
        · intro w hSw
          obtain ⟨hSw1, hSw2, hSw3, hSw4⟩ := hSw
          first | (go_simp; done) | (go_simp; with_reducible rfl)
        try simp only [Act.put, List.setIfInBounds_toArray, List.set_cons_zero, List.set_cons_succ]
        refine wpAnyE_take (i := 27) (oi := { dst := some 54, op := Op.move (Operand.tmp 1), type := 3, pos := "laws.go:104", after := #[{ on := 18, ground := Ground.guard }], guard := some (18, true) }) (v := ?_) rfl (by kernel_rfl) (by kernel_rfl) (by kernel_rfl) (by kernel_rfl) (fun _ _ _ h => h) (Or.inl ⟨by rfl, ?_⟩) ⟨b0, b1, b2, b3⟩ ?_
        rotate_left
        · intro w hSw
          obtain ⟨hSw1, hSw2, hSw3, hSw4⟩ := hSw
          first | (go_simp; done) | (go_simp; with_reducible rfl)
        try simp only [Act.put, List.setIfInBounds_toArray, List.set_cons_zero, List.set_cons_succ]
        refine wpAnyE_take (i := 28) (oi := { dst := some 55, op := Op.move (Operand.tmp 2), type := 3, pos := "laws.go:104", after := #[{ on := 18, ground := Ground.guard }], guard := some (18, true) }) (v := ?_) rfl (by kernel_rfl) (by kernel_rfl) (by kernel_rfl) (by kernel_rfl) (fun _ _ _ h => h) (Or.inl ⟨by rfl, ?_⟩) ⟨b0, b1, b2, b3⟩ ?_
        rotate_left
        · intro w hSw
          obtain ⟨hSw1, hSw2, hSw3, hSw4⟩ := hSw
          first | (go_simp; done) | (go_simp; with_reducible rfl)
        try simp only [Act.put, List.setIfInBounds_toArray, List.set_cons_zero, List.set_cons_succ]
        refine wpAnyE_oneW (i := 22) (o := { dst := some 49, op := Op.call { callee := Callee.value (Operand.func 13), args := #[Operand.tmp 46, Operand.tmp 47, Operand.tmp 48], argTypes := #[22, 3, 3] }, type := 3, pos := "laws.go:104", after := #[{ on := 19, ground := Ground.data }, { on := 20, ground := Ground.data }, { on := 21, ground := Ground.data }, { on := 18, ground := Ground.chain }, { on := 18, ground := Ground.guard }], guard := some (18, true) }) (by kernel_rfl) rfl (by rfl) ?_
        intro K hK
        go_simp
        refine (HOO.out _ hc5).mono ?_
        rintro e w7 ⟨rfl, hbw7⟩
        have c0 := (hbw7.cell (p := ⟨xa, 0, none⟩) tb).trans b0
        have c1 := (hbw7.cell (p := ⟨xa, 1, none⟩) tb).trans b1
        have c2 := (hbw7.cell (p := ⟨xa, 2, none⟩) tb).trans b2
        have c3 := (hbw7.cell (p := ⟨xa, 3, none⟩) tb).trans b3
        have tc := Nat.lt_of_lt_of_le tb hbw7.size
        have hc7 : Below w.heap.size w w7 := hc5.trans (hbw7.mono hc5.size)
        refine hK.out _ _ (.inr ⟨c0, c1, c2, c3⟩) ?_
        clear hK K
        try simp only [Act.put, List.setIfInBounds_toArray, List.set_cons_zero, List.set_cons_succ]
        refine wpAnyE_oneW (i := 29) (o := { dst := some 56, op := Op.call { callee := Callee.value (Operand.func 13), args := #[Operand.tmp 53, Operand.tmp 54, Operand.tmp 55], argTypes := #[22, 3, 3] }, type := 3, pos := "laws.go:104", after := #[{ on := 26, ground := Ground.data }, { on := 27, ground := Ground.data }, { on := 28, ground := Ground.data }, { on := 22, ground := Ground.chain }, { on := 18, ground := Ground.guard }], guard := some (18, true) }) (by kernel_rfl) rfl (by rfl) ?_
        intro K hK
        go_simp
        refine (HOTT.out _ hc7).mono ?_
        rintro e w9 ⟨rfl, hbw9⟩
        have d0 := (hbw9.cell (p := ⟨xa, 0, none⟩) tc).trans c0
        have d1 := (hbw9.cell (p := ⟨xa, 1, none⟩) tc).trans c1
        have d2 := (hbw9.cell (p := ⟨xa, 2, none⟩) tc).trans c2
        have d3 := (hbw9.cell (p := ⟨xa, 3, none⟩) tc).trans c3
        have td := Nat.lt_of_lt_of_le tc hbw9.size
        have hc9 : Below w.heap.size w w9 := hc7.trans (hbw9.mono hc7.size)
        refine hK.out _ _ (.inr ⟨d0, d1, d2, d3⟩) ?_
        clear hK K
        try simp only [Act.put, List.setIfInBounds_toArray, List.set_cons_zero, List.set_cons_succ]
        refine wpAnyE_take (i := 30) (oi := { dst := some 57, op := Op.binOp BinOp.eql 3 (Operand.tmp 49) (Operand.tmp 56) 3, type := 4, pos := "laws.go:104", after := #[{ on := 22, ground := Ground.data }, { on := 29, ground := Ground.data }, { on := 18, ground := Ground.guard }], guard := some (18, true) }) (v := ?_) rfl (by kernel_rfl) (by kernel_rfl) (by kernel_rfl) (by kernel_rfl) (fun _ _ _ h => h) (Or.inl ⟨by rfl, ?_⟩) ⟨d0, d1, d2, d3⟩ ?_
        rotate_left
        · intro w hSw
          obtain ⟨hSw1, hSw2, hSw3, hSw4⟩ := hSw
          first | (go_simp; done) | (go_simp; with_reducible rfl)
        try simp only [Act.put, List.setIfInBounds_toArray, List.set_cons_zero, List.set_cons_succ]
        refine wpAnyE_take (i := 31) (oi := { dst := some 58, op := Op.pick (Operand.tmp 45) (Operand.tmp 57) (Operand.const (Value.bool false)), type := 4, pos := "laws.go:104", after := #[{ on := 18, ground := Ground.data }, { on := 30, ground := Ground.data }], guard := none }) (v := ?_) rfl (by kernel_rfl) (by kernel_rfl) (by kernel_rfl) (by kernel_rfl) (fun _ _ _ h => h) (Or.inl ⟨by rfl, ?_⟩) ⟨d0, d1, d2, d3⟩ ?_
        rotate_left
        · intro w hSw
          obtain ⟨hSw1, hSw2, hSw3, hSw4⟩ := hSw
          first | (go_simp; done) | (go_simp; with_reducible rfl)
        try simp only [Act.put, List.setIfInBounds_toArray, List.set_cons_zero, List.set_cons_succ]
        refine wpAnyE_take (i := 32) (oi := { dst := some 6, op := Op.assign (Operand.tmp 58), type := 4, pos := "laws.go:104", after := #[{ on := 31, ground := Ground.data }, { on := 29, ground := Ground.chain }, { on := 0, ground := Ground.phase }, { on := 1, ground := Ground.phase }, { on := 2, ground := Ground.phase }, { on := 3, ground := Ground.phase }, { on := 4, ground := Ground.phase }, { on := 5, ground := Ground.phase }, { on := 6, ground := Ground.phase }, { on := 7, ground := Ground.phase }, { on := 8, ground := Ground.phase }, { on := 9, ground := Ground.phase }, { on := 10, ground := Ground.phase }, { on := 11, ground := Ground.phase }, { on := 12, ground := Ground.phase }, { on := 13, ground := Ground.phase }, { on := 14, ground := Ground.phase }, { on := 15, ground := Ground.phase }, { on := 16, ground := Ground.phase }, { on := 17, ground := Ground.phase }, { on := 18, ground := Ground.phase }, { on := 19, ground := Ground.phase }, { on := 20, ground := Ground.phase }, { on := 21, ground := Ground.phase }, { on := 22, ground := Ground.phase }, { on := 23, ground := Ground.phase }, { on := 24, ground := Ground.phase }, { on := 25, ground := Ground.phase }, { on := 26, ground := Ground.phase }, { on := 27, ground := Ground.phase }, { on := 28, ground := Ground.phase }, { on := 29, ground := Ground.phase }, { on := 30, ground := Ground.phase }, { on := 31, ground := Ground.phase }], guard := none }) (v := ?_) rfl (by kernel_rfl) (by kernel_rfl) (by kernel_rfl) (by kernel_rfl) (fun _ _ _ h => h) (Or.inl ⟨by rfl, ?_⟩) ⟨d0, d1, d2, d3⟩ ?_
        rotate_left
        · intro w hSw
          obtain ⟨hSw1, hSw2, hSw3, hSw4⟩ := hSw
          first | (go_simp; done) | (go_simp; with_reducible rfl)
        try simp only [Act.put, List.setIfInBounds_toArray, List.set_cons_zero, List.set_cons_succ]
        refine wpAnyE_done (by kernel_rfl) ?_ _
        refine NoPanic.normal ?_
        clear a0 a1 a2 a3 b0 b1 b2 b3 c0 c1 c2 c3 d0 d1 d2 d3
        go_wp2
        go_ret
        exact ⟨rfl, hc9⟩
      · have lb := (lnP_bd hg.out v2 p).1
        have HA := Lib.hid (fun W hb => HP.out W hb hp (by omega) (by omega))
        have HTT := Lib.hid (fun W hb => HT.out W hb hp (by omega) (by omega))
        have HOO := Lib.hid (fun W hb => HO.out W hb (by omega) (by omega))
        have HOTT := Lib.hid (fun W hb => HOT.out W hb (by omega) (by omega))
        generalize offP m p = of at *
        generalize lnP m p = l at *
        generalize clP m p = c at *
        have s2 : ((of : Int) == of) = true := by simp
        have s3 : decide (0 < l) = true := by simp; omega
        have s4 : (p == 0) = false := by simpa using hp
        clear HP HT HP0 HT0 hg hp HO HOT
        go_wp2_with fail
        refine (near_yes p _ n1 n2).mono ?_
        rintro e w' ⟨rfl, rfl⟩
        go_wp2_with fail
        refine (HA.out _ hb2).mono ?_
        rintro e w3 ⟨rfl, hb3⟩
        have hb4 : Below w.heap.size w (w3.alloc (.cells #[.string m.name, .int .i64 of, .int .i64 l, .int .i64 c] 30)) := (hb2.trans (hb3.mono hb2.size)).alloc (by have := hb2.size; have := hb3.size; omega) _
        have hA := heap_new w3 (.cells #[.string m.name, .int .i64 of, .int .i64 l, .int .i64 c] 30)
        clear HA hb3 hNN hb1 hb2
        go_wp2_with fail
        generalize (w3.alloc (.cells #[.string m.name, .int .i64 of, .int .i64 l, .int .i64 c] 30)) = w4 at *
        generalize w3.heap.size = xa at *
        have a0 := cell_of hA 0
        have a1 := cell_of hA 1
        have a2 := cell_of hA 2
        have a3 := cell_of hA 3
        simp only [List.getElem?_toArray, List.getElem?_cons_zero, List.getElem?_cons_succ] at a0 a1 a2 a3
        have ta := lt_of_heap hA
        have i4 : IntKind.i64.wrap ((kn : Int) + 1) = (kn : Int) + 1 := IntWalk.i64_in _ (by omega)
        clear hA
        go_region_held3 (fun w' => w'.cell? ⟨xa, 0, none⟩ = some (.string m.name) ∧ w'.cell? ⟨xa, 1, none⟩ = some (.int .i64 of) ∧ w'.cell? ⟨xa, 2, none⟩ = some (.int .i64 l) ∧ w'.cell? ⟨xa, 3, none⟩ = some (.int .i64 c))
          (first | exact ⟨a0, a1, a2, a3⟩ | exact ⟨b0, b1, b2, b3⟩ | exact ⟨c0, c1, c2, c3⟩ | exact ⟨d0, d1, d2, d3⟩)
          (first
            | (go_at_call 10
               refine (HTT.out _ hb4.drew).mono ?_
               rintro e w5 ⟨rfl, hb5⟩
               have b0 := (hb5.cell (p := ⟨xa, 0, none⟩) ta).trans a0
               have b1 := (hb5.cell (p := ⟨xa, 1, none⟩) ta).trans a1
               have b2 := (hb5.cell (p := ⟨xa, 2, none⟩) ta).trans a2
               have b3 := (hb5.cell (p := ⟨xa, 3, none⟩) ta).trans a3
               have tb := Nat.lt_of_lt_of_le ta hb5.size
               have hb6 : Below w.heap.size w w5 := hb4.drew.trans (hb5.mono hb4.size))
            | (go_at_call 13
               ((with_reducible refine (HOO.out _ hb6).mono ?_)
                rintro e w7 ⟨rfl, hb7⟩
                have c0 := (hb7.cell (p := ⟨xa, 0, none⟩) tb).trans b0
                have c1 := (hb7.cell (p := ⟨xa, 1, none⟩) tb).trans b1
                have c2 := (hb7.cell (p := ⟨xa, 2, none⟩) tb).trans b2
                have c3 := (hb7.cell (p := ⟨xa, 3, none⟩) tb).trans b3
                have tc := Nat.lt_of_lt_of_le tb hb7.size
                have hb8 : Below w.heap.size w w7 := hb6.trans (hb7.mono hb6.size)))
            | (go_at_call 13
               refine (HOTT.out _ hb8).mono ?_
               rintro e w9 ⟨rfl, hb9⟩
               have d0 := (hb9.cell (p := ⟨xa, 0, none⟩) tc).trans c0
               have d1 := (hb9.cell (p := ⟨xa, 1, none⟩) tc).trans c1
               have d2 := (hb9.cell (p := ⟨xa, 2, none⟩) tc).trans c2
               have d3 := (hb9.cell (p := ⟨xa, 3, none⟩) tc).trans c3
               have hb10 : Below w.heap.size w w9 := hb8.trans (hb9.mono hb8.size)))
        clear a0 a1 a2 a3 b0 b1 b2 b3 c0 c1 c2 c3 d0 d1 d2 d3
        go_wp2
        go_ret
        exact ⟨rfl, hb10⟩
    · have hn' : p < -2199023255552 ∨ 2199023255552 < p := by omega
      have HN := Lib.hid (fun W => near_no p W hn')
      clear hn hn' HP HT HP0 HT0 HO HOT hg hNN
      go_wp2_with fail
      refine (HN.out _).mono ?_
      rintro e w' ⟨rfl, rfl⟩
      go_wp2
      go_ret
      exact ⟨rfl, hb2⟩
  · have HC := Lib.hid (lined_no fv fs k w hf hk)
    obtain ⟨fa, fc, rfl, _⟩ := hf.cell
    clear hf hk
    go_enter Tryf.func4, Tryf.ntmps4
    go_wp2_with fail
    refine HC.out.mono ?_
    rintro e w1 ⟨nm, b, s, la, ln, lc, ya, yn, yc, rfl, hb1⟩
    clear HC
    have hb2 : Below w.heap.size w (w1.alloc (.cells #[.string nm, .int .i64 b, .int .i64 s, .slice la ln lc, .slice ya yn yc] 26)) := hb1.alloc hb1.size _
    go_wp2
    go_ret
    exact ⟨rfl, hb2⟩
end Go.Proofs.YtgehgiafhfgacaaFmt

-- FRAME (gen_fn.py)
namespace Go.Proofs.YtgehgiafhfgacaaFmt.fnEarlier
open Go.ChangeShapes Go.WideShapes Go.ChangeAt Go.RowKit
open Go.Extern.Stop Go.Stop Go.Extern

set_option maxRecDepth 100000 in
theorem lifted (os : Os) (started : os.Started) (H : Type) (enc : TypeId × Value → H) :
    ReturnsInTold none {} Tryf.checked os 4 .any Input.okWide ((OpenSpec.ofChange Rows.fnEarlierSpec).preRow enc Tryf.prog Tryf.f4 [] false []) (fun F => ((OpenSpec.ofChange Rows.fnEarlierSpec).at F).post enc Tryf.prog Tryf.f4 false true false false) (aloneAtReturn Tryf.prog) nothingAlways := by
  refine returnsInTold_of_row (C := Tryf.checked) (s := OpenSpec.ofChange Rows.fnEarlierSpec) (by kernel_rfl) own started (by kernel_rfl) Tryf.func4
    (OpenSpec.witness_stopped (enc := enc) (C := Tryf.checked) false ⟨#[], #[.slice none 0 0, .int .i64 0, .int .i64 0], []⟩ 8 (by kernel_rfl) (by kernel_rfl) (by kernel_rfl) (by kernel_rfl)) ?_
  intro F W base args ds gs before _ hF hval0 hW _ _ hsz _ _
  have hval : ∀ (j : Nat) t v, Tryf.f4.params[j]? = some t → args[j]? = some v → Value.okWide Tryf.prog W .any base t v := hval0
  have hW' := hW
  obtain ⟨p, q, hA0, hV, rfl, hfz, hnd⟩ := hW
  have hA : DataW.TrodAll enc Tryf.prog W 0 (fun _ => true) true Tryf.f4.params.toList args.toList ds p := hA0
  rw [Tryf.params4] at hA hval
  obtain ⟨v0, vs0, d0, ds0, p0, q0, hargs, rfl, rfl, h0, r0⟩ := trodAll_cons hA
  obtain ⟨v1, vs1, d1, ds1, p1, q1, rfl, rfl, rfl, h1, r1⟩ := trodAll_cons r0
  obtain ⟨v2, vs2, d2, ds2, p2, q2, rfl, rfl, rfl, h2, r2⟩ := trodAll_cons r1
  obtain ⟨rfl, rfl, rfl⟩ := trodAll_nil r2
  obtain rfl : args = #[v0, v1, v2] := by cases args; simp_all
  obtain ⟨rfl, rfl⟩ := trodVars_none hV
  clear hA0
  obtain ⟨fs0, hf0, hn0, hr0⟩ := open_arg_files (hval 0 22 v0 rfl rfl) h0 (weights_arg hsz (j := 0) rfl rfl)
  obtain ⟨x1, rfl, rfl, rfl, wx1⟩ := open_int Tryf.underlying3 (hval 1 3 v1 rfl rfl) h1
  obtain ⟨x2, rfl, rfl, rfl, wx2⟩ := open_int Tryf.underlying3 (hval 2 3 v2 rfl rfl) h2
  refine (fnEarlier_walk v0 fs0 x1 x2 W hf0 (cap_arg (hval 0 22 v0 rfl rfl) h0)).mono fun e W' ⟨he, hb⟩ => ?_
  subst he
  exact ⟨_, rfl, law_post (tb := 4) laidOut (by rw [Tryf.params4]; intro t ht; simp at ht; first | (subst ht; exact rd_iFiles) | (rcases ht with rfl | rfl | rfl <;> first | exact rd_iFiles | exact rd_int)) rfl rfl Tryf.underlying4 rfl hW' hb⟩

theorem proved : Rows.FnEarlierToldSaid :=
  Claim7.holds_of_told_any 4 Tryf.f4 "fmt.Sprintf" [] [] _ _ _ (by kernel_rfl) rfl rfl rfl laidOut (by kernel_rfl) rfl ⟨rfl, rfl, rfl, rfl, rfl, rfl, rfl⟩ rfl rfl (by kernel_rfl) (by kernel_rfl) Tryf.func4 (by kernel_rfl)
    (of_decide_eq_true (by kernel_rfl)) (by unfold Func.isWrapper; first | (rw [if_pos (by decide +kernel)]; kernel_rfl) | (rw [if_neg (by decide +kernel)]; exact ⟨rfl, rfl⟩)) stopNames.symm rfl stopKnobs.symm (by kernel_rfl)
    (by kernel_rfl) (by kernel_rfl) (by kernel_rfl) (by kernel_rfl) (by kernel_rfl) (by kernel_rfl) (by kernel_rfl) (by kernel_rfl) (by kernel_rfl) rfl (by kernel_rfl) rfl rfl
    rfl rfl
    rfl (by kernel_rfl) (by kernel_rfl) (by kernel_rfl) (by decide) (by kernel_rfl)
    (OpenClaim.moreEntering_of (by kernel_rfl) (by kernel_rfl) (by kernel_rfl) (by kernel_rfl) (by kernel_rfl) (by kernel_rfl) (by kernel_rfl) (by kernel_rfl) (by kernel_rfl) (by kernel_rfl))
    ⟨_, WideRow.started_initial, quiet _⟩
    (fun os started _ H enc _ => lifted os started H enc)

end Go.Proofs.YtgehgiafhfgacaaFmt.fnEarlier
