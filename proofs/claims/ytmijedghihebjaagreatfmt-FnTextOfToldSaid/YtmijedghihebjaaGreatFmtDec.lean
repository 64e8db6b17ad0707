/- spec.Decimal: the decimal numeral. -/
import Derived.Test.YtmijedghihebjaaGreatFmtProg
import Derived.WalkKit
import Derived.KernelRfl
import Derived.Below
import Derived.BigCall
import Derived.Lib.ItoaNum
import Derived.Lib.ItoaMem
import Derived.Lib.ItoaLen
import Derived.Lib.Hide
import Derived.Laws.IdiomStrings
namespace Go.Proofs.YtmijedghihebjaaGreatFmt
open Go.RowKit

/-- The numeral as a string of the program's. -/
def numS (n : Int) : ByteArray := ⟨(Lib.itoa n).toArray⟩
theorem numS_size (n : Int) (h0 : -9223372036854775808 ≤ n) (h1 : n ≤ 9223372036854775807) : (numS n).size ≤ 21 := by
  have := Lib.itoa_length_le n h0 h1
  show (Lib.itoa n).toArray.size ≤ 21
  simp
  omega
theorem append_mk (a b : List UInt8) : (⟨a.toArray⟩ : ByteArray) ++ ⟨b.toArray⟩ = ⟨(a ++ b).toArray⟩ := by
  apply ByteArray.ext
  simp
/-- One digit. -/
def digS (d : Nat) : ByteArray := ⟨#[UInt8.ofNat (48 + d)]⟩
theorem digS_size (d : Nat) : (digS d).size = 1 := rfl
theorem numS_digit {u : Nat} (h : u < 10) : numS (u : Int) = digS u := by
  unfold numS digS
  rw [Lib.itoa_nonneg, Lib.decDigits_one h]
theorem numS_more {u : Nat} (h : ¬ u < 10) : numS (u : Int) = numS ((u / 10 : Nat) : Int) ++ digS (u % 10) := by
  unfold numS digS
  rw [Lib.itoa_nonneg, Lib.itoa_nonneg, show (#[UInt8.ofNat (48 + u % 10)] : Array UInt8) = [UInt8.ofNat (48 + u % 10)].toArray from rfl, append_mk, Lib.decDigits, dif_neg h]
theorem numS_neg {u : Nat} (h : 1 ≤ u) : numS (-(u : Int)) = ⟨#[45]⟩ ++ numS (u : Int) := by
  unfold numS
  rw [Lib.itoa_nonneg, Lib.itoa_neg u h, show (#[45] : Array UInt8) = [45].toArray from rfl, append_mk]
  rfl
theorem numS_negMore {u : Nat} (h : ¬ u < 10) : numS (-(u : Int)) = numS (-((u / 10 : Nat) : Int)) ++ numS ((u % 10 : Nat) : Int) := by
  rw [numS_neg (show 1 ≤ u by omega), numS_neg (show 1 ≤ u / 10 by omega), numS_more h, numS_digit (show u % 10 < 10 by omega)]
  apply ByteArray.ext
  simp

theorem digit_conv (d : Nat) (hd : d < 10) (w : World) : (convert 42 9 (.slice (some ⟨w.heap.size, 0, none⟩) 1 1)).run Tryz.prog (w.alloc (.cells #[.int .u8 (48 + (d : Int))] 5)) = .ok (.string (digS d)) (w.alloc (.cells #[.int .u8 (48 + (d : Int))] 5)) := by
  refine run_convert_bytes_back (P := Tryz.prog) _ 42 9 5 ⟨w.heap.size, 0, none⟩ 1 [UInt8.ofNat (48 + d)] Tryz.underlying42 Tryz.underlying5 Tryz.underlying9 ?_
  intro j hj
  have e : (UInt8.ofNat (48 + d)).toNat = 48 + d := by rw [UInt8.toNat_ofNat']; omega
  match j, hj with
  | 0, hj =>
    have h2 : ((48 : Int) + d) % 256 = 48 + d := by omega
    have h3 : (⟨w.heap.size, 0, none⟩ : Addr).add 0 = ⟨w.heap.size, 0, none⟩ := rfl
    rw [h3]
    simp [h2]

set_option maxRecDepth 100000 in
set_option maxHeartbeats 400000 in
theorem decimal_nat (u : Nat) : ∀ (_ : u ≤ 9223372036854775807) (w : World), Calls Tryz.prog 6 #[.int .i64 (u : Int)] w fun e w' => e = .returned (.string (numS u)) ∧ Below w.heap.size w w' := by
  induction u using Nat.strongRecOn with
  | _ u ih =>
    intro hle w
    have q1 : ¬ ((u : Int) < 0) := by omega
    have HB : Below w.heap.size w (w.alloc (.cells #[.int .u8 (48 + ((u % 10 : Nat) : Int))] 5)) := (Below.refl _ _).alloc (Nat.le_refl _) _
    have e1 : Int.tmod (u : Int) 10 = ((u % 10 : Nat) : Int) := by rw [Int.tmod_eq_emod_of_nonneg (by omega)]; omega
    have hcv := digit_conv (u % 10) (by omega) w
    by_cases hu : u < 10
    · have q2 : ¬ (10 ≤ (u : Int)) := by omega
      have HN := Lib.hid (numS_digit hu)
      have e2 : u % 10 = u := by omega
      rw [e2] at hcv e1 HB
      clear ih
      rw [HN.out]
      clear HN
      generalize digS u = D at *
      go_enter Tryz.func6, Tryz.ntmps6
      go_wp2
      go_ret
      exact ⟨rfl, HB⟩
    · have q2 : 10 ≤ (u : Int) := by omega
      have e2 : Int.tdiv (u : Int) 10 = ((u / 10 : Nat) : Int) := by rw [Int.tdiv_eq_ediv_of_nonneg (by omega)]; omega
      have HI := Lib.hid (ih (u / 10) (by omega) (by omega))
      have hsz := numS_size ((u / 10 : Nat) : Int) (by omega) (by omega)
      have hd : u % 10 < 10 := by omega
      have hv : u / 10 ≤ 9223372036854775807 := by omega
      have hD := digS_size (u % 10)
      rw [numS_more hu]
      generalize digS (u % 10) = D at *
      generalize u % 10 = d at *
      generalize u / 10 = v at *
      generalize numS (v : Int) = s at *
      clear ih
      go_enter Tryz.func6, Tryz.ntmps6
      go_wp2_with fail
      refine (HI.out _).mono ?_
      rintro e w2 ⟨rfl, hb2⟩
      have hb3 : Below w.heap.size w w2 := HB.trans (hb2.mono HB.size)
      clear HI hb2 hcv HB
      go_wp2
      go_ret
      exact ⟨rfl, hb3⟩

set_option maxRecDepth 100000 in
set_option maxHeartbeats 400000 in
theorem decimal_neg (u : Nat) : ∀ (_ : 1 ≤ u) (_ : u ≤ 9223372036854775808) (w : World), Calls Tryz.prog 6 #[.int .i64 (-(u : Int))] w fun e w' => e = .returned (.string (numS (-(u : Int)))) ∧ Below w.heap.size w w' := by
  induction u using Nat.strongRecOn with
  | _ u ih =>
    intro h1 hle w
    have q1 : (-(u : Int)) < 0 := by omega
    have HB : Below w.heap.size w w := Below.refl _ _
    by_cases hu : u < 10
    · have e2 : Int.tdiv (-(u : Int)) 10 = 0 := by rw [Int.neg_tdiv, Int.tdiv_eq_ediv_of_nonneg (by omega)]; omega
      have e3 : -(-(u : Int)) = (u : Int) := by omega
      have HI := Lib.hid (decimal_nat u (by omega))
      have hsz := numS_size (u : Int) (by omega) (by omega)
      rw [numS_neg h1]
      generalize numS (u : Int) = s at *
      clear ih
      go_enter Tryz.func6, Tryz.ntmps6
      go_wp2_with fail
      refine (HI.out _).mono ?_
      rintro e w2 ⟨rfl, hb2⟩
      clear HI HB
      go_wp2
      go_ret
      exact ⟨rfl, hb2⟩
    · have e2 : Int.tdiv (-(u : Int)) 10 = -((u / 10 : Nat) : Int) := by rw [Int.neg_tdiv, Int.tdiv_eq_ediv_of_nonneg (by omega)]; omega
      have e3 : Int.tmod (-(u : Int)) 10 = -((u % 10 : Nat) : Int) := by rw [Int.neg_tmod, Int.tmod_eq_emod_of_nonneg (by omega)]; omega
      have e4 : -(-((u % 10 : Nat) : Int)) = ((u % 10 : Nat) : Int) := by omega
      have HI := Lib.hid (ih (u / 10) (by omega) (by omega) (by omega))
      have HJ := Lib.hid (decimal_nat (u % 10) (by omega))
      have hsz := numS_size (-((u / 10 : Nat) : Int)) (by omega) (by omega)
      have hsz2 := numS_size ((u % 10 : Nat) : Int) (by omega) (by omega)
      have hd : u % 10 < 10 := by omega
      have hv : u / 10 ≤ 922337203685477581 := by omega
      have hv1 : 1 ≤ u / 10 := by omega
      rw [numS_negMore hu]
      generalize u % 10 = d at *
      generalize u / 10 = v at *
      generalize numS (-(v : Int)) = s at *
      generalize numS (d : Int) = t at *
      clear ih
      go_enter Tryz.func6, Tryz.ntmps6
      go_wp2_with fail
      refine (HI.out _).mono ?_
      rintro e w2 ⟨rfl, hb2⟩
      clear HI HB
      go_wp2_with fail
      refine (HJ.out _).mono ?_
      rintro e w3 ⟨rfl, hb3⟩
      clear HJ
      have hb4 : Below w.heap.size w w3 := hb2.trans (hb3.mono hb2.size)
      clear hb2 hb3
      go_wp2
      go_ret
      exact ⟨rfl, hb4⟩

/-- spec.Decimal of every int. -/
theorem decimal_any (n : Int) (h0 : -9223372036854775808 ≤ n) (h1 : n ≤ 9223372036854775807) (w : World) : Calls Tryz.prog 6 #[.int .i64 n] w fun e w' => e = .returned (.string (numS n)) ∧ Below w.heap.size w w' := by
  by_cases h : 0 ≤ n
  · obtain ⟨u, rfl⟩ : ∃ u : Nat, n = u := ⟨n.toNat, by omega⟩
    exact decimal_nat u (by omega) w
  · obtain ⟨u, rfl⟩ : ∃ u : Nat, n = -(u : Int) := ⟨n.natAbs, by omega⟩
    exact decimal_neg u (by omega) (by omega) w
end Go.Proofs.YtmijedghihebjaaGreatFmt
