import PyProof.Rows.All
import Wide.All
import OpenK.AllK
import Wide.FinOn
import Flt.RightMore
import PySem.Challenge.RW_mq0298_01
open PySem PySem.W PyProof.Rows
set_option Elab.async false
set_option maxRecDepth 100000
set_option maxHeartbeats 4000000
namespace Mine
section
set_option exponentiation.threshold 3000
theorem hLex {a b c : Int} {P Q R : Prop} (k : ¬ P → ¬ Q → ¬ R) (h0 : ¬ (a < b ∨ (a = b ∧ P))) (h1 : ¬ (c < a ∨ (c = a ∧ Q))) : ¬ (c < b ∨ (c = b ∧ R)) := by
  have a1 : b ≤ a := Int.not_lt.mp fun h => h0 (.inl h)
  have a2 : a ≤ c := Int.not_lt.mp fun h => h1 (.inl h)
  rintro (h | ⟨rfl, r⟩)
  · exact absurd (Int.lt_of_lt_of_le h (Int.le_trans a1 a2)) (Int.lt_irrefl _)
  · have e := Int.le_antisymm a2 a1
    subst e
    exact k (fun p => h0 (.inr ⟨rfl, p⟩)) (fun q => h1 (.inr ⟨rfl, q⟩)) r
theorem hNlt {a b c : Int} (p : ¬ a < b) (q : ¬ c < a) : ¬ c < b := Int.not_lt.mpr (Int.le_trans (Int.not_lt.mp p) (Int.not_lt.mp q))
theorem hMax {a b c : Int} (h1 : b ≤ a) (h2 : c ≤ a) : max (max a b) c = a := by rw [Int.max_eq_left h1, Int.max_eq_left h2]
theorem hMin {a b c : Int} (h1 : a ≤ b) (h2 : a ≤ c) : min (min a b) c = a := by rw [Int.min_eq_left h1, Int.min_eq_left h2]
theorem hSub {m a b : Int} (k : Int) (h : a ≤ b) (hk : 0 ≤ k := by decide) : m - b * k ≤ m - a * k := Int.sub_le_sub_left (Int.mul_le_mul_of_nonneg_right h hk) _
theorem hZ {m x k : Int} : m - x * 0 * k = m := by rw [Int.mul_zero, Int.zero_mul, Int.sub_zero]
theorem hTo {x m : Int} (h0 : -1074 ≤ m) (h1 : m ≤ x) : (x - m).toNat + (m + 1074).toNat = (x + 1074).toNat := by lia
theorem hAdd {x y : Int} {n m k : Nat} (h0 : x.natAbs < n) (h1 : y.natAbs < m) (h : n + m ≤ k) : (x + y).natAbs < k := Nat.lt_of_lt_of_le (Nat.lt_of_le_of_lt (Int.natAbs_add_le ..) (Nat.add_lt_add h0 h1)) h
theorem hAbs {x : Int} {n : Nat} (h0 : -(n : Int) < x) (h1 : x < n) : x.natAbs < n := by omega
theorem hFall {x : Int} : 0 ≤ min (max x 0) 1024 ∧ min (max x 0) 1024 ≤ 1024 := ⟨Int.le_min.mpr ⟨Int.le_max_right _ _, by decide⟩, Int.min_le_right _ _⟩
theorem hMx {a b c m : Int} (h : max (max a b) c = m) : a ≤ m ∧ b ≤ m ∧ c ≤ m := h ▸ ⟨Int.le_trans (Int.le_max_left _ _) (Int.le_max_left _ _), Int.le_trans (Int.le_max_right _ _) (Int.le_max_left _ _), Int.le_max_right _ _⟩
theorem hMn {a b c m : Int} (h : min (min a b) c = m) : m ≤ a ∧ m ≤ b ∧ m ≤ c := h ▸ ⟨Int.le_trans (Int.min_le_left _ _) (Int.min_le_left _ _), Int.le_trans (Int.min_le_left _ _) (Int.min_le_right _ _), Int.min_le_right _ _⟩
theorem hMd {x y z a : Int} (e : y + z = a) : ((x - y) % 1024 - z) % 1024 = (x - a) % 1024 := by rw [Int.emod_sub_emod, Int.sub_sub, e]
theorem hD1 {x : Int} : (-(-(16 * x))) / ((1 : Nat) : Int) = 16 * x := by lia
theorem hD2 {x : Int} : (-(-(16 * x))) / ((2 : Nat) : Int) = 8 * x := by lia
theorem hD4 {x : Int} : (-(-(16 * x))) / ((4 : Nat) : Int) = 4 * x := by lia
theorem hD8 {x : Int} : (-(-(16 * x))) / ((8 : Nat) : Int) = 2 * x := by lia
theorem hQ {x y a q k b : Int} (hq : q = b * y) (h : a = k * b) : (x - -(a * y)) % 1024 = (x + k * q) % 1024 := by rw [hq, h, Int.sub_neg, Int.mul_assoc]
theorem hQ2 {x y a c q k b : Int} (hq : q = b * y) (h : a + c = k * b) : ((x - -(a * y)) % 1024 - -(c * y)) % 1024 = (x + k * q) % 1024 := by
  rw [Int.emod_sub_emod, Int.sub_neg, Int.sub_neg, Int.add_assoc, ← Int.add_mul, h, hq, Int.mul_assoc]
theorem hQ3 {x y a c d q k b : Int} (hq : q = b * y) (h : a + c + d = k * b) : (((x - -(a * y)) % 1024 - -(c * y)) % 1024 - -(d * y)) % 1024 = (x + k * q) % 1024 := by
  rw [Int.emod_sub_emod, Int.sub_sub, Int.emod_sub_emod, Int.sub_neg, ← Int.neg_add, Int.sub_neg, Int.add_assoc, ← Int.add_mul, ← Int.add_mul, ← Int.add_assoc, h, hq, Int.mul_assoc]
theorem hM0 {x q : Int} (h0 : 0 ≤ x) (h1 : x < 1024) : x = (x + ((0 : Nat) : Int) * q) % 1024 := by
  rw [show ((0 : Nat) : Int) = 0 from rfl, Int.zero_mul, Int.add_zero, Int.emod_eq_of_lt h0 h1]
theorem hAs {a b : Int} {P Q : Prop} (k : P → ¬ Q) (h : a < b ∨ (a = b ∧ P)) : ¬ (b < a ∨ (b = a ∧ Q)) := by
  rcases h with h | ⟨rfl, p⟩
  · rintro (h' | ⟨rfl, _⟩)
    · exact absurd (Int.lt_trans h h') (Int.lt_irrefl _)
    · exact absurd h (Int.lt_irrefl _)
  · rintro (h' | ⟨_, q⟩)
    · exact absurd h' (Int.lt_irrefl _)
    · exact k p q
theorem hAs0 {a b : Int} (h : a < b) : ¬ b < a := Int.not_lt.mpr (Int.le_of_lt h)
theorem hAb {x k : Int} {n : Nat} (h0 : 0 ≤ x) (h1 : x ≤ k) (h : k < n) : x.natAbs < n := hAbs (Int.lt_of_lt_of_le (Int.neg_neg_of_pos (Int.lt_of_le_of_lt (Int.le_trans h0 h1) h)) h0) (Int.lt_of_le_of_lt h1 h)
theorem hAn {x k : Int} {n : Nat} (h0 : -k ≤ x) (h1 : x ≤ k) (h : k < n) : x.natAbs < n := hAbs (Int.lt_of_lt_of_le (Int.neg_lt_neg h) h0) (Int.lt_of_le_of_lt h1 h)
theorem hNn {x : Int} {n m : Nat} (h : x.natAbs < n) (e : n ≤ m) : x.natAbs < m := Nat.lt_of_lt_of_le h e
theorem zq0 {x0 : Nat} {x1 : Nat} {x2 : Nat} (h0 : ((x0 + (x1 + (1 : Nat))) < x2)) : (x0 < x2) := by omega
theorem zq1 {x0 : Nat} {x1 : Nat} {x2 : Nat} (h0 : ((x0 + (x1 + (1 : Nat))) < x2)) : (((x0 + (1 : Nat)) + x1) < x2) := by lia
theorem zq2 {x0 : Nat} {x1 : Nat} {x2 : Nat} (h0 : ((x0 + ((20 : Nat) * (x1 + (1 : Nat)))) < x2)) : (((x0 + (3 : Nat)) + ((20 : Nat) * x1)) < x2) := by lia
theorem zq3 {x0 : Nat} (h0 : ((1 : Nat) ≤ x0)) : (((((x0 : Nat) : Int) - (1 : Int)) / (2 : Int)) = ((((x0 - (1 : Nat)) / (2 : Nat)) : Nat) : Int)) := by lia
theorem zq4 {x0 : Nat} : ((0 : Int) ≤ ((x0 : Nat) : Int)) := by lia
theorem zq5 {x0 : Nat} {x1 : Nat} (h0 : (x0 < x1)) (h1 : (x1 < (1000 : Nat))) : (((x0 : Nat) : Int) < ((2 : Int) ^ (63 : Nat))) := by omega
theorem zq6 {x0 : Nat} {x1 : Nat} (h0 : (x0 < x1)) : (((x0 : Nat) : Int) < ((x1 : Nat) : Int)) := by omega
theorem zq7 {x0 : Nat} {x1 : Nat} {x2 : Nat} (h0 : ((1 : Nat) ≤ x0)) (h1 : ((x1 + ((20 : Nat) * x0)) < x2)) : ((x1 + (10 : Nat)) < x2) := by lia
theorem zq8 {x0 : Nat} (h0 : (x0 < (1000 : Nat))) : (((x0 : Nat) : Int) < ((2 : Int) ^ (63 : Nat))) := by lia
theorem zq9 {x0 : Nat} {x1 : Nat} (h0 : (¬ (x0 < x1))) : (x1 ≤ x0) := by omega
theorem zq10 {x0 : Int} (h0 : (¬ ((0 : Int) < x0))) : (x0 ≤ (0 : Int)) := by omega
theorem zq11 {x0 : Nat} : (x0 ≤ ((x0 + (1 : Nat)) + (1 : Nat))) := by lia
theorem zq12 {x0 : Nat} (h0 : (x0 < (1000 : Nat))) : ((-((2 : Int) ^ (62 : Nat))) ≤ ((x0 : Nat) : Int)) := by lia
theorem zq13 {x0 : Nat} (h0 : (x0 < (1000 : Nat))) : (((x0 : Nat) : Int) < ((2 : Int) ^ (62 : Nat))) := by omega
theorem zq14 {x0 : Nat} : ((((x0 : Nat) : Int) - (0 : Int)) = ((x0 : Nat) : Int)) := by lia
theorem zq15 {x0 : Nat} (h0 : (x0 < (1000 : Nat))) (h1 : (¬ ((0 : Int) < ((x0 : Nat) : Int)))) : ((0 : Int) = ((x0 : Nat) : Int)) := by lia
theorem zq16 {x0 : Nat} {x1 : Int} (h0 : (x0 < (1000 : Nat))) (h1 : (x1 = ((x0 : Nat) : Int))) : ((((((((-((2 : Int) ^ (63 : Nat))) ≤ (0 : Int)) ∧ ((0 : Int) < ((2 : Int) ^ (63 : Nat)))) ∧ (((-((2 : Int) ^ (63 : Nat))) ≤ ((x0 : Nat) : Int)) ∧ (((x0 : Nat) : Int) < ((2 : Int) ^ (63 : Nat))))) ∧ (((-((2 : Int) ^ (63 : Nat))) ≤ (1 : Int)) ∧ ((1 : Int) < ((2 : Int) ^ (63 : Nat))))) ∧ (((-((2 : Int) ^ (63 : Nat))) ≤ (-(1 : Int))) ∧ ((-(1 : Int)) < ((2 : Int) ^ (63 : Nat))))) ∧ (((-((2 : Int) ^ (63 : Nat))) ≤ ((0 : Int) - (1 : Int))) ∧ (((0 : Int) - (1 : Int)) < ((2 : Int) ^ (63 : Nat))))) ∧ (((-((2 : Int) ^ (63 : Nat))) ≤ ((x0 : Nat) : Int)) ∧ (((x0 : Nat) : Int) < ((2 : Int) ^ (63 : Nat))))) := by lia
theorem zq18 {x0 : Nat} : (((0 : Int) + ((((x0 : Nat) : Int) - (1 : Int)) * (1 : Int))) = (((x0 : Nat) : Int) - (1 : Int))) := by lia
theorem zq19 {x0 : Nat} (h0 : (x0 < (1000 : Nat))) : (x0 ≤ (16777216 : Nat)) := by lia
theorem zq20 {x0 : Nat} (h0 : (x0 < (1000 : Nat))) : ((x0 + (1 : Nat)) ≤ (16777216 : Nat)) := by lia
theorem zq21 {x0 : Nat} : ((((x0 : Nat) : Int) / (2 : Int)) = (((x0 / (2 : Nat)) : Nat) : Int)) := by lia
theorem zq22 {x0 : Nat} (h0 : ((1 : Nat) ≤ x0)) : ((((x0 : Nat) : Int) - (1 : Int)) = (((x0 - (1 : Nat)) : Nat) : Int)) := by lia
theorem zq23 {x0 : Int} (h0 : ((Int.natAbs x0) < ((2 : Nat) ^ (50 : Nat)))) : ((Int.natAbs x0) < ((2 : Nat) ^ (53 : Nat))) := by lia
theorem zq24 {x0 : Int} {x1 : Int} (h0 : ((Int.natAbs x0) < ((2 : Nat) ^ (50 : Nat)))) (h1 : ((Int.natAbs x1) < ((2 : Nat) ^ (50 : Nat)))) : ((Int.natAbs (x0 + x1)) < ((2 : Nat) ^ (53 : Nat))) := hAdd h0 h1 (by decide)
theorem zq25 {x0 : Int} {x1 : Int} (h0 : ((Int.natAbs x0) < ((2 : Nat) ^ (50 : Nat)))) (h1 : ((Int.natAbs x1) < ((2 : Nat) ^ (50 : Nat)))) : ((Int.natAbs (x0 - x1)) < ((2 : Nat) ^ (53 : Nat))) := hAdd h0 (Int.natAbs_neg x1 ▸ h1) (by decide)
theorem zq26 {x0 : Int} (h0 : ((0 : Int) < x0)) (h1 : (x0 = (0 : Int))) : False := by omega
theorem zq27 {x0 : Int} (h0 : ((0 : Int) < x0)) : (¬ (x0 < (0 : Int))) := by lia
theorem zq28 {x0 : Int} (h0 : ((0 : Int) < x0)) : ((0 : Int) ≤ x0) := by lia
theorem zq29 {x0 : Int} (h0 : (¬ (x0 < (0 : Int)))) : ((0 : Int) ≤ x0) := by omega
theorem zq30 {x0 : Int} {x1 : Int} {x2 : Int} (h0 : ((x0 * ((2 : Int) ^ (30 : Nat))) = x1)) (h1 : (x0 < (0 : Int))) (h2 : ((0 : Int) ≤ x1)) : (x2 < (0 : Int)) := by lia
theorem zq31 {x0 : Int} {x1 : Int} (h0 : ((x0 * ((2 : Int) ^ (30 : Nat))) = x1)) (h1 : (x1 < (0 : Int))) : (x0 < (0 : Int)) := by lia
theorem zq32 {x0 : Int} (h0 : ((0 : Int) < x0)) : ((0 : Nat) < (Int.natAbs x0)) := by omega
theorem zq33 {x0 : Int} {x1 : Int} (h0 : ((Int.natAbs x0) < ((2 : Nat) ^ (50 : Nat)))) (h1 : (x0 = ((2 : Int) * x1))) (h2 : ((2 : Int) ≠ (0 : Int))) : ((Int.natAbs x1) < ((2 : Nat) ^ (53 : Nat))) := hNn (n := 2 ^ 50) (Nat.lt_of_le_of_lt (by rw [h1, Int.natAbs_mul]; exact Nat.le_mul_of_pos_left _ (by decide)) h0) (by decide)
theorem zq34 {x0 : Int} {x1 : Int} (h0 : (x0 = ((2 : Int) * x1))) : ((x0 * ((2 : Int) ^ (30 : Nat))) = (((2 : Int) * ((2 : Int) ^ (30 : Nat))) * x1)) := by lia
theorem zq35 {x0 : Int} {x1 : Int} (h0 : (x0 = ((2 : Int) * x1))) (h1 : (x0 < (0 : Int))) : (x1 < (0 : Int)) := by omega
theorem zq36 {x0 : Int} {x1 : Int} (h0 : (x0 = ((2 : Int) * x1))) (h1 : (¬ (x0 < (0 : Int)))) : (¬ (x1 < (0 : Int))) := by lia
theorem zq37 {x0 : Int} : ((x0 * ((2 : Int) ^ (30 : Nat))) = (x0 * (1073741824 : Int))) := by lia
theorem zq38 {x0 : Int} (h0 : ((Int.natAbs x0) < ((2 : Nat) ^ (19 : Nat)))) : ((Int.natAbs x0) < ((2 : Nat) ^ (23 : Nat))) := by omega
theorem zq39 {x0 : Int} (h0 : ((Int.natAbs x0) < ((2 : Nat) ^ (19 : Nat)))) : ((Int.natAbs (x0 * ((2 : Int) ^ (30 : Nat)))) < ((2 : Nat) ^ (53 : Nat))) := by rw [Int.natAbs_mul]; exact Nat.lt_of_lt_of_le (Nat.mul_lt_mul_of_pos_right h0 (by decide)) (by decide)
theorem zq40 {x0 : Int} {x1 : Int} (h0 : ((Int.natAbs x0) < ((2 : Nat) ^ (50 : Nat)))) (h1 : ((Int.natAbs x1) < ((2 : Nat) ^ (19 : Nat)))) : ((Int.natAbs (x0 - (x1 * ((2 : Int) ^ (30 : Nat))))) < ((2 : Nat) ^ (53 : Nat))) := hAdd h0 (m := 2 ^ 49) (by rw [Int.natAbs_neg, Int.natAbs_mul]; exact Nat.mul_lt_mul_of_pos_right h1 (by decide)) (by decide)
theorem zq41 {x0 : Int} {x1 : Int} {x2 : Int} (h0 : (x0 < x1)) (h1 : (x1 < x2)) : (x2 = (max (max x0 x1) x2)) := by lia
theorem zq42 {x0 : Int} {x1 : Int} {x2 : Int} (h0 : (x0 < x1)) (h1 : (¬ (x1 < x2))) : (x1 = (max (max x0 x1) x2)) := by lia
theorem zq43 {x0 : Int} {x1 : Int} {x2 : Int} (h0 : (¬ (x0 < x1))) (h1 : (x0 < x2)) : (x2 = (max (max x0 x1) x2)) := by rw [Int.max_eq_left (Int.not_lt.mp h0), Int.max_eq_right (Int.le_of_lt h1)]
theorem zq44 {x0 : Int} {x1 : Int} {x2 : Int} (h0 : (¬ (x0 < x1))) (h1 : (¬ (x0 < x2))) : (x0 = (max (max x0 x1) x2)) := (hMax (Int.not_lt.mp h0) (Int.not_lt.mp h1)).symm
theorem zq45 {x0 : Int} {x1 : Int} {x2 : Int} (h0 : (x0 < x1)) (h1 : (x2 < x0)) : (x2 = (min (min x1 x0) x2)) := by lia
theorem zq46 {x0 : Int} {x1 : Int} {x2 : Int} (h0 : (x0 < x1)) (h1 : (¬ (x2 < x0))) : (x0 = (min (min x1 x0) x2)) := by rw [Int.min_eq_right (Int.le_of_lt h0), Int.min_eq_left (Int.not_lt.mp h1)]
theorem zq47 {x0 : Int} {x1 : Int} {x2 : Int} (h0 : (¬ (x0 < x1))) (h1 : (x2 < x1)) : (x2 = (min (min x1 x0) x2)) := by rw [Int.min_eq_left (Int.not_lt.mp h0), Int.min_eq_right (Int.le_of_lt h1)]
theorem zq48 {x0 : Int} {x1 : Int} {x2 : Int} (h0 : (¬ (x0 < x1))) (h1 : (¬ (x2 < x1))) : (x1 = (min (min x1 x0) x2)) := by lia
theorem zq49 {x0 : Nat} (h0 : ((x0 + (1 : Nat)) < x0)) : False := by lia
theorem zq50 {x0 : Int} (h0 : ((Int.natAbs x0) = (0 : Nat))) : (x0 = (0 : Int)) := by lia
theorem zq51 {x0 : Nat} (h0 : (x0 < (60 : Nat))) : ((x0 + (1 : Nat)) ≤ (64 : Nat)) := by lia
theorem zq52 {x0 : Int} {x1 : Int} (h0 : ((0 : Int) ≤ x0)) (h1 : (x0 ≤ x1)) : ((0 : Int) ≤ x1) := by lia
theorem zq53 {x0 : Int} (h0 : ((0 : Int) < x0)) : (x0 ≠ (0 : Int)) := by omega
theorem zq54 {x0 : Int} {x1 : Int} (h0 : (x0 < x1)) : (x0 = (min x1 x0)) := by lia
theorem zq55 {x0 : Int} {x1 : Int} (h0 : (¬ (x0 < x1))) : (x1 = (min x1 x0)) := by lia
theorem zq56 {x0 : Int} {x1 : Int} (h0 : (x0 > x1)) : (x0 = (max x1 x0)) := by lia
theorem zq57 {x0 : Int} {x1 : Int} (h0 : (¬ (x0 > x1))) : (x1 = (max x1 x0)) := by lia
theorem zq58 {x0 : Nat} (h0 : (x0 < (1000 : Nat))) : (x0 ≤ (16384 : Nat)) := by lia
theorem zq59 {x0 : Int} {x1 : Int} : (((0 : Int) ≤ (min (max ((min ((((6 : Int) * x0) - x1) % (6144 : Int)) ((6144 : Int) - ((((6 : Int) * x0) - x1) % (6144 : Int)))) - (1024 : Int)) (0 : Int)) (1024 : Int))) ∧ ((min (max ((min ((((6 : Int) * x0) - x1) % (6144 : Int)) ((6144 : Int) - ((((6 : Int) * x0) - x1) % (6144 : Int)))) - (1024 : Int)) (0 : Int)) (1024 : Int)) ≤ (1024 : Int))) := hFall
theorem zq60 {x0 : Int} (h0 : (((1 : Int) ≤ x0) ∧ (x0 ≤ (8 : Int)))) : ((0 : Int) ≤ x0) := by omega
theorem zq61 {x0 : Int} (h0 : (((1 : Int) ≤ x0) ∧ (x0 ≤ (8 : Int)))) : (x0 ≤ (8 : Int)) := by lia
theorem zq62 {x0 : Int} (h0 : (((0 : Int) ≤ x0) ∧ (x0 ≤ ((8 : Int) * (1024 : Int))))) : ((0 : Int) ≤ ((8192 : Int) - x0)) := by lia
theorem zq63 {x0 : Int} (h0 : (((0 : Int) ≤ x0) ∧ (x0 ≤ ((8 : Int) * (1024 : Int))))) : (((8192 : Int) - x0) ≤ (8192 : Int)) := by lia
theorem zq64 {x0 : Int} (h0 : (((0 : Int) ≤ x0) ∧ (x0 ≤ ((8 : Int) * (8192 : Int))))) : (((0 : Int) ≤ (x0 * (16384 : Int))) ∧ ((x0 * (16384 : Int)) ≤ (1073741824 : Int))) := by lia
theorem zq66 {x0 : Nat} {x1 : Nat} (h0 : (x0 < x1)) (h1 : (((x0 - (1 : Nat)) / (2 : Nat)) < x0)) : (((x0 - (1 : Nat)) / (2 : Nat)) < x1) := by lia
theorem zq67 {x0 : Nat} {x1 : Nat} {x2 : Nat} (h0 : (x0 < x1)) (h1 : (((x0 - (1 : Nat)) / (2 : Nat)) < x0)) (h2 : (x2 = x1)) : (((x0 - (1 : Nat)) / (2 : Nat)) < x1) := by lia
theorem zq68 {x0 : Nat} (h0 : (((x0 - (1 : Nat)) / (2 : Nat)) < x0)) : (x0 ≠ ((x0 - (1 : Nat)) / (2 : Nat))) := by lia
theorem zq69 {x0 : Nat} {x1 : Nat} {x2 : Nat} (h0 : ((x0 - x1) = x2)) (h1 : (x1 < x0)) : ((x0 - (((2 : Nat) * x1) + (2 : Nat))) < x2) := by omega
theorem zq72 {x0 : Nat} : (x0 ≠ (((2 : Nat) * x0) + (2 : Nat))) := by lia
theorem zq73 {x0 : Nat} {x1 : Nat} {x2 : Nat} (h0 : ((x0 - x1) = x2)) (h1 : (x1 < x0)) (h2 : ((((2 : Nat) * x1) + (1 : Nat)) < x0)) : ((x0 - (((2 : Nat) * x1) + (1 : Nat))) < x2) := by lia
theorem zq74 {x0 : Nat} : (x0 ≠ (((2 : Nat) * x0) + (1 : Nat))) := by lia
theorem zq75 {x0 : Nat} {x1 : Nat} (h0 : (¬ ((((2 : Nat) * x0) + (1 : Nat)) < x1))) : (x1 ≤ (((2 : Nat) * x0) + (1 : Nat))) := by lia
theorem zq76 {x0 : Nat} {x1 : Nat} {x2 : Nat} (h0 : (x0 < x1)) (h1 : (x2 = x1)) : (x0 < x2) := by omega
theorem zq77 {x0 : Nat} {x1 : Nat} (h0 : ((0 : Nat) < x0)) (h1 : (x1 ≤ ((x0 - (1 : Nat)) / (2 : Nat)))) : (x1 ≤ x0) := by lia
theorem zq78 {x0 : Nat} (h0 : (x0 < x0)) : False := by lia
theorem zq79 {x0 : Nat} {x1 : Nat} {x2 : Nat} (h0 : (x0 ≤ ((x1 - (1 : Nat)) / (2 : Nat)))) (h1 : (((x2 - (1 : Nat)) / (2 : Nat)) = ((x1 - (1 : Nat)) / (2 : Nat)))) : (x0 ≤ ((x2 - (1 : Nat)) / (2 : Nat))) := by lia
theorem zq80 {x0 : Nat} {x1 : Nat} (h0 : (((x0 - (1 : Nat)) / (2 : Nat)) < x0)) (h1 : (((x1 - (1 : Nat)) / (2 : Nat)) = ((x0 - (1 : Nat)) / (2 : Nat)))) : (((x1 - (1 : Nat)) / (2 : Nat)) ≠ x0) := by omega
theorem zq81 {x0 : Nat} {x1 : Nat} (h0 : (((x0 - (1 : Nat)) / (2 : Nat)) < x0)) (h1 : ((0 : Nat) < x1)) (h2 : (x1 ≠ ((x0 - (1 : Nat)) / (2 : Nat)))) (h3 : (((x1 - (1 : Nat)) / (2 : Nat)) ≠ ((x0 - (1 : Nat)) / (2 : Nat)))) (h4 : (((x1 - (1 : Nat)) / (2 : Nat)) = x0)) : (x0 ≠ x1) := by lia
theorem zq82 {x0 : Nat} {x1 : Nat} (h0 : (¬ (x0 = x1))) : (x1 ≠ x0) := by lia
theorem zq83 {x0 : Nat} {x1 : Nat} (h0 : (¬ (((x0 - (1 : Nat)) / (2 : Nat)) = x1))) (h1 : (¬ (x0 = x1))) : (x1 ≠ ((x0 - (1 : Nat)) / (2 : Nat))) := by lia
theorem zq84 {x0 : Nat} {x1 : Nat} (h0 : (((x0 - (1 : Nat)) / (2 : Nat)) < x0)) (h1 : (((x1 - (1 : Nat)) / (2 : Nat)) = ((x0 - (1 : Nat)) / (2 : Nat)))) : (x0 ≠ ((((x0 - (1 : Nat)) / (2 : Nat)) - (1 : Nat)) / (2 : Nat))) := by omega
theorem zq85 {x0 : Nat} {x1 : Nat} {x2 : Nat} (h0 : (x0 < ((x1 - (1 : Nat)) / (2 : Nat)))) (h1 : (((x2 - (1 : Nat)) / (2 : Nat)) = ((x1 - (1 : Nat)) / (2 : Nat)))) : ((0 : Nat) < ((x1 - (1 : Nat)) / (2 : Nat))) := by lia
theorem zq86 {x0 : Nat} {x1 : Nat} (h0 : (((x0 - (1 : Nat)) / (2 : Nat)) < x0)) (h1 : (((x1 - (1 : Nat)) / (2 : Nat)) = ((x0 - (1 : Nat)) / (2 : Nat)))) : (((x0 - (1 : Nat)) / (2 : Nat)) ≠ x0) := by lia
theorem zq87 {x0 : Nat} {x1 : Nat} (h0 : (((x0 - (1 : Nat)) / (2 : Nat)) < x0)) (h1 : (((x1 - (1 : Nat)) / (2 : Nat)) = ((x0 - (1 : Nat)) / (2 : Nat)))) : (((((x0 - (1 : Nat)) / (2 : Nat)) - (1 : Nat)) / (2 : Nat)) ≠ x0) := by lia
theorem zq88 {x0 : Nat} {x1 : Nat} (h0 : ((0 : Nat) < x0)) (h1 : (x1 ≤ x0)) : (x0 ≠ ((x0 - (1 : Nat)) / (2 : Nat))) := by lia
theorem zq89 {x0 : Nat} {x1 : Nat} (h0 : ((0 : Nat) < x0)) (h1 : (x1 ≤ ((x0 - (1 : Nat)) / (2 : Nat)))) (h2 : (x1 ≤ x0)) : (x1 < x0) := by lia
theorem zq90 {x0 : Nat} {x1 : Nat} (h0 : (¬ (x0 = x1))) (h1 : (((x0 - (1 : Nat)) / (2 : Nat)) = x1)) : (x1 ≠ x0) := by lia
theorem zq91 {x0 : Nat} {x1 : Nat} (h0 : (¬ (x0 = x1))) (h1 : (¬ (((x0 - (1 : Nat)) / (2 : Nat)) = x1))) : (x1 ≠ x0) := by lia
theorem zq92 {x0 : Nat} {x1 : Nat} (h0 : (¬ (((x0 - (1 : Nat)) / (2 : Nat)) = x1))) : (x1 ≠ ((x0 - (1 : Nat)) / (2 : Nat))) := by lia
theorem zq93 {x0 : Nat} {x1 : Nat} {x2 : Nat} (h0 : ((0 : Nat) < x0)) (h1 : ((0 : Nat) < x1)) (h2 : (x1 < x2)) (h3 : (x1 ≠ x0)) (h4 : (((x1 - (1 : Nat)) / (2 : Nat)) ≠ x0)) (h5 : (((x0 - (1 : Nat)) / (2 : Nat)) = x1)) : (x1 ≠ ((x1 - (1 : Nat)) / (2 : Nat))) := by lia
theorem zq94 {x0 : Nat} {x1 : Nat} {x2 : Nat} {x3 : Nat} (h0 : ((0 : Nat) < x0)) (h1 : ((0 : Nat) < x1)) (h2 : (x1 < x2)) (h3 : (x3 ≤ ((x1 - (1 : Nat)) / (2 : Nat)))) (h4 : (x1 ≠ x0)) (h5 : (((x1 - (1 : Nat)) / (2 : Nat)) ≠ x0)) (h6 : (((x0 - (1 : Nat)) / (2 : Nat)) = x1)) (h7 : (x3 ≤ x1)) : (x3 < x1) := by lia
theorem zq95 {x0 : Nat} {x1 : Nat} {x2 : Nat} (h0 : (((x0 - (1 : Nat)) / (2 : Nat)) = x1)) (h1 : (¬ (x2 = x1))) (h2 : (((x2 - (1 : Nat)) / (2 : Nat)) = x1)) : (x1 ≠ x2) := by lia
theorem zq96 {x0 : Nat} {x1 : Nat} {x2 : Nat} (h0 : (((x0 - (1 : Nat)) / (2 : Nat)) = x1)) (h1 : (¬ (x2 = x1))) (h2 : (¬ (((x2 - (1 : Nat)) / (2 : Nat)) = x1))) : (x1 ≠ x2) := by lia
theorem zq97 {x0 : Nat} {x1 : Nat} {x2 : Nat} (h0 : (((x0 - (1 : Nat)) / (2 : Nat)) = x1)) (h1 : (¬ (((x2 - (1 : Nat)) / (2 : Nat)) = x1))) : (x1 ≠ ((x2 - (1 : Nat)) / (2 : Nat))) := by lia
theorem zq98 {x0 : Nat} {x1 : Nat} {x2 : Nat} (h0 : (((x0 - (1 : Nat)) / (2 : Nat)) = x1)) (h1 : ((0 : Nat) < x0)) (h2 : ((0 : Nat) < x2)) (h3 : (((x2 - (1 : Nat)) / (2 : Nat)) = x0)) : (x1 ≠ x2) := by omega
theorem zq99 {x0 : Nat} {x1 : Nat} {x2 : Nat} (h0 : (x0 < x1)) (h1 : (((x2 - (1 : Nat)) / (2 : Nat)) = x1)) : (x0 ≤ ((x2 - (1 : Nat)) / (2 : Nat))) := by lia
theorem zq100 {x0 : Nat} {x1 : Nat} {x2 : Nat} (h0 : (((x0 - (1 : Nat)) / (2 : Nat)) = x1)) (h1 : ((0 : Nat) < x0)) (h2 : ((0 : Nat) < x2)) (h3 : (((x2 - (1 : Nat)) / (2 : Nat)) = x0)) : (x2 ≠ x1) := by lia
theorem zq101 {x0 : Nat} {x1 : Nat} {x2 : Nat} (h0 : (((x0 - (1 : Nat)) / (2 : Nat)) = x1)) (h1 : ((0 : Nat) < x0)) (h2 : ((0 : Nat) < x2)) (h3 : (((x2 - (1 : Nat)) / (2 : Nat)) = x0)) : (((x2 - (1 : Nat)) / (2 : Nat)) ≠ x1) := by omega
theorem zq102 {x0 : Nat} : ((((((2 : Nat) * x0) + (2 : Nat)) - (1 : Nat)) / (2 : Nat)) = x0) := by lia
theorem zq103 {x0 : Nat} : ((0 : Nat) < (((2 : Nat) * x0) + (2 : Nat))) := by lia
theorem zq104 {x0 : Nat} {x1 : Nat} (h0 : ((0 : Nat) < x0)) (h1 : (((x0 - (1 : Nat)) / (2 : Nat)) = x1)) : ((x0 = (((2 : Nat) * x1) + (1 : Nat))) ∨ (x0 = (((2 : Nat) * x1) + (2 : Nat)))) := by lia
theorem zq105 {x0 : Nat} : ((((((2 : Nat) * x0) + (1 : Nat)) - (1 : Nat)) / (2 : Nat)) = x0) := by lia
theorem zq106 {x0 : Nat} : ((0 : Nat) < (((2 : Nat) * x0) + (1 : Nat))) := by lia
theorem zq107 {x0 : Nat} {x1 : Nat} (h0 : (x0 ≤ ((x1 - (1 : Nat)) / (2 : Nat)))) (h1 : (((x1 - (1 : Nat)) / (2 : Nat)) ≠ x0)) : ((x0 + (1 : Nat)) ≤ ((x1 - (1 : Nat)) / (2 : Nat))) := by lia
theorem zq108 {x0 : Nat} {x1 : Nat} (h0 : (x0 ≠ x1)) (h1 : (((x0 - (1 : Nat)) / (2 : Nat)) ≠ x1)) : (x1 ≠ x0) := by lia
theorem zq109 {x0 : Nat} {x1 : Nat} (h0 : (((x0 - (1 : Nat)) / (2 : Nat)) ≠ x1)) : (x1 ≠ ((x0 - (1 : Nat)) / (2 : Nat))) := by lia
theorem zq110 {x0 : Nat} {x1 : Nat} {x2 : Nat} (h0 : (x0 ≤ (((2 : Nat) * x1) + (1 : Nat)))) (h1 : ((0 : Nat) < x2)) (h2 : (x2 < x0)) (h3 : (((x2 - (1 : Nat)) / (2 : Nat)) = x1)) : False := by lia
theorem zq111 {x0 : Nat} (h0 : (¬ (x0 = (0 : Nat)))) : ((0 : Nat) < x0) := by lia
theorem zq112 {x0 : Nat} (h0 : (¬ (x0 = (0 : Nat)))) : (((x0 - (1 : Nat)) / (2 : Nat)) < x0) := by lia
theorem zq113 {x0 : Nat} {x1 : Nat} (h0 : (x0 < (x1 + (1 : Nat)))) (h1 : (x0 ≠ x1)) (h2 : (((x0 - (1 : Nat)) / (2 : Nat)) ≠ x1)) : (x0 < x1) := by lia
theorem zq114 {x0 : Nat} {x1 : Nat} (h0 : ((0 : Nat) < x0)) (h1 : (x0 < (x1 + (1 : Nat)))) (h2 : (x0 ≠ x1)) (h3 : (((x0 - (1 : Nat)) / (2 : Nat)) ≠ x1)) : (((x0 - (1 : Nat)) / (2 : Nat)) < x1) := by omega
theorem zq115 {x0 : Nat} {x1 : Nat} (h0 : ((0 : Nat) < x0)) (h1 : (x0 < (x1 + (1 : Nat)))) (h2 : (((x0 - (1 : Nat)) / (2 : Nat)) = x1)) : False := by lia
theorem zq116 {x0 : Nat} {x1 : Nat} (h0 : (x0 < x1)) : (((x0 - (1 : Nat)) / (2 : Nat)) < x1) := by omega
theorem zq117 {x0 : Nat} : ((0 : Nat) ≤ ((x0 - (1 : Nat)) / (2 : Nat))) := by lia
theorem zq118 {x0 : Nat} {x1 : Nat} (h0 : ((x0 + (1 : Nat)) ≤ x1)) : (x0 < x1) := by lia
theorem zq119 {x0 : Nat} {x1 : Nat} (h0 : ((x0 + (1 : Nat)) ≤ x1)) : (x0 ≤ x1) := by lia
theorem zq120 {x0 : Nat} {x1 : Nat} (h0 : ((0 : Nat) < x0)) (h1 : (x0 < x1)) (h2 : ((x1 / (2 : Nat)) ≤ ((x0 - (1 : Nat)) / (2 : Nat)))) : False := by lia
theorem zq121 {x0 : Nat} {x1 : Nat} (h0 : (x0 < x1)) : (((x1 - (1 : Nat)) / (2 : Nat)) < x1) := by lia
theorem zq122 {x0 : Nat} {x1 : Nat} {x2 : Nat} (h0 : (x0 = x1)) (h1 : (x2 < x1)) : (((x2 - (1 : Nat)) / (2 : Nat)) < x0) := by lia
theorem zq124 {x0 : Nat} {x1 : Nat} (h0 : ((((2 : Nat) * x0) + (1 : Nat)) < x1)) : ((x1 - (((2 : Nat) * x0) + (1 : Nat))) < (x1 - x0)) := by omega
theorem zq125 {x0 : Nat} {x1 : Nat} (h0 : ((((2 : Nat) * x0) + (2 : Nat)) < x1)) : ((((2 : Nat) * x0) + (1 : Nat)) < x1) := by lia
theorem zq126 {x0 : Nat} {x1 : Nat} (h0 : (x0 ≤ (((2 : Nat) * x1) + (1 : Nat)))) : (¬ ((((2 : Nat) * x1) + (1 : Nat)) < x0)) := by lia
theorem zq127 {x0 : Nat} : (((2 : Int) * ((x0 : Nat) : Int)) = ((((2 : Nat) * x0) : Nat) : Int)) := by lia
theorem zq128 {x0 : Nat} {x1 : Nat} {x2 : Nat} (h0 : ((x0 + x1) = x2)) (h1 : ((((2 : Nat) * x1) + (1 : Nat)) < x2)) : (((x2 - (((2 : Nat) * x1) + (1 : Nat))) < x0) ∧ (((x2 - (((2 : Nat) * x1) + (1 : Nat))) + (((2 : Nat) * x1) + (1 : Nat))) = x2)) := by lia
theorem zq129 {x0 : Nat} {x1 : Nat} {x2 : Nat} (h0 : ((x0 + x1) = x2)) (h1 : ((((2 : Nat) * x1) + (2 : Nat)) < x2)) : (((x2 - (((2 : Nat) * x1) + (2 : Nat))) < x0) ∧ (((x2 - (((2 : Nat) * x1) + (2 : Nat))) + (((2 : Nat) * x1) + (2 : Nat))) = x2)) := by omega
theorem zq130 {x0 : Nat} {x1 : Nat} (h0 : (x0 < (900 : Nat))) (h1 : (x1 = (x0 + (1 : Nat)))) : (x1 < (1000 : Nat)) := by lia
theorem zq131 {x0 : Nat} (h0 : (x0 < (900 : Nat))) : ((x0 / (2 : Nat)) < (1000 : Nat)) := by lia
theorem zq132 {x0 : Nat} {x1 : Nat} (h0 : ((x0 + (1 : Nat)) ≤ (x1 / (2 : Nat)))) : ((x0 < x1) ∧ (x0 ≤ (x1 / (2 : Nat)))) := by lia
theorem zq133 {x0 : Nat} : (((((x0 + (1 : Nat)) : Nat) : Int) - (1 : Int)) = ((x0 : Nat) : Int)) := by lia
theorem zq134 {x0 : Nat} : ((((((x0 + (1 : Nat)) : Nat) : Int) - (1 : Int)) + (-(1 : Int))) = (((x0 : Nat) : Int) - (1 : Int))) := by lia
theorem zq135 {x0 : Nat} (h0 : ((0 : Int) < ((x0 : Nat) : Int))) : (x0 = ((x0 - (1 : Nat)) + (1 : Nat))) := by lia
theorem zq136 {x0 : Nat} (h0 : (((x0 : Nat) : Int) ≤ (0 : Int))) : (x0 = (0 : Nat)) := by lia
theorem zq137 {x0 : Int} {x1 : Int} {x2 : Int} {x3 : Int} {x4 : Int} (h0 : (((0 : Int) ≤ x0) ∧ (x0 ≤ (1073741824 : Int)))) (h1 : (((0 : Int) ≤ x1) ∧ (x1 ≤ (1073741824 : Int)))) (h2 : (((0 : Int) ≤ x2) ∧ (x2 ≤ (1073741824 : Int)))) (h3 : ((max (max x0 x1) x2) = x3)) (h4 : ((min (min x0 x1) x2) = x4)) (h5 : (x4 < x3)) : (((0 : Int) ≤ x3) ∧ (x3 ≤ (1073741824 : Int))) := ⟨Int.le_trans h0.1 (hMx h3).1, h3 ▸ Int.max_le.mpr ⟨Int.max_le.mpr ⟨h0.2, h1.2⟩, h2.2⟩⟩
theorem zq138 {x0 : Int} {x1 : Int} {x2 : Int} {x3 : Int} {x4 : Int} (h0 : (((0 : Int) ≤ x0) ∧ (x0 ≤ (1073741824 : Int)))) (h1 : (((0 : Int) ≤ x1) ∧ (x1 ≤ (1073741824 : Int)))) (h2 : (((0 : Int) ≤ x2) ∧ (x2 ≤ (1073741824 : Int)))) (h3 : ((min (min x0 x1) x2) = x3)) (h4 : (x3 < x4)) (h5 : (((0 : Int) ≤ x4) ∧ (x4 ≤ (1073741824 : Int)))) : (((0 : Int) ≤ x3) ∧ (x3 ≤ (1073741824 : Int))) := ⟨h3 ▸ Int.le_min.mpr ⟨Int.le_min.mpr ⟨h0.1, h1.1⟩, h2.1⟩, Int.le_trans (Int.le_of_lt h4) h5.2⟩
theorem zq139 {x0 : Int} (h0 : (((0 : Int) ≤ x0) ∧ (x0 ≤ (1073741824 : Int)))) : ((Int.natAbs x0) < ((2 : Nat) ^ (53 : Nat))) := by lia
theorem zq140 {x0 : Int} (h0 : (((0 : Int) ≤ x0) ∧ (x0 ≤ (1073741824 : Int)))) : ((Int.natAbs x0) < ((2 : Nat) ^ (50 : Nat))) := by omega
theorem zq141 {x0 : Int} {x1 : Int} (h0 : (x0 < x1)) (h1 : (x0 = x1)) : (¬ (x0 = x1)) := by lia
theorem zq142 {x0 : Int} {x1 : Int} (h0 : (x0 < x1)) (h1 : (((0 : Int) ≤ x1) ∧ (x1 ≤ (1073741824 : Int)))) (h2 : (((0 : Int) ≤ x0) ∧ (x0 ≤ (1073741824 : Int)))) : ((Int.natAbs (x1 + x0)) < ((2 : Nat) ^ (53 : Nat))) := hAb (Int.add_nonneg h1.1 h2.1) (Int.add_le_add h1.2 h2.2) (by decide)
theorem zq143 {x0 : Int} {x1 : Int} (h0 : (x0 < x1)) (h1 : (((0 : Int) ≤ x1) ∧ (x1 ≤ (1073741824 : Int)))) (h2 : (((0 : Int) ≤ x0) ∧ (x0 ≤ (1073741824 : Int)))) : ((x1 + x0) ≠ (0 : Int)) := by lia
theorem zq144 {x0 : Nat} {x1 : Nat} {x2 : Nat} {x3 : Nat} (h0 : ((x0 + x1) ≤ x2)) (h1 : ((x2 + (1 : Nat)) ≤ x3)) : (x0 ≤ (((((((((((x3 + (1 : Nat)) + (1 : Nat)) + (1 : Nat)) + (1 : Nat)) + (1 : Nat)) + (1 : Nat)) + (1 : Nat)) + (1 : Nat)) + (1 : Nat)) + (1 : Nat)) + (1 : Nat))) := by lia
theorem zq145 {x0 : Int} (h0 : (((0 : Int) ≤ x0) ∧ (x0 ≤ (1073741824 : Int)))) : ((Int.natAbs ((2147483648 : Int) - x0)) < ((2 : Nat) ^ (50 : Nat))) := hAb (Int.sub_nonneg_of_le (Int.le_trans h0.2 (by decide))) (Int.sub_le_self _ h0.1) (by decide)
theorem zq146 {x0 : Int} {x1 : Int} (h0 : (x0 < x1)) (h1 : (((0 : Int) ≤ x1) ∧ (x1 ≤ (1073741824 : Int)))) (h2 : (((0 : Int) ≤ x0) ∧ (x0 ≤ (1073741824 : Int)))) : ((Int.natAbs (((2147483648 : Int) - x1) - x0)) < ((2 : Nat) ^ (53 : Nat))) := by omega
theorem zq147 {x0 : Int} {x1 : Int} (h0 : (x0 < x1)) (h1 : (((0 : Int) ≤ x1) ∧ (x1 ≤ (1073741824 : Int)))) (h2 : (((0 : Int) ≤ x0) ∧ (x0 ≤ (1073741824 : Int)))) : ((((2147483648 : Int) - x1) - x0) ≠ (0 : Int)) := by lia
theorem zq148 {x0 : Nat} {x1 : Nat} {x2 : Nat} {x3 : Nat} (h0 : ((x0 + x1) ≤ x2)) (h1 : ((x2 + (1 : Nat)) ≤ x3)) : (x0 ≤ ((((((((((((((x3 + (1 : Nat)) + (1 : Nat)) + (1 : Nat)) + (1 : Nat)) + (1 : Nat)) + (1 : Nat)) + (1 : Nat)) + (1 : Nat)) + (1 : Nat)) + (1 : Nat)) + (1 : Nat)) + (1 : Nat)) + (1 : Nat)) + (1 : Nat))) := by lia
theorem zq149 {x0 : Int} {x1 : Int} {x2 : Int} (h0 : (((0 : Int) ≤ x0) ∧ (x0 ≤ (1073741824 : Int)))) (h1 : (x1 < x2)) (h2 : (((0 : Int) ≤ x2) ∧ (x2 ≤ (1073741824 : Int)))) (h3 : (((0 : Int) ≤ x1) ∧ (x1 ≤ (1073741824 : Int)))) : ((Int.natAbs (x2 - x0)) < ((2 : Nat) ^ (53 : Nat))) := by omega
theorem zq150 {x0 : Int} {x1 : Int} (h0 : (x0 < x1)) (h1 : (((0 : Int) ≤ x1) ∧ (x1 ≤ (1073741824 : Int)))) (h2 : (((0 : Int) ≤ x0) ∧ (x0 ≤ (1073741824 : Int)))) : ((Int.natAbs (x1 - x0)) < ((2 : Nat) ^ (53 : Nat))) := hAb (Int.sub_nonneg_of_le (Int.le_of_lt h0)) (Int.le_trans (Int.sub_le_self _ h2.1) h1.2) (by decide)
theorem zq151 {x0 : Int} {x1 : Int} (h0 : (x0 < x1)) : ((x1 - x0) ≠ (0 : Int)) := by omega
theorem zq152 {x0 : Int} {x1 : Int} {x2 : Int} {x3 : Int} {x4 : Int} (h0 : ((max (max x0 x1) x2) = x3)) (h1 : ((min (min x0 x1) x2) = x4)) (h2 : (x4 < x3)) (h3 : (¬ (x4 = x3))) : (¬ ((x3 - x0) < (0 : Int))) := Int.not_lt.mpr (Int.sub_nonneg_of_le (hMx h0).1)
theorem zq153 {x0 : Int} {x1 : Int} (h0 : (x0 < x1)) : (¬ ((x1 - x0) < (0 : Int))) := by lia
theorem zq154 {x0 : Int} (h0 : (((0 : Int) ≤ x0) ∧ (x0 ≤ (1073741824 : Int)))) : (¬ (x0 < (0 : Int))) := by omega
theorem zq155 {x0 : Int} {x1 : Int} {x2 : Int} {x3 : Int} {x4 : Int} (h0 : ((max (max x0 x1) x2) = x3)) (h1 : ((min (min x0 x1) x2) = x4)) (h2 : (x4 < x3)) (h3 : (¬ (x4 = x3))) : (¬ ((x3 - x1) < (0 : Int))) := by lia
theorem zq156 {x0 : Int} {x1 : Int} {x2 : Int} {x3 : Int} {x4 : Int} (h0 : ((max (max x0 x1) x2) = x3)) (h1 : ((min (min x0 x1) x2) = x4)) (h2 : (x4 < x3)) (h3 : (¬ (x4 = x3))) : (¬ ((x3 - x2) < (0 : Int))) := by lia
theorem zq157 {x0 : Int} {x1 : Int} {x2 : Int} (h0 : (((0 : Int) ≤ x0) ∧ (x0 ≤ (1073741824 : Int)))) (h1 : ((x1 - x0) = ((6 : Int) * x2))) : ((Int.natAbs x0) < ((2 : Nat) ^ (50 : Nat))) := by lia
theorem zq158 {x0 : Nat} {x1 : Nat} (h0 : (x0 ≤ x1)) : (x0 ≤ (((((((((((x1 + (1 : Nat)) + (1 : Nat)) + (1 : Nat)) + (1 : Nat)) + (1 : Nat)) + (1 : Nat)) + (1 : Nat)) + (1 : Nat)) + (1 : Nat)) + (1 : Nat)) + (1 : Nat))) := by lia
theorem zq159 {x0 : Int} {x1 : Int} {x2 : Int} (h0 : (((0 : Int) ≤ x0) ∧ (x0 ≤ (1073741824 : Int)))) (h1 : ((((2147483648 : Int) + x0) - x1) = ((6 : Int) * x2))) : ((Int.natAbs x0) < ((2 : Nat) ^ (50 : Nat))) := by lia
theorem zq160 {x0 : Int} {x1 : Int} {x2 : Int} (h0 : (((0 : Int) ≤ x0) ∧ (x0 ≤ (1073741824 : Int)))) (h1 : ((((2147483648 : Int) + x0) - x1) = ((6 : Int) * x2))) : ((Int.natAbs ((2147483648 : Int) + x0)) < ((2 : Nat) ^ (50 : Nat))) := hAb (Int.add_nonneg (by decide) h0.1) (Int.add_le_add_left h0.2 _) (by decide)
theorem zq161 {x0 : Nat} {x1 : Nat} (h0 : (x0 ≤ x1)) : (x0 ≤ (((((((((((((x1 + (1 : Nat)) + (1 : Nat)) + (1 : Nat)) + (1 : Nat)) + (1 : Nat)) + (1 : Nat)) + (1 : Nat)) + (1 : Nat)) + (1 : Nat)) + (1 : Nat)) + (1 : Nat)) + (1 : Nat)) + (1 : Nat))) := by lia
theorem zq162 {x0 : Int} (h0 : (((0 : Int) ≤ x0) ∧ (x0 ≤ (1073741824 : Int)))) : ((Int.natAbs ((4294967296 : Int) + x0)) < ((2 : Nat) ^ (50 : Nat))) := hAb (Int.add_nonneg (by decide) h0.1) (Int.add_le_add_left h0.2 _) (by decide)
theorem zq163 {x0 : Int} {x1 : Int} {x2 : Int} (h0 : (((0 : Int) ≤ x0) ∧ (x0 ≤ (1073741824 : Int)))) (h1 : ((((4294967296 : Int) + x1) - x0) = ((6 : Int) * x2))) : ((Int.natAbs x0) < ((2 : Nat) ^ (50 : Nat))) := by lia
theorem zq164 {x0 : Int} {x1 : Int} {x2 : Int} (h0 : (((0 : Int) ≤ x0) ∧ (x0 ≤ (1073741824 : Int)))) (h1 : (((0 : Int) ≤ x1) ∧ (x1 ≤ (1073741824 : Int)))) (h2 : ((x1 - x0) = ((6 : Int) * x2))) : (((-(1073741824 : Int)) ≤ ((6 : Int) * x2)) ∧ (((6 : Int) * x2) ≤ (6442450944 : Int))) := by lia
theorem zq165 {x0 : Int} {x1 : Int} {x2 : Int} (h0 : (((0 : Int) ≤ x0) ∧ (x0 ≤ (1073741824 : Int)))) (h1 : (((0 : Int) ≤ x1) ∧ (x1 ≤ (1073741824 : Int)))) (h2 : ((((2147483648 : Int) + x0) - x1) = ((6 : Int) * x2))) : (((-(1073741824 : Int)) ≤ ((6 : Int) * x2)) ∧ (((6 : Int) * x2) ≤ (6442450944 : Int))) := by lia
theorem zq166 {x0 : Int} {x1 : Int} {x2 : Int} (h0 : (((0 : Int) ≤ x0) ∧ (x0 ≤ (1073741824 : Int)))) (h1 : (((0 : Int) ≤ x1) ∧ (x1 ≤ (1073741824 : Int)))) (h2 : ((((4294967296 : Int) + x1) - x0) = ((6 : Int) * x2))) : (((-(1073741824 : Int)) ≤ ((6 : Int) * x2)) ∧ (((6 : Int) * x2) ≤ (6442450944 : Int))) := by lia
theorem zq167 {x0 : Int} (h0 : (((-(1073741824 : Int)) ≤ ((6 : Int) * x0)) ∧ (((6 : Int) * x0) ≤ (6442450944 : Int)))) : ((Int.natAbs ((6 : Int) * x0)) < ((2 : Nat) ^ (53 : Nat))) := hAn (Int.le_trans (by decide) h0.1) h0.2 (by decide)
theorem zq168 {x0 : Int} (h0 : (((-(1073741824 : Int)) ≤ ((6 : Int) * x0)) ∧ (((6 : Int) * x0) ≤ (6442450944 : Int)))) : ((Int.natAbs x0) < ((2 : Nat) ^ (53 : Nat))) := by omega
theorem zq169 {x0 : Int} : ((((6 : Int) * x0) * ((2 : Int) ^ (30 : Nat))) = ((6442450944 : Int) * x0)) := by lia
theorem zq170 {x0 : Int} (h0 : (((-(1073741824 : Int)) ≤ ((6 : Int) * x0)) ∧ (((6 : Int) * x0) ≤ (6442450944 : Int)))) (h1 : (x0 < (0 : Int))) : (((6 : Int) * x0) < (0 : Int)) := by lia
theorem zq171 {x0 : Int} (h0 : (((-(1073741824 : Int)) ≤ ((6 : Int) * x0)) ∧ (((6 : Int) * x0) ≤ (6442450944 : Int)))) (h1 : (¬ (x0 < (0 : Int)))) : (¬ (((6 : Int) * x0) < (0 : Int))) := by lia
theorem zq172 {x0 : Int} (h0 : (((-(1073741824 : Int)) ≤ ((6 : Int) * x0)) ∧ (((6 : Int) * x0) ≤ (6442450944 : Int)))) : ((Int.natAbs x0) < ((2 : Nat) ^ (52 : Nat))) := by omega
theorem zq173 {x0 : Nat} {x1 : Nat} (h0 : (x0 ≤ x1)) : (x0 ≤ (((x1 + (1 : Nat)) + (1 : Nat)) + (1 : Nat))) := by lia
theorem zq174 {x0 : Nat} : ((((x0 + (1 : Nat)) + (1 : Nat)) + (1 : Nat)) < (((((x0 + (1 : Nat)) + (1 : Nat)) + (1 : Nat)) + (1 : Nat)) + (1 : Nat))) := by lia
theorem zq175 {x0 : Nat} : (x0 ≤ (((((x0 + (3 : Nat)) + (1 : Nat)) + (1 : Nat)) + (1 : Nat)) + (1 : Nat))) := by lia
theorem zq176 {x0 : Nat} {x1 : Nat} {x2 : Nat} (h0 : ((x0 + x1) = (3 : Nat))) (h1 : (x2 = x1)) (h2 : (x1 < (3 : Nat))) : ((x1 = (0 : Nat)) ∨ ((x1 = (1 : Nat)) ∨ (x1 = (2 : Nat)))) := by lia
theorem zq177 {x0 : Int} (h0 : (((1 : Int) ≤ x0) ∧ (x0 ≤ (8 : Int)))) : ((Int.natAbs x0) < ((2 : Nat) ^ (60 : Nat))) := by omega
theorem zq178 {x0 : Int} {x1 : Int} {x2 : Int} (h0 : (((0 : Int) ≤ x0) ∧ (x0 ≤ (1073741824 : Int)))) (h1 : (x1 = x2)) (h2 : (x0 = (x2 * (16384 : Int)))) : ((Int.natAbs x1) < ((2 : Nat) ^ (60 : Nat))) := by omega
theorem zq179 {x0 : Int} {x1 : Int} {x2 : Int} (h0 : (((0 : Int) ≤ x0) ∧ (x0 ≤ (1073741824 : Int)))) (h1 : (x1 = x2)) (h2 : (x0 = (x2 * (16384 : Int)))) : ((Int.natAbs x0) < ((2 : Nat) ^ (53 : Nat))) := by omega
theorem zq180 {x0 : Int} {x1 : Int} {x2 : Int} (h0 : (x0 = x1)) (h1 : (x2 = (x1 * (16384 : Int)))) : ((x0 * ((2 : Int) ^ (30 : Nat))) = ((65536 : Int) * x2)) := by lia
theorem zq181 {x0 : Nat} {x1 : Nat} {x2 : Nat} (h0 : ((x0 + x1) = (3 : Nat))) (h1 : (x2 = x1)) (h2 : (x1 < (3 : Nat))) : (x2 < (1000 : Nat)) := by omega
theorem zq182 {x0 : Nat} {x1 : Nat} {x2 : Nat} (h0 : ((x0 + x1) = (3 : Nat))) (h1 : (x2 = x1)) (h2 : (x1 < (3 : Nat))) (h3 : (x0 = (0 : Nat))) : False := by lia
theorem zq183 {x0 : Nat} {x1 : Nat} {x2 : Nat} (h0 : ((x0 + x1) = (3 : Nat))) (h1 : (x2 = x1)) (h2 : (x1 < (3 : Nat))) : (((x0 - (1 : Nat)) + (x1 + (1 : Nat))) = (3 : Nat)) := by lia
theorem zq184 {x0 : Nat} {x1 : Nat} {x2 : Nat} {x3 : Nat} (h0 : ((((((((((x0 + (1 : Nat)) + (1 : Nat)) + (1 : Nat)) + (1 : Nat)) + (1 : Nat)) + (1 : Nat)) + (1 : Nat)) + (1 : Nat)) + (1 : Nat)) ≤ x1)) (h1 : ((((x1 + (1 : Nat)) + (1 : Nat)) + (1 : Nat)) ≤ x2)) (h2 : ((x2 + (1 : Nat)) ≤ x3)) : (x0 ≤ ((((((x3 + (1 : Nat)) + (1 : Nat)) + (1 : Nat)) + (1 : Nat)) + (1 : Nat)) + (1 : Nat))) := by lia
theorem zq185 {x0 : Nat} : (((((((x0 + (1 : Nat)) + (1 : Nat)) + (1 : Nat)) + (1 : Nat)) + (1 : Nat)) + (1 : Nat)) < (((((((x0 + (1 : Nat)) + (1 : Nat)) + (1 : Nat)) + (1 : Nat)) + (1 : Nat)) + (1 : Nat)) + (1 : Nat))) := by lia
theorem zq186 {x0 : Nat} {x1 : Nat} {x2 : Nat} (h0 : ((x0 + x1) = (3 : Nat))) (h1 : (x2 = x1)) (h2 : ((3 : Nat) ≤ x1)) : (x1 = (3 : Nat)) := by lia
theorem zq187 {x0 : Int} (h0 : (x0 ≤ (1024 : Int))) : ((min (max ((min x0 ((6144 : Int) - x0)) - (1024 : Int)) (0 : Int)) (1024 : Int)) = (0 : Int)) := by rw [Int.max_eq_right (Int.sub_nonpos_of_le (Int.le_trans (Int.min_le_left _ _) h0))]; rfl
theorem zq188 {x0 : Int} (h0 : ((5120 : Int) ≤ x0)) : ((min (max ((min x0 ((6144 : Int) - x0)) - (1024 : Int)) (0 : Int)) (1024 : Int)) = (0 : Int)) := by omega
theorem zq189 {x0 : Int} (h0 : ((1024 : Int) ≤ x0)) (h1 : (x0 ≤ (2048 : Int))) : ((min (max ((min x0 ((6144 : Int) - x0)) - (1024 : Int)) (0 : Int)) (1024 : Int)) = (x0 - (1024 : Int))) := by rw [Int.min_eq_left (by omega : x0 ≤ 6144 - x0), Int.max_eq_left (Int.sub_nonneg_of_le h0), Int.min_eq_left (by omega)]
theorem zq190 {x0 : Int} (h0 : ((2048 : Int) ≤ x0)) (h1 : (x0 ≤ (4096 : Int))) : ((min (max ((min x0 ((6144 : Int) - x0)) - (1024 : Int)) (0 : Int)) (1024 : Int)) = (1024 : Int)) := by rw [Int.min_eq_right]; exact Int.le_trans (Int.le_sub_right_of_add_le (Int.le_min.mpr ⟨h0, by omega⟩)) (Int.le_max_left _ _)
theorem zq191 {x0 : Int} (h0 : ((4096 : Int) ≤ x0)) (h1 : (x0 ≤ (5120 : Int))) : ((min (max ((min x0 ((6144 : Int) - x0)) - (1024 : Int)) (0 : Int)) (1024 : Int)) = ((5120 : Int) - x0)) := by omega
theorem zq192 {x0 : Int} {x1 : Int} {x2 : Int} {x3 : Int} {x4 : Int} {x5 : Int} (h0 : (x0 = (((6 : Int) * x1) - ((1024 : Int) * x2)))) (h1 : (((0 : Int) ≤ x0) ∧ (x0 < (1024 : Int)))) (h2 : ((x2 % (6 : Int)) = x3)) (h3 : ((((x3 * (1024 : Int)) - x4) % (6144 : Int)) = x5)) (h4 : ((x5 + (1024 : Int)) ≤ (6144 : Int))) : (((((6 : Int) * x1) - x4) % (6144 : Int)) = (x5 + x0)) := by lia
theorem zq193 {x0 : Int} {x1 : Int} {x2 : Int} {x3 : Int} (h0 : (x0 = (((6 : Int) * x1) - ((1024 : Int) * x2)))) (h1 : (((0 : Int) ≤ x0) ∧ (x0 < (1024 : Int)))) (h2 : ((x2 % (6 : Int)) = x3)) : (((0 : Int) + x0) ≤ (1024 : Int)) := by lia
theorem zq194 {x0 : Int} {x1 : Int} {x2 : Int} {x3 : Int} (h0 : (x0 = (((6 : Int) * x1) - ((1024 : Int) * x2)))) (h1 : (((0 : Int) ≤ x0) ∧ (x0 < (1024 : Int)))) (h2 : ((x2 % (6 : Int)) = x3)) : ((5120 : Int) ≤ ((5120 : Int) + x0)) := by lia
theorem zq195 {x0 : Int} {x1 : Int} {x2 : Int} {x3 : Int} (h0 : (x0 = (((6 : Int) * x1) - ((1024 : Int) * x2)))) (h1 : (((0 : Int) ≤ x0) ∧ (x0 < (1024 : Int)))) (h2 : ((x2 % (6 : Int)) = x3)) : ((1024 : Int) ≤ ((1024 : Int) + x0)) := by lia
theorem zq196 {x0 : Int} {x1 : Int} {x2 : Int} {x3 : Int} (h0 : (x0 = (((6 : Int) * x1) - ((1024 : Int) * x2)))) (h1 : (((0 : Int) ≤ x0) ∧ (x0 < (1024 : Int)))) (h2 : ((x2 % (6 : Int)) = x3)) : (((1024 : Int) + x0) ≤ (2048 : Int)) := by lia
theorem zq197 {x0 : Int} : ((((1024 : Int) + x0) - (1024 : Int)) = x0) := by lia
theorem zq198 {x0 : Int} {x1 : Int} {x2 : Int} {x3 : Int} (h0 : (x0 = (((6 : Int) * x1) - ((1024 : Int) * x2)))) (h1 : (((0 : Int) ≤ x0) ∧ (x0 < (1024 : Int)))) (h2 : ((x2 % (6 : Int)) = x3)) : ((2048 : Int) ≤ ((2048 : Int) + x0)) := by lia
theorem zq199 {x0 : Int} {x1 : Int} {x2 : Int} {x3 : Int} (h0 : (x0 = (((6 : Int) * x1) - ((1024 : Int) * x2)))) (h1 : (((0 : Int) ≤ x0) ∧ (x0 < (1024 : Int)))) (h2 : ((x2 % (6 : Int)) = x3)) : (((2048 : Int) + x0) ≤ (4096 : Int)) := by lia
theorem zq200 {x0 : Int} {x1 : Int} {x2 : Int} {x3 : Int} (h0 : (x0 = (((6 : Int) * x1) - ((1024 : Int) * x2)))) (h1 : (((0 : Int) ≤ x0) ∧ (x0 < (1024 : Int)))) (h2 : ((x2 % (6 : Int)) = x3)) : ((2048 : Int) ≤ ((3072 : Int) + x0)) := by lia
theorem zq201 {x0 : Int} {x1 : Int} {x2 : Int} {x3 : Int} (h0 : (x0 = (((6 : Int) * x1) - ((1024 : Int) * x2)))) (h1 : (((0 : Int) ≤ x0) ∧ (x0 < (1024 : Int)))) (h2 : ((x2 % (6 : Int)) = x3)) : (((3072 : Int) + x0) ≤ (4096 : Int)) := by lia
theorem zq202 {x0 : Int} {x1 : Int} {x2 : Int} {x3 : Int} (h0 : (x0 = (((6 : Int) * x1) - ((1024 : Int) * x2)))) (h1 : (((0 : Int) ≤ x0) ∧ (x0 < (1024 : Int)))) (h2 : ((x2 % (6 : Int)) = x3)) : ((4096 : Int) ≤ ((4096 : Int) + x0)) := by lia
theorem zq203 {x0 : Int} {x1 : Int} {x2 : Int} {x3 : Int} (h0 : (x0 = (((6 : Int) * x1) - ((1024 : Int) * x2)))) (h1 : (((0 : Int) ≤ x0) ∧ (x0 < (1024 : Int)))) (h2 : ((x2 % (6 : Int)) = x3)) : (((4096 : Int) + x0) ≤ (5120 : Int)) := by lia
theorem zq204 {x0 : Int} : (((5120 : Int) - ((4096 : Int) + x0)) = ((1024 : Int) - x0)) := by lia
theorem zq205 {x0 : Int} : (((x0 % (6 : Int)) = (0 : Int)) ∨ (((x0 % (6 : Int)) = (1 : Int)) ∨ (((x0 % (6 : Int)) = (2 : Int)) ∨ (((x0 % (6 : Int)) = (3 : Int)) ∨ (((x0 % (6 : Int)) = (4 : Int)) ∨ ((x0 % (6 : Int)) = (5 : Int))))))) := by lia
theorem zq206 {x0 : Int} {x1 : Int} (h0 : (x0 = (((6 : Int) * x1) - ((1024 : Int) * (((6 : Int) * x1) / (1024 : Int)))))) : (((0 : Int) ≤ x0) ∧ (x0 < (1024 : Int))) := by lia
theorem zq207 {x0 : Int} : ((x0 / (1024 : Int)) = ((((6 : Int) * x0) / (1024 : Int)) / (6 : Int))) := by lia
theorem zq208 {x0 : Int} {x1 : Int} (h0 : ((x0 / (1024 : Int)) = (x1 / (6 : Int)))) : ((x0 % (1024 : Int)) = (x0 - ((1024 : Int) * (x1 / (6 : Int))))) := by lia
theorem zq209 {x0 : Int} {x1 : Int} (h0 : ((x0 / (1024 : Int)) = (x1 / (6 : Int)))) : (((0 : Int) ≤ (x0 - ((1024 : Int) * (x1 / (6 : Int))))) ∧ ((x0 - ((1024 : Int) * (x1 / (6 : Int)))) < (1024 : Int))) := by omega
theorem zq210 {x0 : Int} {x1 : Int} {x2 : Int} (h0 : (((0 : Int) ≤ x0) ∧ (x0 < (1024 : Int)))) (h1 : (x0 = (((6 : Int) * x1) - ((1024 : Int) * x2)))) (h2 : ((x1 % (1024 : Int)) = (x1 - ((1024 : Int) * (x2 / (6 : Int)))))) (h3 : ((x2 % (6 : Int)) = (0 : Int))) : (((x1 % (1024 : Int)) % (1024 : Int)) = (x1 % (1024 : Int))) := by omega
theorem zq211 {x0 : Int} {x1 : Int} {x2 : Int} (h0 : (((0 : Int) ≤ x0) ∧ (x0 < (1024 : Int)))) (h1 : (x0 = (((6 : Int) * x1) - ((1024 : Int) * x2)))) (h2 : ((x1 % (1024 : Int)) = (x1 - ((1024 : Int) * (x2 / (6 : Int)))))) (h3 : ((x2 % (6 : Int)) = (0 : Int))) : ((-(1024 : Int)) ≤ (x1 % (1024 : Int))) := by omega
theorem zq212 {x0 : Int} {x1 : Int} {x2 : Int} (h0 : (((0 : Int) ≤ x0) ∧ (x0 < (1024 : Int)))) (h1 : (x0 = (((6 : Int) * x1) - ((1024 : Int) * x2)))) (h2 : ((x1 % (1024 : Int)) = (x1 - ((1024 : Int) * (x2 / (6 : Int)))))) (h3 : ((x2 % (6 : Int)) = (0 : Int))) : ((x1 % (1024 : Int)) ≤ (1024 : Int)) := by omega
theorem zq213 {x0 : Int} {x1 : Int} {x2 : Int} (h0 : (x0 = (((6 : Int) * x1) - ((1024 : Int) * x2)))) (h1 : ((x1 % (1024 : Int)) = (x1 - ((1024 : Int) * (x2 / (6 : Int)))))) (h2 : ((x2 % (6 : Int)) = (0 : Int))) : (((1024 : Int) - ((1024 : Int) - x0)) = ((6 : Int) * (x1 % (1024 : Int)))) := by lia
theorem zq214 {x0 : Int} {x1 : Int} {x2 : Int} (h0 : (((0 : Int) ≤ x0) ∧ (x0 < (1024 : Int)))) (h1 : (x0 = (((6 : Int) * x1) - ((1024 : Int) * x2)))) (h2 : ((x1 % (1024 : Int)) = (x1 - ((1024 : Int) * (x2 / (6 : Int)))))) (h3 : ((x2 % (6 : Int)) = (1 : Int))) : (((x1 % (1024 : Int)) % (1024 : Int)) = (x1 % (1024 : Int))) := by omega
theorem zq215 {x0 : Int} {x1 : Int} {x2 : Int} (h0 : (((0 : Int) ≤ x0) ∧ (x0 < (1024 : Int)))) (h1 : (x0 = (((6 : Int) * x1) - ((1024 : Int) * x2)))) (h2 : ((x1 % (1024 : Int)) = (x1 - ((1024 : Int) * (x2 / (6 : Int)))))) (h3 : ((x2 % (6 : Int)) = (1 : Int))) : ((-(1024 : Int)) ≤ (x1 % (1024 : Int))) := by omega
theorem zq216 {x0 : Int} {x1 : Int} {x2 : Int} (h0 : (((0 : Int) ≤ x0) ∧ (x0 < (1024 : Int)))) (h1 : (x0 = (((6 : Int) * x1) - ((1024 : Int) * x2)))) (h2 : ((x1 % (1024 : Int)) = (x1 - ((1024 : Int) * (x2 / (6 : Int)))))) (h3 : ((x2 % (6 : Int)) = (1 : Int))) : ((x1 % (1024 : Int)) ≤ (1024 : Int)) := by omega
theorem zq217 {x0 : Int} {x1 : Int} {x2 : Int} {x3 : Int} (h0 : (x0 = (((6 : Int) * x1) - ((1024 : Int) * x2)))) (h1 : ((x2 % (6 : Int)) = (1 : Int))) (h2 : (x3 = x0)) : (¬ (x3 = (0 : Int))) := by omega
theorem zq218 {x0 : Int} {x1 : Int} {x2 : Int} (h0 : (x0 = (((6 : Int) * x1) - ((1024 : Int) * x2)))) (h1 : ((x1 % (1024 : Int)) = (x1 - ((1024 : Int) * (x2 / (6 : Int)))))) (h2 : ((x2 % (6 : Int)) = (1 : Int))) : ((((2048 : Int) + x0) - (1024 : Int)) = ((6 : Int) * (x1 % (1024 : Int)))) := by lia
theorem zq219 {x0 : Int} {x1 : Int} {x2 : Int} (h0 : (((0 : Int) ≤ x0) ∧ (x0 < (1024 : Int)))) (h1 : (x0 = (((6 : Int) * x1) - ((1024 : Int) * x2)))) (h2 : ((x1 % (1024 : Int)) = (x1 - ((1024 : Int) * (x2 / (6 : Int)))))) (h3 : ((x2 % (6 : Int)) = (2 : Int))) : (((x1 % (1024 : Int)) % (1024 : Int)) = (x1 % (1024 : Int))) := by omega
theorem zq220 {x0 : Int} {x1 : Int} {x2 : Int} (h0 : (((0 : Int) ≤ x0) ∧ (x0 < (1024 : Int)))) (h1 : (x0 = (((6 : Int) * x1) - ((1024 : Int) * x2)))) (h2 : ((x1 % (1024 : Int)) = (x1 - ((1024 : Int) * (x2 / (6 : Int)))))) (h3 : ((x2 % (6 : Int)) = (2 : Int))) : ((-(1024 : Int)) ≤ (x1 % (1024 : Int))) := by omega
theorem zq221 {x0 : Int} {x1 : Int} {x2 : Int} (h0 : (((0 : Int) ≤ x0) ∧ (x0 < (1024 : Int)))) (h1 : (x0 = (((6 : Int) * x1) - ((1024 : Int) * x2)))) (h2 : ((x1 % (1024 : Int)) = (x1 - ((1024 : Int) * (x2 / (6 : Int)))))) (h3 : ((x2 % (6 : Int)) = (2 : Int))) : ((x1 % (1024 : Int)) ≤ (1024 : Int)) := by omega
theorem zq222 {x0 : Int} (h0 : (x0 = (1024 : Int))) : (¬ (x0 = (0 : Int))) := by lia
theorem zq223 {x0 : Int} {x1 : Int} {x2 : Int} (h0 : (x0 = (((6 : Int) * x1) - ((1024 : Int) * x2)))) (h1 : ((x1 % (1024 : Int)) = (x1 - ((1024 : Int) * (x2 / (6 : Int)))))) (h2 : ((x2 % (6 : Int)) = (2 : Int))) : ((((2048 : Int) + (1024 : Int)) - ((1024 : Int) - x0)) = ((6 : Int) * (x1 % (1024 : Int)))) := by lia
theorem zq224 {x0 : Int} {x1 : Int} {x2 : Int} (h0 : (((0 : Int) ≤ x0) ∧ (x0 < (1024 : Int)))) (h1 : (x0 = (((6 : Int) * x1) - ((1024 : Int) * x2)))) (h2 : ((x1 % (1024 : Int)) = (x1 - ((1024 : Int) * (x2 / (6 : Int)))))) (h3 : ((x2 % (6 : Int)) = (3 : Int))) : (((x1 % (1024 : Int)) % (1024 : Int)) = (x1 % (1024 : Int))) := by omega
theorem zq225 {x0 : Int} {x1 : Int} {x2 : Int} (h0 : (((0 : Int) ≤ x0) ∧ (x0 < (1024 : Int)))) (h1 : (x0 = (((6 : Int) * x1) - ((1024 : Int) * x2)))) (h2 : ((x1 % (1024 : Int)) = (x1 - ((1024 : Int) * (x2 / (6 : Int)))))) (h3 : ((x2 % (6 : Int)) = (3 : Int))) : ((-(1024 : Int)) ≤ (x1 % (1024 : Int))) := by omega
theorem zq226 {x0 : Int} {x1 : Int} {x2 : Int} (h0 : (((0 : Int) ≤ x0) ∧ (x0 < (1024 : Int)))) (h1 : (x0 = (((6 : Int) * x1) - ((1024 : Int) * x2)))) (h2 : ((x1 % (1024 : Int)) = (x1 - ((1024 : Int) * (x2 / (6 : Int)))))) (h3 : ((x2 % (6 : Int)) = (3 : Int))) : ((x1 % (1024 : Int)) ≤ (1024 : Int)) := by omega
theorem zq227 {x0 : Int} {x1 : Int} {x2 : Int} {x3 : Int} {x4 : Int} {x5 : Int} (h0 : (x0 = (((6 : Int) * x1) - ((1024 : Int) * x2)))) (h1 : ((x1 % (1024 : Int)) = (x1 - ((1024 : Int) * (x2 / (6 : Int)))))) (h2 : ((x2 % (6 : Int)) = (3 : Int))) (h3 : (x3 = (1024 : Int))) (h4 : (x4 = x0)) (h5 : (x5 = (0 : Int))) (h6 : (x4 = (0 : Int))) : ((((2048 : Int) + x3) - x5) = ((6 : Int) * (x1 % (1024 : Int)))) := by lia
theorem zq228 {x0 : Int} {x1 : Int} {x2 : Int} {x3 : Int} {x4 : Int} (h0 : (x0 = (((6 : Int) * x1) - ((1024 : Int) * x2)))) (h1 : ((x1 % (1024 : Int)) = (x1 - ((1024 : Int) * (x2 / (6 : Int)))))) (h2 : ((x2 % (6 : Int)) = (3 : Int))) (h3 : (x3 = (1024 : Int))) (h4 : (x4 = x0)) : ((((4096 : Int) + x4) - x3) = ((6 : Int) * (x1 % (1024 : Int)))) := by lia
theorem zq229 {x0 : Int} {x1 : Int} {x2 : Int} (h0 : (((0 : Int) ≤ x0) ∧ (x0 < (1024 : Int)))) (h1 : (x0 = (((6 : Int) * x1) - ((1024 : Int) * x2)))) (h2 : ((x1 % (1024 : Int)) = (x1 - ((1024 : Int) * (x2 / (6 : Int)))))) (h3 : ((x2 % (6 : Int)) = (4 : Int))) : (((x1 % (1024 : Int)) % (1024 : Int)) = (x1 % (1024 : Int))) := by lia
theorem zq230 {x0 : Int} {x1 : Int} {x2 : Int} (h0 : (((0 : Int) ≤ x0) ∧ (x0 < (1024 : Int)))) (h1 : (x0 = (((6 : Int) * x1) - ((1024 : Int) * x2)))) (h2 : ((x1 % (1024 : Int)) = (x1 - ((1024 : Int) * (x2 / (6 : Int)))))) (h3 : ((x2 % (6 : Int)) = (4 : Int))) : ((-(1024 : Int)) ≤ (x1 % (1024 : Int))) := by omega
theorem zq231 {x0 : Int} {x1 : Int} {x2 : Int} (h0 : (((0 : Int) ≤ x0) ∧ (x0 < (1024 : Int)))) (h1 : (x0 = (((6 : Int) * x1) - ((1024 : Int) * x2)))) (h2 : ((x1 % (1024 : Int)) = (x1 - ((1024 : Int) * (x2 / (6 : Int)))))) (h3 : ((x2 % (6 : Int)) = (4 : Int))) : ((x1 % (1024 : Int)) ≤ (1024 : Int)) := by omega
theorem zq232 {x0 : Int} {x1 : Int} {x2 : Int} {x3 : Int} (h0 : (x0 = (((6 : Int) * x1) - ((1024 : Int) * x2)))) (h1 : ((x2 % (6 : Int)) = (4 : Int))) (h2 : (x3 = ((1024 : Int) - x0))) : (¬ (x3 = (0 : Int))) := by omega
theorem zq233 {x0 : Int} {x1 : Int} {x2 : Int} (h0 : (x0 = (((6 : Int) * x1) - ((1024 : Int) * x2)))) (h1 : ((x1 % (1024 : Int)) = (x1 - ((1024 : Int) * (x2 / (6 : Int)))))) (h2 : ((x2 % (6 : Int)) = (4 : Int))) : ((((4096 : Int) + (1024 : Int)) - ((1024 : Int) - x0)) = ((6 : Int) * (x1 % (1024 : Int)))) := by omega
theorem zq234 {x0 : Int} {x1 : Int} {x2 : Int} (h0 : (((0 : Int) ≤ x0) ∧ (x0 < (1024 : Int)))) (h1 : (x0 = (((6 : Int) * x1) - ((1024 : Int) * x2)))) (h2 : ((x1 % (1024 : Int)) = (x1 - ((1024 : Int) * (x2 / (6 : Int)))))) (h3 : ((x2 % (6 : Int)) = (5 : Int))) : ((((x1 % (1024 : Int)) - (1024 : Int)) % (1024 : Int)) = (x1 % (1024 : Int))) := by omega
theorem zq235 {x0 : Int} {x1 : Int} {x2 : Int} (h0 : (((0 : Int) ≤ x0) ∧ (x0 < (1024 : Int)))) (h1 : (x0 = (((6 : Int) * x1) - ((1024 : Int) * x2)))) (h2 : ((x1 % (1024 : Int)) = (x1 - ((1024 : Int) * (x2 / (6 : Int)))))) (h3 : ((x2 % (6 : Int)) = (5 : Int))) : ((-(1024 : Int)) ≤ ((x1 % (1024 : Int)) - (1024 : Int))) := by omega
theorem zq236 {x0 : Int} {x1 : Int} {x2 : Int} (h0 : (((0 : Int) ≤ x0) ∧ (x0 < (1024 : Int)))) (h1 : (x0 = (((6 : Int) * x1) - ((1024 : Int) * x2)))) (h2 : ((x1 % (1024 : Int)) = (x1 - ((1024 : Int) * (x2 / (6 : Int)))))) (h3 : ((x2 % (6 : Int)) = (5 : Int))) : (((x1 % (1024 : Int)) - (1024 : Int)) ≤ (1024 : Int)) := by lia
theorem zq237 {x0 : Int} {x1 : Int} {x2 : Int} (h0 : (x0 = (((6 : Int) * x1) - ((1024 : Int) * x2)))) (h1 : ((x1 % (1024 : Int)) = (x1 - ((1024 : Int) * (x2 / (6 : Int)))))) (h2 : ((x2 % (6 : Int)) = (5 : Int))) : ((x0 - (1024 : Int)) = ((6 : Int) * ((x1 % (1024 : Int)) - (1024 : Int)))) := by lia
theorem zq238 {x0 : Int} (h0 : ((0 : Int) ≤ x0)) : (¬ (x0 < (0 : Int))) := by omega
theorem zq239 {x0 : Int} {x1 : Int} (h0 : (((0 : Int) ≤ x0) ∧ (x0 < (2048 : Int)))) (h1 : (x1 = (((6 : Int) * x0) / (1024 : Int)))) : (((0 : Int) ≤ x1) ∧ (x1 < (12 : Int))) := by lia
theorem zq240 {x0 : Int} {x1 : Int} {x2 : Int} (h0 : (x0 = (((6 : Int) * x1) / (1024 : Int)))) (h1 : (x2 = (((6 : Int) * x1) - ((1024 : Int) * x0)))) : (((0 : Int) ≤ x2) ∧ (x2 < (1024 : Int))) := by lia
theorem zq241 {x0 : Int} : (((x0 * (1048576 : Int)) * (6442450944 : Int)) = ((((6 : Int) * x0) * (1048576 : Int)) * ((2 : Int) ^ (30 : Nat)))) := by lia
theorem zq242 {x0 : Int} {x1 : Int} {x2 : Int} (h0 : (x0 = (((6 : Int) * x1) / (1024 : Int)))) (h1 : (x2 = (((6 : Int) * x1) - ((1024 : Int) * x0)))) (h2 : (((0 : Int) ≤ x2) ∧ (x2 < (1024 : Int)))) : (((((6 : Int) * x1) * (1048576 : Int)) / (1073741824 : Int)) = x0) := by lia
theorem zq243 {x0 : Int} {x1 : Int} {x2 : Int} (h0 : (x0 = (((6 : Int) * x1) / (1024 : Int)))) (h1 : (x2 = (((6 : Int) * x1) - ((1024 : Int) * x0)))) : (((((6 : Int) * x1) * (1048576 : Int)) - (x0 * (1073741824 : Int))) = (x2 * (1048576 : Int))) := by lia
theorem zq244 {x0 : Int} {x1 : Int} {x2 : Int} (h0 : (x0 = (((6 : Int) * x1) / (1024 : Int)))) (h1 : (x2 = (((6 : Int) * x1) - ((1024 : Int) * x0)))) (h2 : (((((6 : Int) * x1) * (1048576 : Int)) / (1073741824 : Int)) = x0)) : ((0 : Int) ≤ x2) := by lia
theorem zq245 {x0 : Int} {x1 : Int} {x2 : Int} (h0 : (x0 = (((6 : Int) * x1) / (1024 : Int)))) (h1 : (x2 = (((6 : Int) * x1) - ((1024 : Int) * x0)))) (h2 : (((((6 : Int) * x1) * (1048576 : Int)) / (1073741824 : Int)) = x0)) : (x2 ≤ (1024 : Int)) := by lia
theorem zq246 {x0 : Int} {x1 : Int} {x2 : Int} (h0 : (x0 = (((6 : Int) * x1) / (1024 : Int)))) (h1 : (x2 = (((6 : Int) * x1) - ((1024 : Int) * x0)))) (h2 : (((((6 : Int) * x1) * (1048576 : Int)) / (1073741824 : Int)) = x0)) : ((0 : Int) ≤ ((1024 : Int) - x2)) := by omega
theorem zq247 {x0 : Int} {x1 : Int} {x2 : Int} (h0 : (x0 = (((6 : Int) * x1) / (1024 : Int)))) (h1 : (x2 = (((6 : Int) * x1) - ((1024 : Int) * x0)))) (h2 : (((((6 : Int) * x1) * (1048576 : Int)) / (1073741824 : Int)) = x0)) : (((1024 : Int) - x2) ≤ (1024 : Int)) := by lia
theorem zq248 {x0 : Int} (h0 : (((1 : Int) ≤ x0) ∧ (x0 ≤ (8 : Int)))) : ((0 : Int) ≤ ((8192 : Int) - (x0 * (1024 : Int)))) := by lia
theorem zq249 {x0 : Int} (h0 : (((1 : Int) ≤ x0) ∧ (x0 ≤ (8 : Int)))) : (((8192 : Int) - (x0 * (1024 : Int))) ≤ (8192 : Int)) := by lia
theorem zq250 {x0 : Int} (h0 : (((1 : Int) ≤ x0) ∧ (x0 ≤ (8 : Int)))) : ((Int.natAbs (x0 * (134217728 : Int))) < ((2 : Nat) ^ (53 : Nat))) := by omega
theorem zq251  : ((Int.natAbs (0 : Int)) < ((2 : Nat) ^ (53 : Nat))) := by lia
theorem zq252 {x0 : Int} (h0 : (((1 : Int) ≤ x0) ∧ (x0 ≤ (8 : Int)))) (h1 : ((x0 * (134217728 : Int)) = (0 : Int))) : (¬ ((x0 * (134217728 : Int)) = (0 : Int))) := by omega
theorem zq253 {x0 : Int} (h0 : (((0 : Int) ≤ x0) ∧ (x0 < (2048 : Int)))) : ((Int.natAbs (x0 * (1048576 : Int))) < ((2 : Nat) ^ (53 : Nat))) := by lia
theorem zq254 {x0 : Int} (h0 : (((0 : Int) ≤ x0) ∧ (x0 < (2048 : Int)))) : ((Int.natAbs (((6 : Int) * x0) * (1048576 : Int))) < ((2 : Nat) ^ (53 : Nat))) := hAb (Int.mul_nonneg (Int.mul_nonneg (by decide) h0.1) (by decide)) (Int.mul_le_mul_of_nonneg_right (Int.mul_le_mul_of_nonneg_left (Int.le_of_lt h0.2) (by decide)) (by decide)) (by decide)
theorem zq255 {x0 : Int} (h0 : (((0 : Int) ≤ x0) ∧ (x0 < (2048 : Int)))) : ((0 : Int) ≤ (x0 * (1048576 : Int))) := by lia
theorem zq256 {x0 : Int} (h0 : (((0 : Int) ≤ x0) ∧ (x0 < (2048 : Int)))) : ((0 : Int) ≤ (((6 : Int) * x0) * (1048576 : Int))) := by lia
theorem zq257 {x0 : Int} (h0 : (((0 : Int) ≤ x0) ∧ (x0 < (2048 : Int)))) : ((Int.natAbs (((6 : Int) * x0) * (1048576 : Int))) < ((2 : Nat) ^ (50 : Nat))) := by omega
theorem zq258 {x0 : Int} {x1 : Int} (h0 : (x0 = (((6 : Int) * x1) / (1024 : Int)))) (h1 : (((0 : Int) ≤ x0) ∧ (x0 < (12 : Int)))) (h2 : (((((6 : Int) * x1) * (1048576 : Int)) / (1073741824 : Int)) = x0)) : ((Int.natAbs x0) < ((2 : Nat) ^ (19 : Nat))) := by lia
theorem zq259  : ((Int.natAbs (1073741824 : Int)) < ((2 : Nat) ^ (50 : Nat))) := by lia
theorem zq260 {x0 : Int} (h0 : (((1 : Int) ≤ x0) ∧ (x0 ≤ (8 : Int)))) : ((Int.natAbs (x0 * (134217728 : Int))) < ((2 : Nat) ^ (50 : Nat))) := hAb (Int.mul_nonneg (Int.le_trans (by decide) h0.1) (by decide)) (Int.mul_le_mul_of_nonneg_right h0.2 (by decide)) (by decide)
theorem zq261 {x0 : Int} (h0 : (((1 : Int) ≤ x0) ∧ (x0 ≤ (8 : Int)))) : ((Int.natAbs ((1073741824 : Int) - (x0 * (134217728 : Int)))) < ((2 : Nat) ^ (53 : Nat))) := by omega
theorem zq262 {x0 : Int} (h0 : (((0 : Int) ≤ x0) ∧ (x0 ≤ ((8 : Int) * (8192 : Int))))) : ((Int.natAbs (x0 * (16384 : Int))) < ((2 : Nat) ^ (53 : Nat))) := by lia
theorem zq263 {x0 : Int} (h0 : (((1 : Int) ≤ x0) ∧ (x0 ≤ (8 : Int)))) : ((0 : Int) ≤ (x0 * (134217728 : Int))) := by lia
theorem zq264 {x0 : Int} (h0 : (((1 : Int) ≤ x0) ∧ (x0 ≤ (8 : Int)))) : ((0 : Int) ≤ ((1073741824 : Int) - (x0 * (134217728 : Int)))) := by lia
theorem zq265 {x0 : Int} (h0 : (((0 : Int) ≤ x0) ∧ (x0 ≤ ((8 : Int) * (8192 : Int))))) : ((0 : Int) ≤ (x0 * (16384 : Int))) := by lia
theorem zq266 {x0 : Int} {x1 : Int} {x2 : Int} (h0 : (x0 = (((6 : Int) * x1) / (1024 : Int)))) (h1 : (x2 = (((6 : Int) * x1) - ((1024 : Int) * x0)))) (h2 : (((((6 : Int) * x1) * (1048576 : Int)) / (1073741824 : Int)) = x0)) : ((Int.natAbs (x2 * (1048576 : Int))) < ((2 : Nat) ^ (53 : Nat))) := by omega
theorem zq267 {x0 : Int} (h0 : (((0 : Int) ≤ x0) ∧ (x0 ≤ ((8 : Int) * (1024 : Int))))) : ((Int.natAbs (x0 * (131072 : Int))) < ((2 : Nat) ^ (53 : Nat))) := by omega
theorem zq268 {x0 : Int} {x1 : Int} {x2 : Int} (h0 : (x0 = (((6 : Int) * x1) / (1024 : Int)))) (h1 : (x2 = (((6 : Int) * x1) - ((1024 : Int) * x0)))) (h2 : (((((6 : Int) * x1) * (1048576 : Int)) / (1073741824 : Int)) = x0)) : ((0 : Int) ≤ (x2 * (1048576 : Int))) := by lia
theorem zq269 {x0 : Int} (h0 : (((0 : Int) ≤ x0) ∧ (x0 ≤ ((8 : Int) * (1024 : Int))))) : ((0 : Int) ≤ (x0 * (131072 : Int))) := by lia
theorem zq270 {x0 : Int} (h0 : (((0 : Int) ≤ x0) ∧ (x0 ≤ ((8 : Int) * (1024 : Int))))) : ((Int.natAbs (x0 * (131072 : Int))) < ((2 : Nat) ^ (50 : Nat))) := by lia
theorem zq271 {x0 : Int} (h0 : (((0 : Int) ≤ x0) ∧ (x0 ≤ ((8 : Int) * (1024 : Int))))) : ((Int.natAbs ((1073741824 : Int) - (x0 * (131072 : Int)))) < ((2 : Nat) ^ (53 : Nat))) := by omega
theorem zq272 {x0 : Int} (h0 : (((0 : Int) ≤ x0) ∧ (x0 ≤ ((8 : Int) * (1024 : Int))))) : ((0 : Int) ≤ ((1073741824 : Int) - (x0 * (131072 : Int)))) := by lia
theorem zq273 {x0 : Int} {x1 : Int} {x2 : Int} (h0 : (x0 = (((6 : Int) * x1) / (1024 : Int)))) (h1 : (x2 = (((6 : Int) * x1) - ((1024 : Int) * x0)))) (h2 : (((((6 : Int) * x1) * (1048576 : Int)) / (1073741824 : Int)) = x0)) : ((Int.natAbs (x2 * (1048576 : Int))) < ((2 : Nat) ^ (50 : Nat))) := by omega
theorem zq274 {x0 : Int} {x1 : Int} {x2 : Int} (h0 : (x0 = (((6 : Int) * x1) / (1024 : Int)))) (h1 : (x2 = (((6 : Int) * x1) - ((1024 : Int) * x0)))) (h2 : (((((6 : Int) * x1) * (1048576 : Int)) / (1073741824 : Int)) = x0)) : ((Int.natAbs ((1073741824 : Int) - (x2 * (1048576 : Int)))) < ((2 : Nat) ^ (53 : Nat))) := by omega
theorem zq275 {x0 : Int} {x1 : Int} {x2 : Int} (h0 : (x0 = (((6 : Int) * x1) / (1024 : Int)))) (h1 : (x2 = (((6 : Int) * x1) - ((1024 : Int) * x0)))) (h2 : (((((6 : Int) * x1) * (1048576 : Int)) / (1073741824 : Int)) = x0)) : ((0 : Int) ≤ ((1073741824 : Int) - (x2 * (1048576 : Int)))) := by lia
theorem zq277 {x0 : Nat} {x1 : Nat} : (x0 ≤ ((((((((((((((((((((((((((((((x0 + x1) + (1 : Nat)) + (1 : Nat)) + (1 : Nat)) + (1 : Nat)) + (1 : Nat)) + (1 : Nat)) + (1 : Nat)) + (1 : Nat)) + (1 : Nat)) + (1 : Nat)) + (1 : Nat)) + (1 : Nat)) + (1 : Nat)) + (1 : Nat)) + (1 : Nat)) + (1 : Nat)) + (1 : Nat)) + (1 : Nat)) + (1 : Nat)) + (1 : Nat)) + (1 : Nat)) + (1 : Nat)) + (1 : Nat)) + (1 : Nat)) + (1 : Nat)) + (1 : Nat)) + (1 : Nat)) + (1 : Nat)) + (1 : Nat))) := by lia
theorem zq278 {x0 : Nat} {x1 : Nat} (h0 : (((1 : Nat) ≤ x0) ∧ (x0 < x1))) : ((1 : Nat) ≤ x0) := by lia
theorem zq279 {x0 : Nat} {x1 : Nat} {x2 : Nat} (h0 : (((1 : Nat) ≤ x0) ∧ (x0 < x1))) : (x0 < ((((((((((((((((((((((((((((((x1 + x2) + (1 : Nat)) + (1 : Nat)) + (1 : Nat)) + (1 : Nat)) + (1 : Nat)) + (1 : Nat)) + (1 : Nat)) + (1 : Nat)) + (1 : Nat)) + (1 : Nat)) + (1 : Nat)) + (1 : Nat)) + (1 : Nat)) + (1 : Nat)) + (1 : Nat)) + (1 : Nat)) + (1 : Nat)) + (1 : Nat)) + (1 : Nat)) + (1 : Nat)) + (1 : Nat)) + (1 : Nat)) + (1 : Nat)) + (1 : Nat)) + (1 : Nat)) + (1 : Nat)) + (1 : Nat)) + (1 : Nat)) + (1 : Nat))) := by omega
theorem zq280 {x0 : Nat} {x1 : Nat} {x2 : Nat} (h0 : (((1 : Nat) ≤ x0) ∧ (x0 < x1))) : ((1 : Nat) ≤ ((((((((((((((((((((((((x1 + x2) + (1 : Nat)) + (1 : Nat)) + (1 : Nat)) + (1 : Nat)) + (1 : Nat)) + (1 : Nat)) + (1 : Nat)) + (1 : Nat)) + (1 : Nat)) + (1 : Nat)) + (1 : Nat)) + (1 : Nat)) + (1 : Nat)) + (1 : Nat)) + (1 : Nat)) + (1 : Nat)) + (1 : Nat)) + (1 : Nat)) + (1 : Nat)) + (1 : Nat)) + (1 : Nat)) + (1 : Nat)) + (1 : Nat))) := by lia
theorem zq281 {x0 : Nat} {x1 : Nat} : (((((((((((((((((((((((((x0 + x1) + (1 : Nat)) + (1 : Nat)) + (1 : Nat)) + (1 : Nat)) + (1 : Nat)) + (1 : Nat)) + (1 : Nat)) + (1 : Nat)) + (1 : Nat)) + (1 : Nat)) + (1 : Nat)) + (1 : Nat)) + (1 : Nat)) + (1 : Nat)) + (1 : Nat)) + (1 : Nat)) + (1 : Nat)) + (1 : Nat)) + (1 : Nat)) + (1 : Nat)) + (1 : Nat)) + (1 : Nat)) + (1 : Nat)) < ((((((((((((((((((((((((((((((x0 + x1) + (1 : Nat)) + (1 : Nat)) + (1 : Nat)) + (1 : Nat)) + (1 : Nat)) + (1 : Nat)) + (1 : Nat)) + (1 : Nat)) + (1 : Nat)) + (1 : Nat)) + (1 : Nat)) + (1 : Nat)) + (1 : Nat)) + (1 : Nat)) + (1 : Nat)) + (1 : Nat)) + (1 : Nat)) + (1 : Nat)) + (1 : Nat)) + (1 : Nat)) + (1 : Nat)) + (1 : Nat)) + (1 : Nat)) + (1 : Nat)) + (1 : Nat)) + (1 : Nat)) + (1 : Nat)) + (1 : Nat)) + (1 : Nat))) := by lia
theorem zq282 {x0 : Nat} {x1 : Nat} {x2 : Nat} (h0 : (((1 : Nat) ≤ x0) ∧ (x0 < x1))) : ((1 : Nat) ≤ ((((((((((((x1 + x2) + (1 : Nat)) + (1 : Nat)) + (1 : Nat)) + (1 : Nat)) + (1 : Nat)) + (1 : Nat)) + (1 : Nat)) + (1 : Nat)) + (1 : Nat)) + (1 : Nat)) + (1 : Nat))) := by lia
theorem zq283 {x0 : Nat} {x1 : Nat} : (((((((((((((x0 + x1) + (1 : Nat)) + (1 : Nat)) + (1 : Nat)) + (1 : Nat)) + (1 : Nat)) + (1 : Nat)) + (1 : Nat)) + (1 : Nat)) + (1 : Nat)) + (1 : Nat)) + (1 : Nat)) < ((((((((((((((((((((((((((((((x0 + x1) + (1 : Nat)) + (1 : Nat)) + (1 : Nat)) + (1 : Nat)) + (1 : Nat)) + (1 : Nat)) + (1 : Nat)) + (1 : Nat)) + (1 : Nat)) + (1 : Nat)) + (1 : Nat)) + (1 : Nat)) + (1 : Nat)) + (1 : Nat)) + (1 : Nat)) + (1 : Nat)) + (1 : Nat)) + (1 : Nat)) + (1 : Nat)) + (1 : Nat)) + (1 : Nat)) + (1 : Nat)) + (1 : Nat)) + (1 : Nat)) + (1 : Nat)) + (1 : Nat)) + (1 : Nat)) + (1 : Nat)) + (1 : Nat))) := by lia
theorem zq284 {x0 : Nat} {x1 : Nat} : (x0 ≤ (((((((((((((((((((((((((((((((x0 + x1) + (1 : Nat)) + (1 : Nat)) + (1 : Nat)) + (1 : Nat)) + (1 : Nat)) + (1 : Nat)) + (1 : Nat)) + (1 : Nat)) + (1 : Nat)) + (1 : Nat)) + (1 : Nat)) + (1 : Nat)) + (1 : Nat)) + (1 : Nat)) + (1 : Nat)) + (1 : Nat)) + (1 : Nat)) + (1 : Nat)) + (1 : Nat)) + (1 : Nat)) + (1 : Nat)) + (1 : Nat)) + (1 : Nat)) + (1 : Nat)) + (1 : Nat)) + (1 : Nat)) + (1 : Nat)) + (1 : Nat)) + (1 : Nat)) + (1 : Nat))) := by lia
theorem zq285 {x0 : Nat} {x1 : Nat} {x2 : Nat} (h0 : (((1 : Nat) ≤ x0) ∧ (x0 < x1))) : ((1 : Nat) ≤ (((((((((((((((((x1 + x2) + (1 : Nat)) + (1 : Nat)) + (1 : Nat)) + (1 : Nat)) + (1 : Nat)) + (1 : Nat)) + (1 : Nat)) + (1 : Nat)) + (1 : Nat)) + (1 : Nat)) + (1 : Nat)) + (1 : Nat)) + (1 : Nat)) + (1 : Nat)) + (1 : Nat)) + (1 : Nat))) := by lia
theorem zq286 {x0 : Nat} {x1 : Nat} : ((((((((((((((((((x0 + x1) + (1 : Nat)) + (1 : Nat)) + (1 : Nat)) + (1 : Nat)) + (1 : Nat)) + (1 : Nat)) + (1 : Nat)) + (1 : Nat)) + (1 : Nat)) + (1 : Nat)) + (1 : Nat)) + (1 : Nat)) + (1 : Nat)) + (1 : Nat)) + (1 : Nat)) + (1 : Nat)) < (((((((((((((((((((((((((((((((x0 + x1) + (1 : Nat)) + (1 : Nat)) + (1 : Nat)) + (1 : Nat)) + (1 : Nat)) + (1 : Nat)) + (1 : Nat)) + (1 : Nat)) + (1 : Nat)) + (1 : Nat)) + (1 : Nat)) + (1 : Nat)) + (1 : Nat)) + (1 : Nat)) + (1 : Nat)) + (1 : Nat)) + (1 : Nat)) + (1 : Nat)) + (1 : Nat)) + (1 : Nat)) + (1 : Nat)) + (1 : Nat)) + (1 : Nat)) + (1 : Nat)) + (1 : Nat)) + (1 : Nat)) + (1 : Nat)) + (1 : Nat)) + (1 : Nat)) + (1 : Nat))) := by lia
theorem zq287 {x0 : Nat} {x1 : Nat} {x2 : Nat} (h0 : (((1 : Nat) ≤ x0) ∧ (x0 < x1))) : (x0 < (((((((((((((((((((((((((((((((x1 + x2) + (1 : Nat)) + (1 : Nat)) + (1 : Nat)) + (1 : Nat)) + (1 : Nat)) + (1 : Nat)) + (1 : Nat)) + (1 : Nat)) + (1 : Nat)) + (1 : Nat)) + (1 : Nat)) + (1 : Nat)) + (1 : Nat)) + (1 : Nat)) + (1 : Nat)) + (1 : Nat)) + (1 : Nat)) + (1 : Nat)) + (1 : Nat)) + (1 : Nat)) + (1 : Nat)) + (1 : Nat)) + (1 : Nat)) + (1 : Nat)) + (1 : Nat)) + (1 : Nat)) + (1 : Nat)) + (1 : Nat)) + (1 : Nat)) + (1 : Nat))) := by omega
theorem zq288 {x0 : Nat} {x1 : Nat} : (((((((((((((x0 + x1) + (1 : Nat)) + (1 : Nat)) + (1 : Nat)) + (1 : Nat)) + (1 : Nat)) + (1 : Nat)) + (1 : Nat)) + (1 : Nat)) + (1 : Nat)) + (1 : Nat)) + (1 : Nat)) < (((((((((((((((((((((((((((((((x0 + x1) + (1 : Nat)) + (1 : Nat)) + (1 : Nat)) + (1 : Nat)) + (1 : Nat)) + (1 : Nat)) + (1 : Nat)) + (1 : Nat)) + (1 : Nat)) + (1 : Nat)) + (1 : Nat)) + (1 : Nat)) + (1 : Nat)) + (1 : Nat)) + (1 : Nat)) + (1 : Nat)) + (1 : Nat)) + (1 : Nat)) + (1 : Nat)) + (1 : Nat)) + (1 : Nat)) + (1 : Nat)) + (1 : Nat)) + (1 : Nat)) + (1 : Nat)) + (1 : Nat)) + (1 : Nat)) + (1 : Nat)) + (1 : Nat)) + (1 : Nat))) := by lia
theorem zq289 {x0 : Nat} {x1 : Nat} : (x0 ≤ ((((((((((((((((((((((((((((((((x0 + x1) + (1 : Nat)) + (1 : Nat)) + (1 : Nat)) + (1 : Nat)) + (1 : Nat)) + (1 : Nat)) + (1 : Nat)) + (1 : Nat)) + (1 : Nat)) + (1 : Nat)) + (1 : Nat)) + (1 : Nat)) + (1 : Nat)) + (1 : Nat)) + (1 : Nat)) + (1 : Nat)) + (1 : Nat)) + (1 : Nat)) + (1 : Nat)) + (1 : Nat)) + (1 : Nat)) + (1 : Nat)) + (1 : Nat)) + (1 : Nat)) + (1 : Nat)) + (1 : Nat)) + (1 : Nat)) + (1 : Nat)) + (1 : Nat)) + (1 : Nat)) + (1 : Nat))) := by lia
theorem zq290 {x0 : Nat} {x1 : Nat} : (((((((((((((x0 + x1) + (1 : Nat)) + (1 : Nat)) + (1 : Nat)) + (1 : Nat)) + (1 : Nat)) + (1 : Nat)) + (1 : Nat)) + (1 : Nat)) + (1 : Nat)) + (1 : Nat)) + (1 : Nat)) < ((((((((((((((((((((((((((((((((x0 + x1) + (1 : Nat)) + (1 : Nat)) + (1 : Nat)) + (1 : Nat)) + (1 : Nat)) + (1 : Nat)) + (1 : Nat)) + (1 : Nat)) + (1 : Nat)) + (1 : Nat)) + (1 : Nat)) + (1 : Nat)) + (1 : Nat)) + (1 : Nat)) + (1 : Nat)) + (1 : Nat)) + (1 : Nat)) + (1 : Nat)) + (1 : Nat)) + (1 : Nat)) + (1 : Nat)) + (1 : Nat)) + (1 : Nat)) + (1 : Nat)) + (1 : Nat)) + (1 : Nat)) + (1 : Nat)) + (1 : Nat)) + (1 : Nat)) + (1 : Nat)) + (1 : Nat))) := by lia
theorem zq291 {x0 : Nat} {x1 : Nat} {x2 : Nat} (h0 : (((1 : Nat) ≤ x0) ∧ (x0 < x1))) : (x0 < ((((((((((((((((((((((((((((((((x1 + x2) + (1 : Nat)) + (1 : Nat)) + (1 : Nat)) + (1 : Nat)) + (1 : Nat)) + (1 : Nat)) + (1 : Nat)) + (1 : Nat)) + (1 : Nat)) + (1 : Nat)) + (1 : Nat)) + (1 : Nat)) + (1 : Nat)) + (1 : Nat)) + (1 : Nat)) + (1 : Nat)) + (1 : Nat)) + (1 : Nat)) + (1 : Nat)) + (1 : Nat)) + (1 : Nat)) + (1 : Nat)) + (1 : Nat)) + (1 : Nat)) + (1 : Nat)) + (1 : Nat)) + (1 : Nat)) + (1 : Nat)) + (1 : Nat)) + (1 : Nat)) + (1 : Nat))) := by omega
theorem zq292 {x0 : Nat} {x1 : Nat} : (((((((((((((((((((((((((x0 + x1) + (1 : Nat)) + (1 : Nat)) + (1 : Nat)) + (1 : Nat)) + (1 : Nat)) + (1 : Nat)) + (1 : Nat)) + (1 : Nat)) + (1 : Nat)) + (1 : Nat)) + (1 : Nat)) + (1 : Nat)) + (1 : Nat)) + (1 : Nat)) + (1 : Nat)) + (1 : Nat)) + (1 : Nat)) + (1 : Nat)) + (1 : Nat)) + (1 : Nat)) + (1 : Nat)) + (1 : Nat)) + (1 : Nat)) < ((((((((((((((((((((((((((((((((x0 + x1) + (1 : Nat)) + (1 : Nat)) + (1 : Nat)) + (1 : Nat)) + (1 : Nat)) + (1 : Nat)) + (1 : Nat)) + (1 : Nat)) + (1 : Nat)) + (1 : Nat)) + (1 : Nat)) + (1 : Nat)) + (1 : Nat)) + (1 : Nat)) + (1 : Nat)) + (1 : Nat)) + (1 : Nat)) + (1 : Nat)) + (1 : Nat)) + (1 : Nat)) + (1 : Nat)) + (1 : Nat)) + (1 : Nat)) + (1 : Nat)) + (1 : Nat)) + (1 : Nat)) + (1 : Nat)) + (1 : Nat)) + (1 : Nat)) + (1 : Nat)) + (1 : Nat))) := by omega
theorem zq293 {x0 : Nat} {x1 : Nat} : (x0 ≤ (((((((((((((((((((((((((((((((((x0 + x1) + (1 : Nat)) + (1 : Nat)) + (1 : Nat)) + (1 : Nat)) + (1 : Nat)) + (1 : Nat)) + (1 : Nat)) + (1 : Nat)) + (1 : Nat)) + (1 : Nat)) + (1 : Nat)) + (1 : Nat)) + (1 : Nat)) + (1 : Nat)) + (1 : Nat)) + (1 : Nat)) + (1 : Nat)) + (1 : Nat)) + (1 : Nat)) + (1 : Nat)) + (1 : Nat)) + (1 : Nat)) + (1 : Nat)) + (1 : Nat)) + (1 : Nat)) + (1 : Nat)) + (1 : Nat)) + (1 : Nat)) + (1 : Nat)) + (1 : Nat)) + (1 : Nat)) + (1 : Nat))) := by lia
theorem zq294 {x0 : Nat} {x1 : Nat} : (((((((((((((x0 + x1) + (1 : Nat)) + (1 : Nat)) + (1 : Nat)) + (1 : Nat)) + (1 : Nat)) + (1 : Nat)) + (1 : Nat)) + (1 : Nat)) + (1 : Nat)) + (1 : Nat)) + (1 : Nat)) < (((((((((((((((((((((((((((((((((x0 + x1) + (1 : Nat)) + (1 : Nat)) + (1 : Nat)) + (1 : Nat)) + (1 : Nat)) + (1 : Nat)) + (1 : Nat)) + (1 : Nat)) + (1 : Nat)) + (1 : Nat)) + (1 : Nat)) + (1 : Nat)) + (1 : Nat)) + (1 : Nat)) + (1 : Nat)) + (1 : Nat)) + (1 : Nat)) + (1 : Nat)) + (1 : Nat)) + (1 : Nat)) + (1 : Nat)) + (1 : Nat)) + (1 : Nat)) + (1 : Nat)) + (1 : Nat)) + (1 : Nat)) + (1 : Nat)) + (1 : Nat)) + (1 : Nat)) + (1 : Nat)) + (1 : Nat)) + (1 : Nat))) := by lia
theorem zq295 {x0 : Nat} {x1 : Nat} : ((((((((((((((((((x0 + x1) + (1 : Nat)) + (1 : Nat)) + (1 : Nat)) + (1 : Nat)) + (1 : Nat)) + (1 : Nat)) + (1 : Nat)) + (1 : Nat)) + (1 : Nat)) + (1 : Nat)) + (1 : Nat)) + (1 : Nat)) + (1 : Nat)) + (1 : Nat)) + (1 : Nat)) + (1 : Nat)) < (((((((((((((((((((((((((((((((((x0 + x1) + (1 : Nat)) + (1 : Nat)) + (1 : Nat)) + (1 : Nat)) + (1 : Nat)) + (1 : Nat)) + (1 : Nat)) + (1 : Nat)) + (1 : Nat)) + (1 : Nat)) + (1 : Nat)) + (1 : Nat)) + (1 : Nat)) + (1 : Nat)) + (1 : Nat)) + (1 : Nat)) + (1 : Nat)) + (1 : Nat)) + (1 : Nat)) + (1 : Nat)) + (1 : Nat)) + (1 : Nat)) + (1 : Nat)) + (1 : Nat)) + (1 : Nat)) + (1 : Nat)) + (1 : Nat)) + (1 : Nat)) + (1 : Nat)) + (1 : Nat)) + (1 : Nat)) + (1 : Nat))) := by lia
theorem zq296 {x0 : Nat} {x1 : Nat} {x2 : Nat} (h0 : (((1 : Nat) ≤ x0) ∧ (x0 < x1))) : (x0 < (((((((((((((((((((((((((((((((((x1 + x2) + (1 : Nat)) + (1 : Nat)) + (1 : Nat)) + (1 : Nat)) + (1 : Nat)) + (1 : Nat)) + (1 : Nat)) + (1 : Nat)) + (1 : Nat)) + (1 : Nat)) + (1 : Nat)) + (1 : Nat)) + (1 : Nat)) + (1 : Nat)) + (1 : Nat)) + (1 : Nat)) + (1 : Nat)) + (1 : Nat)) + (1 : Nat)) + (1 : Nat)) + (1 : Nat)) + (1 : Nat)) + (1 : Nat)) + (1 : Nat)) + (1 : Nat)) + (1 : Nat)) + (1 : Nat)) + (1 : Nat)) + (1 : Nat)) + (1 : Nat)) + (1 : Nat)) + (1 : Nat))) := by omega
theorem zq297 {x0 : Nat} {x1 : Nat} : (x0 ≤ ((((((((((((((((((((((((((((((((((x0 + x1) + (1 : Nat)) + (1 : Nat)) + (1 : Nat)) + (1 : Nat)) + (1 : Nat)) + (1 : Nat)) + (1 : Nat)) + (1 : Nat)) + (1 : Nat)) + (1 : Nat)) + (1 : Nat)) + (1 : Nat)) + (1 : Nat)) + (1 : Nat)) + (1 : Nat)) + (1 : Nat)) + (1 : Nat)) + (1 : Nat)) + (1 : Nat)) + (1 : Nat)) + (1 : Nat)) + (1 : Nat)) + (1 : Nat)) + (1 : Nat)) + (1 : Nat)) + (1 : Nat)) + (1 : Nat)) + (1 : Nat)) + (1 : Nat)) + (1 : Nat)) + (1 : Nat)) + (1 : Nat)) + (1 : Nat))) := by lia
theorem zq298 {x0 : Nat} {x1 : Nat} : (((((((((((((((((((((((((x0 + x1) + (1 : Nat)) + (1 : Nat)) + (1 : Nat)) + (1 : Nat)) + (1 : Nat)) + (1 : Nat)) + (1 : Nat)) + (1 : Nat)) + (1 : Nat)) + (1 : Nat)) + (1 : Nat)) + (1 : Nat)) + (1 : Nat)) + (1 : Nat)) + (1 : Nat)) + (1 : Nat)) + (1 : Nat)) + (1 : Nat)) + (1 : Nat)) + (1 : Nat)) + (1 : Nat)) + (1 : Nat)) + (1 : Nat)) < ((((((((((((((((((((((((((((((((((x0 + x1) + (1 : Nat)) + (1 : Nat)) + (1 : Nat)) + (1 : Nat)) + (1 : Nat)) + (1 : Nat)) + (1 : Nat)) + (1 : Nat)) + (1 : Nat)) + (1 : Nat)) + (1 : Nat)) + (1 : Nat)) + (1 : Nat)) + (1 : Nat)) + (1 : Nat)) + (1 : Nat)) + (1 : Nat)) + (1 : Nat)) + (1 : Nat)) + (1 : Nat)) + (1 : Nat)) + (1 : Nat)) + (1 : Nat)) + (1 : Nat)) + (1 : Nat)) + (1 : Nat)) + (1 : Nat)) + (1 : Nat)) + (1 : Nat)) + (1 : Nat)) + (1 : Nat)) + (1 : Nat)) + (1 : Nat))) := by lia
theorem zq299 {x0 : Nat} {x1 : Nat} : (((((((((((((x0 + x1) + (1 : Nat)) + (1 : Nat)) + (1 : Nat)) + (1 : Nat)) + (1 : Nat)) + (1 : Nat)) + (1 : Nat)) + (1 : Nat)) + (1 : Nat)) + (1 : Nat)) + (1 : Nat)) < ((((((((((((((((((((((((((((((((((x0 + x1) + (1 : Nat)) + (1 : Nat)) + (1 : Nat)) + (1 : Nat)) + (1 : Nat)) + (1 : Nat)) + (1 : Nat)) + (1 : Nat)) + (1 : Nat)) + (1 : Nat)) + (1 : Nat)) + (1 : Nat)) + (1 : Nat)) + (1 : Nat)) + (1 : Nat)) + (1 : Nat)) + (1 : Nat)) + (1 : Nat)) + (1 : Nat)) + (1 : Nat)) + (1 : Nat)) + (1 : Nat)) + (1 : Nat)) + (1 : Nat)) + (1 : Nat)) + (1 : Nat)) + (1 : Nat)) + (1 : Nat)) + (1 : Nat)) + (1 : Nat)) + (1 : Nat)) + (1 : Nat)) + (1 : Nat))) := by lia
theorem zq300 {x0 : Nat} {x1 : Nat} {x2 : Nat} (h0 : (((1 : Nat) ≤ x0) ∧ (x0 < x1))) : (x0 < ((((((((((((((((((((((((((((((((((x1 + x2) + (1 : Nat)) + (1 : Nat)) + (1 : Nat)) + (1 : Nat)) + (1 : Nat)) + (1 : Nat)) + (1 : Nat)) + (1 : Nat)) + (1 : Nat)) + (1 : Nat)) + (1 : Nat)) + (1 : Nat)) + (1 : Nat)) + (1 : Nat)) + (1 : Nat)) + (1 : Nat)) + (1 : Nat)) + (1 : Nat)) + (1 : Nat)) + (1 : Nat)) + (1 : Nat)) + (1 : Nat)) + (1 : Nat)) + (1 : Nat)) + (1 : Nat)) + (1 : Nat)) + (1 : Nat)) + (1 : Nat)) + (1 : Nat)) + (1 : Nat)) + (1 : Nat)) + (1 : Nat)) + (1 : Nat))) := by omega
theorem zq301 {x0 : Int} {x1 : Int} (h0 : (x0 = (((6 : Int) * x1) / (1024 : Int)))) (h1 : (¬ ((x0 % (6 : Int)) = (0 : Int)))) (h2 : (¬ ((x0 % (6 : Int)) = (1 : Int)))) (h3 : (¬ ((x0 % (6 : Int)) = (2 : Int)))) (h4 : (¬ ((x0 % (6 : Int)) = (3 : Int)))) (h5 : (¬ ((x0 % (6 : Int)) = (4 : Int)))) (h6 : (¬ ((x0 % (6 : Int)) = (5 : Int)))) : (¬ True) := by lia
theorem zq302 {x0 : Nat} {x1 : Nat} : (x0 ≤ (((((((((((((((((((((((((((((((((((x0 + x1) + (1 : Nat)) + (1 : Nat)) + (1 : Nat)) + (1 : Nat)) + (1 : Nat)) + (1 : Nat)) + (1 : Nat)) + (1 : Nat)) + (1 : Nat)) + (1 : Nat)) + (1 : Nat)) + (1 : Nat)) + (1 : Nat)) + (1 : Nat)) + (1 : Nat)) + (1 : Nat)) + (1 : Nat)) + (1 : Nat)) + (1 : Nat)) + (1 : Nat)) + (1 : Nat)) + (1 : Nat)) + (1 : Nat)) + (1 : Nat)) + (1 : Nat)) + (1 : Nat)) + (1 : Nat)) + (1 : Nat)) + (1 : Nat)) + (1 : Nat)) + (1 : Nat)) + (1 : Nat)) + (1 : Nat)) + (1 : Nat))) := by lia
theorem zq303 {x0 : Nat} {x1 : Nat} {x2 : Nat} (h0 : (((1 : Nat) ≤ x0) ∧ (x0 < x1))) : (x0 < (((((((((((((((((((((((((((((((((((x1 + x2) + (1 : Nat)) + (1 : Nat)) + (1 : Nat)) + (1 : Nat)) + (1 : Nat)) + (1 : Nat)) + (1 : Nat)) + (1 : Nat)) + (1 : Nat)) + (1 : Nat)) + (1 : Nat)) + (1 : Nat)) + (1 : Nat)) + (1 : Nat)) + (1 : Nat)) + (1 : Nat)) + (1 : Nat)) + (1 : Nat)) + (1 : Nat)) + (1 : Nat)) + (1 : Nat)) + (1 : Nat)) + (1 : Nat)) + (1 : Nat)) + (1 : Nat)) + (1 : Nat)) + (1 : Nat)) + (1 : Nat)) + (1 : Nat)) + (1 : Nat)) + (1 : Nat)) + (1 : Nat)) + (1 : Nat)) + (1 : Nat))) := by lia
theorem zq304 {x0 : Nat} {x1 : Nat} : (((((((((((((x0 + x1) + (1 : Nat)) + (1 : Nat)) + (1 : Nat)) + (1 : Nat)) + (1 : Nat)) + (1 : Nat)) + (1 : Nat)) + (1 : Nat)) + (1 : Nat)) + (1 : Nat)) + (1 : Nat)) < (((((((((((((((((((((((((((((((((((x0 + x1) + (1 : Nat)) + (1 : Nat)) + (1 : Nat)) + (1 : Nat)) + (1 : Nat)) + (1 : Nat)) + (1 : Nat)) + (1 : Nat)) + (1 : Nat)) + (1 : Nat)) + (1 : Nat)) + (1 : Nat)) + (1 : Nat)) + (1 : Nat)) + (1 : Nat)) + (1 : Nat)) + (1 : Nat)) + (1 : Nat)) + (1 : Nat)) + (1 : Nat)) + (1 : Nat)) + (1 : Nat)) + (1 : Nat)) + (1 : Nat)) + (1 : Nat)) + (1 : Nat)) + (1 : Nat)) + (1 : Nat)) + (1 : Nat)) + (1 : Nat)) + (1 : Nat)) + (1 : Nat)) + (1 : Nat)) + (1 : Nat))) := by omega
theorem zq305 {x0 : Nat} {x1 : Nat} : ((((((((((((((((((x0 + x1) + (1 : Nat)) + (1 : Nat)) + (1 : Nat)) + (1 : Nat)) + (1 : Nat)) + (1 : Nat)) + (1 : Nat)) + (1 : Nat)) + (1 : Nat)) + (1 : Nat)) + (1 : Nat)) + (1 : Nat)) + (1 : Nat)) + (1 : Nat)) + (1 : Nat)) + (1 : Nat)) < (((((((((((((((((((((((((((((((((((x0 + x1) + (1 : Nat)) + (1 : Nat)) + (1 : Nat)) + (1 : Nat)) + (1 : Nat)) + (1 : Nat)) + (1 : Nat)) + (1 : Nat)) + (1 : Nat)) + (1 : Nat)) + (1 : Nat)) + (1 : Nat)) + (1 : Nat)) + (1 : Nat)) + (1 : Nat)) + (1 : Nat)) + (1 : Nat)) + (1 : Nat)) + (1 : Nat)) + (1 : Nat)) + (1 : Nat)) + (1 : Nat)) + (1 : Nat)) + (1 : Nat)) + (1 : Nat)) + (1 : Nat)) + (1 : Nat)) + (1 : Nat)) + (1 : Nat)) + (1 : Nat)) + (1 : Nat)) + (1 : Nat)) + (1 : Nat)) + (1 : Nat))) := by lia
theorem zq306 {x0 : Int} (h0 : (((1 : Int) * (1 : Int)) ≤ x0)) : ((1 : Int) ≤ x0) := by lia
theorem zq307 {x0 : Int} (h0 : ((1 : Int) ≤ x0)) : ((0 : Int) ≤ x0) := by omega
theorem zq308 {x0 : Int} {x1 : Int} {x2 : Int} {x3 : Int} (h0 : ((x0 * (0 : Int)) ≤ x1)) (h1 : ((x0 * (0 : Int)) ≤ x2)) : ((max (max ((x3 * (134217728 : Int)) - ((x0 * (0 : Int)) * (16384 : Int))) ((x3 * (134217728 : Int)) - (x1 * (16384 : Int)))) ((x3 * (134217728 : Int)) - (x2 * (16384 : Int)))) = (x3 * (134217728 : Int))) := (hMax (hSub 16384 h0) (hSub 16384 h1)).trans hZ
theorem zq309 {x0 : Int} {x1 : Int} {x2 : Int} {x3 : Int} (h0 : ((x0 * (0 : Int)) ≤ x1)) (h1 : ((x0 * (0 : Int)) ≤ x2)) : ((max (max ((x3 * (134217728 : Int)) - (x1 * (16384 : Int))) ((x3 * (134217728 : Int)) - ((x0 * (0 : Int)) * (16384 : Int)))) ((x3 * (134217728 : Int)) - (x2 * (16384 : Int)))) = (x3 * (134217728 : Int))) := (by rw [Int.max_comm (_ - x1 * _)]; exact hMax (hSub 16384 h0) (hSub 16384 h1) : max (max _ _) _ = _).trans hZ
theorem zq310 {x0 : Int} {x1 : Int} {x2 : Int} {x3 : Int} (h0 : ((x0 * (0 : Int)) ≤ x1)) (h1 : ((x0 * (0 : Int)) ≤ x2)) : ((max (max ((x3 * (134217728 : Int)) - (x1 * (16384 : Int))) ((x3 * (134217728 : Int)) - (x2 * (16384 : Int)))) ((x3 * (134217728 : Int)) - ((x0 * (0 : Int)) * (16384 : Int)))) = (x3 * (134217728 : Int))) := (by rw [Int.max_comm, ← Int.max_assoc]; exact hMax (hSub 16384 h0) (hSub 16384 h1) : max (max _ _) _ = _).trans hZ
theorem zq311 {x0 : Int} {x1 : Int} {x2 : Int} {x3 : Int} (h0 : (x0 ≤ (x1 * (1024 : Int)))) (h1 : (x2 ≤ (x1 * (1024 : Int)))) : ((min (min ((x3 * (134217728 : Int)) - ((x1 * (1024 : Int)) * (16384 : Int))) ((x3 * (134217728 : Int)) - (x0 * (16384 : Int)))) ((x3 * (134217728 : Int)) - (x2 * (16384 : Int)))) = ((x3 * (134217728 : Int)) - ((x1 * (1024 : Int)) * (16384 : Int)))) := hMin (hSub 16384 h0) (hSub 16384 h1)
theorem zq312 {x0 : Int} {x1 : Int} {x2 : Int} {x3 : Int} (h0 : (x0 ≤ (x1 * (1024 : Int)))) (h1 : (x2 ≤ (x1 * (1024 : Int)))) : ((min (min ((x3 * (134217728 : Int)) - (x0 * (16384 : Int))) ((x3 * (134217728 : Int)) - ((x1 * (1024 : Int)) * (16384 : Int)))) ((x3 * (134217728 : Int)) - (x2 * (16384 : Int)))) = ((x3 * (134217728 : Int)) - ((x1 * (1024 : Int)) * (16384 : Int)))) := by rw [Int.min_comm (_ - x0 * _)]; exact hMin (hSub 16384 h0) (hSub 16384 h1)
theorem zq313 {x0 : Int} {x1 : Int} {x2 : Int} {x3 : Int} (h0 : (x0 ≤ (x1 * (1024 : Int)))) (h1 : (x2 ≤ (x1 * (1024 : Int)))) : ((min (min ((x3 * (134217728 : Int)) - (x0 * (16384 : Int))) ((x3 * (134217728 : Int)) - (x2 * (16384 : Int)))) ((x3 * (134217728 : Int)) - ((x1 * (1024 : Int)) * (16384 : Int)))) = ((x3 * (134217728 : Int)) - ((x1 * (1024 : Int)) * (16384 : Int)))) := by rw [Int.min_comm, ← Int.min_assoc]; exact hMin (hSub 16384 h0) (hSub 16384 h1)
theorem zq314 {x0 : Int} {x1 : Int} {x2 : Int} {x3 : Int} (h0 : ((1 : Int) ≤ x0)) (h1 : (((x1 * (134217728 : Int)) - (x2 * (16384 : Int))) = (x1 * (134217728 : Int)))) (h2 : (x0 ≤ x2)) : (x3 = (0 : Int)) := by lia
theorem zq315 {x0 : Int} (h0 : ((0 : Int) ≤ x0)) (h1 : (x0 ≤ (1024 : Int))) (h2 : (¬ ((1 : Int) ≤ x0))) : (x0 = (0 : Int)) := by lia
theorem zq316 {x0 : Int} {x1 : Int} : (((x0 * (134217728 : Int)) - ((x1 * (0 : Int)) * (16384 : Int))) = (x0 * (134217728 : Int))) := by lia
theorem zq317 {x0 : Int} {x1 : Int} (h0 : ((x0 % (1024 : Int)) = (x1 % (1024 : Int)))) : (((x0 * (1048576 : Int)) % (1073741824 : Int)) = ((x1 % (1024 : Int)) * (1048576 : Int))) := by lia
theorem zq318 {x0 : Int} (h0 : (((0 : Int) ≤ x0) ∧ (x0 ≤ (1024 : Int)))) : (((0 : Int) ≤ (x0 * (1048576 : Int))) ∧ ((x0 * (1048576 : Int)) ≤ (1073741824 : Int))) := by lia
theorem zq319 {x0 : Int} {x1 : Int} {x2 : Int} (h0 : ((1 : Int) ≤ x0)) (h1 : ((x1 * (16384 : Int)) = ((x2 * (134217728 : Int)) - ((x0 * (1024 : Int)) * (16384 : Int))))) : ((x1 * (16384 : Int)) < (x2 * (134217728 : Int))) := by lia
theorem zq320 {x0 : Int} {x1 : Int} {x2 : Int} (h0 : ((x0 - x1) = ((6 : Int) * x2))) : (((x0 * (1048576 : Int)) - (x1 * (1048576 : Int))) = ((6 : Int) * (x2 * (1048576 : Int)))) := by lia
theorem zq321 {x0 : Int} {x1 : Int} {x2 : Int} (h0 : ((((2048 : Int) + x0) - x1) = ((6 : Int) * x2))) : ((((2147483648 : Int) + (x0 * (1048576 : Int))) - (x1 * (1048576 : Int))) = ((6 : Int) * (x2 * (1048576 : Int)))) := by lia
theorem zq322 {x0 : Int} {x1 : Int} {x2 : Int} (h0 : ((((4096 : Int) + x0) - x1) = ((6 : Int) * x2))) : ((((4294967296 : Int) + (x0 * (1048576 : Int))) - (x1 * (1048576 : Int))) = ((6 : Int) * (x2 * (1048576 : Int)))) := by lia
theorem zq323 {x0 : Nat} : ((-((2 : Int) ^ (63 : Nat))) ≤ ((x0 : Nat) : Int)) := by lia
theorem zq324 {x0 : Nat} {x1 : Nat} (h0 : (x0 < x1)) : (x0 < (x1 + (1 : Nat))) := by omega
theorem zq325 {x0 : Nat} {x1 : Nat} {x2 : Nat} (h0 : ((x0 + x1) < x2)) : ((x0 + (0 : Nat)) < x2) := by lia
theorem zq326 {x0 : Nat} (h0 : ((1 : Nat) ≤ x0)) (h1 : (x0 = (0 : Nat))) : False := by lia
theorem zq327 {x0 : Int} {x1 : Int} {x2 : Int} {x3 : Int} (h0 : (x0 = x1)) (h1 : (x2 = x3)) : ((x1 ≤ x0) ∧ ((x0 = x1) → (x3 ≤ x2))) := by lia
theorem zq328 {x0 : Nat} {x1 : Nat} (h0 : ((x0 + (10 : Nat)) < x1)) : ((x0 + (1 : Nat)) < x1) := by lia
theorem zq329 {x0 : Int} {x1 : Int} (h0 : (x0 = x1)) : (¬ (x0 < x1)) := by lia
theorem zq330 {x0 : Nat} {x1 : Nat} (h0 : ((x0 + (10 : Nat)) < x1)) : ((x0 + (2 : Nat)) < x1) := by lia
theorem zq331 {x0 : Nat} {x1 : Nat} (h0 : ((x0 + (10 : Nat)) < x1)) : (x0 < x1) := by lia
theorem zq332 {x0 : Nat} {x1 : Nat} (h0 : ((x0 + (10 : Nat)) < x1)) : (((x0 + (1 : Nat)) + (1 : Nat)) < x1) := by lia
theorem zq333 {x0 : Nat} {x1 : Nat} (h0 : (x0 ≤ x1)) (h1 : ((1 : Nat) ≤ x1)) (h2 : (¬ (x0 = x1))) : (x0 ≤ (x1 - (1 : Nat))) := by lia
theorem zq334 {x0 : Nat} (h0 : ((1 : Nat) ≤ x0)) : ((x0 - (1 : Nat)) < x0) := by lia
theorem zq335 {x0 : Nat} {x1 : Nat} (h0 : (x0 < (x1 + (1 : Nat)))) (h1 : (¬ (x0 = x1))) : (x0 < x1) := by omega
theorem zq336 {x0 : Nat} {x1 : Nat} {x2 : Nat} (h0 : ((x0 ≤ x1) ∧ (x1 < x2))) : (x0 ≤ (((x0 + x2) - (1 : Nat)) - x1)) := by omega
theorem zq337 {x0 : Nat} {x1 : Nat} {x2 : Nat} (h0 : ((x0 ≤ x1) ∧ (x1 < x2))) : ((((x0 + x2) - (1 : Nat)) - x1) < x2) := by omega
theorem zq338 {x0 : Nat} {x1 : Nat} {x2 : Nat} {x3 : Nat} (h0 : (x0 ≤ x1)) (h1 : ((x2 ≤ x0) ∧ (x0 < x3))) (h2 : (¬ ((x2 ≤ x1) ∧ (x1 < x3)))) : ((((x2 + x3) - (1 : Nat)) - x0) ≤ x1) := by omega
theorem zq339 {x0 : Nat} {x1 : Nat} {x2 : Nat} {x3 : Nat} (h0 : (x0 ≤ x1)) (h1 : (¬ ((x2 ≤ x0) ∧ (x0 < x3)))) (h2 : ((x2 ≤ x1) ∧ (x1 < x3))) : (x0 ≤ (((x2 + x3) - (1 : Nat)) - x1)) := by lia
theorem zq340 {x0 : Nat} {x1 : Nat} {x2 : Nat} {x3 : Nat} (h0 : (x0 ≤ x1)) (h1 : ((x2 ≤ x3) ∧ (x3 < x0))) : ((((x2 + x0) - (1 : Nat)) - x3) < x1) := by omega
theorem zq341 {x0 : Nat} {x1 : Nat} (h0 : (x0 < x1)) : (((0 : Nat) ≤ x0) ∧ (x0 < x1)) := by lia
theorem zq342 {x0 : Nat} {x1 : Nat} {x2 : Nat} (h0 : (x0 ≤ x1)) (h1 : (x1 < x2)) : (((0 : Nat) ≤ x0) ∧ (x0 < x2)) := by lia
theorem zq343 {x0 : Nat} {x1 : Nat} {x2 : Nat} (h0 : (x0 ≤ x1)) (h1 : (x1 < x2)) : (((((0 : Nat) + x2) - (1 : Nat)) - x1) ≤ ((((0 : Nat) + x2) - (1 : Nat)) - x0)) := by lia
theorem zq344 {x0 : Nat} {x1 : Nat} {x2 : Nat} (h0 : (x0 ≤ x1)) (h1 : (x1 < x2)) : (((((0 : Nat) + x2) - (1 : Nat)) - x0) < x2) := by omega
theorem zq345 {x0 : Nat} (h0 : (x0 < (x0 + (0 : Nat)))) : (¬ (x0 < (x0 + (0 : Nat)))) := by lia
theorem zq346 {x0 : Nat} (h0 : ((1 : Nat) ≤ x0)) : ((1 : Nat) ≤ (x0 + (1 : Nat))) := by lia
theorem zq347 {x0 : Nat} {x1 : Nat} {x2 : Nat} (h0 : ((x0 + (x1 + (1 : Nat))) ≤ x2)) : (((x0 + (1 : Nat)) + x1) ≤ x2) := by lia
theorem zq350 {x0 : Nat} {x1 : Nat} {x2 : Nat} (h0 : (x0 < (x1 + (x2 + (1 : Nat))))) : (x0 < ((x1 + (1 : Nat)) + x2)) := by lia
theorem zq351 {x0 : Nat} {x1 : Nat} : (x0 ≤ (x0 + (x1 + (1 : Nat)))) := by lia
theorem zq352 {x0 : Nat} {x1 : Nat} {x2 : Nat} (h0 : (((x0 + (1 : Nat)) - ((0 : Nat) + (1 : Nat))) ≤ x1)) (h1 : (x1 < (x0 + (1 : Nat)))) (h2 : (((x0 + (1 : Nat)) - ((0 : Nat) + (1 : Nat))) ≤ x2)) (h3 : (x2 < (x0 + (1 : Nat)))) : (x1 = x2) := by lia
theorem zq353 {x0 : Nat} {x1 : Nat} (h0 : ((x0 + (1 : Nat)) ≤ x1)) : (((x0 + (1 : Nat)) + (1 : Nat)) ≤ (x1 + (1 : Nat))) := by lia
theorem zq354 {x0 : Nat} {x1 : Nat} (h0 : ((x0 + (1 : Nat)) ≤ x1)) : ((1 : Nat) ≤ x1) := by lia
theorem zq355 {x0 : Nat} {x1 : Nat} {x2 : Nat} (h0 : ((x0 - (x1 + (1 : Nat))) ≤ x2)) (h1 : (x2 < x0)) : ((x0 - (x1 + (1 : Nat))) ≤ (x0 - (1 : Nat))) := by omega
theorem zq356 {x0 : Nat} {x1 : Nat} (h0 : (x0 < x1)) : ((x1 - (1 : Nat)) < x1) := by omega
theorem zq357 {x0 : Nat} {x1 : Nat} {x2 : Nat} {x3 : Nat} (h0 : ((x0 + (1 : Nat)) ≤ x1)) (h1 : (((x1 + (1 : Nat)) - ((x0 + (1 : Nat)) + (1 : Nat))) ≤ x2)) (h2 : (x2 < (x1 + (1 : Nat)))) (h3 : (x3 = x1)) (h4 : (¬ (x2 = x1))) : ((x1 - (x0 + (1 : Nat))) ≤ x2) := by lia
theorem zq358 {x0 : Nat} {x1 : Nat} {x2 : Nat} (h0 : (x0 < (x1 + (1 : Nat)))) (h1 : (x2 = x1)) (h2 : (¬ (x0 = x1))) : (x0 < x1) := by lia
theorem zq359 {x0 : Nat} {x1 : Nat} {x2 : Nat} {x3 : Nat} (h0 : ((x0 + (1 : Nat)) ≤ x1)) (h1 : (((x1 + (1 : Nat)) - ((x0 + (1 : Nat)) + (1 : Nat))) ≤ x2)) (h2 : (x2 < (x1 + (1 : Nat)))) (h3 : (¬ (x2 = x1))) (h4 : (x3 = x1)) : ((x1 - (x0 + (1 : Nat))) ≤ x2) := by lia
theorem zq360 {x0 : Nat} {x1 : Nat} {x2 : Nat} (h0 : (x0 < (x1 + (1 : Nat)))) (h1 : (¬ (x0 = x1))) (h2 : (x2 = x1)) : (x0 < x1) := by lia
theorem zq361 {x0 : Nat} {x1 : Nat} {x2 : Nat} {x3 : Nat} (h0 : ((x0 + (1 : Nat)) ≤ x1)) (h1 : (((x1 + (1 : Nat)) - ((x0 + (1 : Nat)) + (1 : Nat))) ≤ x2)) (h2 : (x2 < (x1 + (1 : Nat)))) (h3 : (x3 < (x1 + (1 : Nat)))) (h4 : (¬ (x2 = x1))) (h5 : (¬ (x3 = x1))) : ((x1 - (x0 + (1 : Nat))) ≤ x2) := by lia
theorem zq362 {x0 : Nat} {x1 : Nat} {x2 : Nat} (h0 : (x0 < (x1 + (1 : Nat)))) (h1 : (x2 < (x1 + (1 : Nat)))) (h2 : (¬ (x0 = x1))) (h3 : (¬ (x2 = x1))) : (x0 < x1) := by lia
theorem zq363 {x0 : Nat} {x1 : Nat} {x2 : Nat} {x3 : Nat} (h0 : ((x0 + (1 : Nat)) ≤ x1)) (h1 : (x2 < (x1 + (1 : Nat)))) (h2 : (((x1 + (1 : Nat)) - ((x0 + (1 : Nat)) + (1 : Nat))) ≤ x3)) (h3 : (x3 < (x1 + (1 : Nat)))) (h4 : (¬ (x2 = x1))) (h5 : (¬ (x3 = x1))) : ((x1 - (x0 + (1 : Nat))) ≤ x3) := by lia
theorem zq364 {x0 : Nat} {x1 : Nat} {x2 : Nat} (h0 : ((x0 + (x1 + (1 : Nat))) ≤ x2)) : (x0 ≤ x2) := by omega
theorem zq365 {x0 : Nat} : (((0 : Nat) + (1 : Nat)) ≤ (x0 + (1 : Nat))) := by lia
theorem zq366 {x0 : Nat} {x1 : Nat} (h0 : ((x0 + (1 : Nat)) ≤ x1)) (h1 : (x0 > (0 : Nat))) : ((1 : Nat) ≤ x1) := by omega
theorem zq367 {x0 : Nat} {x1 : Nat} (h0 : ((x0 + (1 : Nat)) ≤ x1)) (h1 : (x0 > (0 : Nat))) : (((x1 - (x0 + (1 : Nat))) ≤ (x1 - (1 : Nat))) ∧ ((x1 - (1 : Nat)) < x1)) := by lia
theorem zq368 {x0 : Nat} {x1 : Nat} : (¬ (((x0 - (x1 + (1 : Nat))) ≤ x0) ∧ (x0 < x0))) := by lia
theorem zq369 {x0 : Nat} {x1 : Nat} (h0 : ((x0 + (1 : Nat)) ≤ x1)) (h1 : (x0 > (0 : Nat))) : ((x1 - (x0 + (1 : Nat))) ≤ ((((x1 - (x0 + (1 : Nat))) + x1) - (1 : Nat)) - (x1 - (1 : Nat)))) := by omega
theorem zq370 {x0 : Nat} {x1 : Nat} (h0 : ((x0 + (1 : Nat)) ≤ x1)) (h1 : (x0 > (0 : Nat))) : (((((x1 - (x0 + (1 : Nat))) + x1) - (1 : Nat)) - (x1 - (1 : Nat))) < x1) := by omega
theorem zq371 {x0 : Nat} {x1 : Nat} (h0 : ((x0 + (1 : Nat)) ≤ x1)) (h1 : (x0 > (0 : Nat))) : ((x1 - (x0 + (1 : Nat))) ≤ (x1 - (1 : Nat))) := by lia
theorem zq372 {x0 : Nat} {x1 : Nat} (h0 : ((x0 + (1 : Nat)) ≤ x1)) (h1 : (x0 > (0 : Nat))) : ((x1 - (1 : Nat)) < x1) := by lia
theorem zq373 {x0 : Nat} {x1 : Nat} (h0 : ((x0 + (1 : Nat)) ≤ x1)) (h1 : (¬ (x0 > (0 : Nat)))) : ((1 : Nat) ≤ x1) := by lia
theorem zq374 {x0 : Nat} {x1 : Nat} (h0 : (x0 ≤ x1)) : ((x0 + (x1 - x0)) ≤ x1) := by lia
theorem zq377 {x0 : Nat} (h0 : ((1 : Nat) ≤ x0)) : (((0 : Nat) + (1 : Nat)) ≤ (x0 + (1 : Nat))) := by lia
theorem zq378 {x0 : Nat} {x1 : Nat} (h0 : ((x0 + (1 : Nat)) ≤ x1)) : (((x0 + (1 : Nat)) + (x1 - (x0 + (1 : Nat)))) ≤ x1) := by omega
theorem zq379 {x0 : Nat} {x1 : Nat} {x2 : Nat} (h0 : ((1 : Nat) ≤ x0)) (h1 : (((x0 + (1 : Nat)) - ((0 : Nat) + (1 : Nat))) ≤ x1)) (h2 : (x1 < (x0 + (1 : Nat)))) (h3 : (((x0 + (1 : Nat)) - ((0 : Nat) + (1 : Nat))) ≤ x2)) (h4 : (x2 < (x0 + (1 : Nat)))) : (x1 = x2) := by lia
theorem zq380 {x0 : Nat} {x1 : Nat} {x2 : Nat} (h0 : ((x0 + (1 : Nat)) ≤ x1)) (h1 : (x2 ≤ ((x0 + (1 : Nat)) + (x1 - (x0 + (1 : Nat)))))) : (x2 ≤ x1) := by omega
theorem zq381 {x0 : Nat} (h0 : ((0 : Nat) < x0)) : (((1 : Nat) + (x0 - (1 : Nat))) ≤ x0) := by lia
theorem zq382 {x0 : Nat} {x1 : Nat} (h0 : (x0 ≤ x1)) (h1 : (x1 < (1 : Nat))) : (x0 = x1) := by omega
theorem zq383 {x0 : Nat} {x1 : Nat} (h0 : ((0 : Nat) < x0)) (h1 : (x1 ≤ ((1 : Nat) + (x0 - (1 : Nat))))) : (x1 ≤ x0) := by lia
theorem zq384 {x0 : Nat} {x1 : Nat} (h0 : ((0 : Nat) < x0)) (h1 : (x1 ≤ ((1 : Nat) + (x0 - (1 : Nat))))) (h2 : (x1 ≠ x0)) : (x1 < x0) := by lia
theorem zq385 {x0 : Nat} {x1 : Nat} (h0 : ((0 : Nat) < x0)) (h1 : (x1 ≤ ((1 : Nat) + (x0 - (1 : Nat))))) (h2 : (x1 < x0)) : (x1 < ((1 : Nat) + (x0 - (1 : Nat)))) := by omega
theorem zq386 {x0 : Nat} {x1 : Nat} (h0 : (x0 > (1 : Nat))) (h1 : (x1 < x0)) : (x1 ≤ (x0 - (1 : Nat))) := by lia
theorem zq387 {x0 : Nat} (h0 : (x0 > (1 : Nat))) : ((x0 - (1 : Nat)) < x0) := by lia
theorem zq388 {x0 : Nat} {x1 : Nat} (h0 : (x0 < x1)) : (x0 ≤ x1) := by lia
theorem zq389 {x0 : Nat} {x1 : Nat} (h0 : (x0 < x1)) : ((x0 + (1 : Nat)) ≤ x1) := by lia
theorem zq390 {x0 : Nat} {x1 : Nat} {x2 : Nat} (h0 : (x0 ≤ x1)) (h1 : (x1 < x2)) : (x0 < x2) := by lia
theorem zq391 {x0 : Nat} (h0 : (x0 > (1 : Nat))) : (((0 : Nat) ≤ (x0 - (1 : Nat))) ∧ ((x0 - (1 : Nat)) < x0)) := by lia
theorem zq392 {x0 : Nat} : (¬ (((0 : Nat) ≤ x0) ∧ (x0 < x0))) := by omega
theorem zq393 {x0 : Nat} : ((0 : Nat) ≤ ((((0 : Nat) + x0) - (1 : Nat)) - (x0 - (1 : Nat)))) := by lia
theorem zq394 {x0 : Nat} (h0 : (x0 > (1 : Nat))) : (((((0 : Nat) + x0) - (1 : Nat)) - (x0 - (1 : Nat))) < x0) := by lia
theorem zq395 {x0 : Nat} : ((0 : Nat) ≤ (x0 - (1 : Nat))) := by lia
theorem zq396 {x0 : Nat} (h0 : ((1 : Nat) ≤ x0)) (h1 : (¬ (x0 > (1 : Nat)))) : (x0 = (1 : Nat)) := by lia
theorem zq397 {x0 : Nat} (h0 : ((1 : Nat) < x0)) : (((1 : Nat) + (1 : Nat)) ≤ x0) := by lia
theorem zq398 {x0 : Nat} {x1 : Nat} {x2 : Nat} (h0 : (x0 ≤ x1)) (h1 : (x1 ≤ x2)) (h2 : (x1 ≤ (x0 + (0 : Nat)))) : (x0 ≤ x2) := by lia
theorem zq399 {x0 : Nat} {x1 : Nat} {x2 : Nat} (h0 : (x0 ≤ x1)) (h1 : (x1 ≤ (x0 + (0 : Nat)))) (h2 : (x0 ≤ x2)) : (x1 ≤ x2) := by omega
theorem zq400 {x0 : Nat} {x1 : Nat} {x2 : Nat} (h0 : (x0 ≤ x1)) (h1 : (x1 ≤ x2)) (h2 : (x0 ≥ x1)) : (x0 ≤ x2) := by omega
theorem zq401 {x0 : Nat} {x1 : Nat} {x2 : Nat} (h0 : (x0 ≤ x1)) (h1 : (x0 ≥ x1)) (h2 : (x0 ≤ x2)) : (x1 ≤ x2) := by lia
theorem zq402 {x0 : Nat} {x1 : Nat} (h0 : (¬ (x0 ≥ x1))) : ((((x0 + x1) / (2 : Nat)) + (1 : Nat)) ≤ x1) := by lia
theorem zq403 {x0 : Nat} {x1 : Nat} {x2 : Nat} (h0 : (x0 ≤ (x1 + (x2 + (1 : Nat))))) : (x0 ≤ ((((x1 + x0) / (2 : Nat)) + (1 : Nat)) + x2)) := by lia
theorem zq404 {x0 : Nat} {x1 : Nat} {x2 : Nat} (h0 : (x0 < (((x1 + x2) / (2 : Nat)) + (1 : Nat)))) : (x0 ≤ ((x1 + x2) / (2 : Nat))) := by lia
theorem zq405 {x0 : Nat} {x1 : Nat} {x2 : Nat} (h0 : (x0 ≤ x1)) (h1 : (¬ (x2 ≥ x0))) : (((x2 + x0) / (2 : Nat)) < x1) := by omega
theorem zq406 {x0 : Nat} {x1 : Nat} (h0 : (¬ (x0 ≥ x1))) : (x0 ≤ ((x0 + x1) / (2 : Nat))) := by omega
theorem zq407 {x0 : Nat} {x1 : Nat} {x2 : Nat} (h0 : (x0 ≤ x1)) (h1 : (¬ (x2 ≥ x0))) : (((x2 + x0) / (2 : Nat)) ≤ x1) := by lia
theorem zq408 {x0 : Nat} {x1 : Nat} {x2 : Nat} (h0 : (x0 ≤ (x1 + (x2 + (1 : Nat))))) : (((x1 + x0) / (2 : Nat)) ≤ (x1 + x2)) := by lia
theorem zq409 {x0 : Nat} (h0 : ((1 : Nat) ≤ x0)) : ((0 : Nat) ≤ x0) := by lia
theorem zq410 {x0 : Nat} : (x0 ≤ x0) := by lia
theorem zq411 {x0 : Nat} : (x0 ≤ ((0 : Nat) + x0)) := by lia
theorem zq412 {x0 : Nat} (h0 : (x0 < (0 : Nat))) : (¬ (x0 < (0 : Nat))) := by lia
theorem zq413 {x0 : Nat} {x1 : Nat} (h0 : (x0 ≤ x1)) (h1 : (x1 < x0)) : (¬ (x0 ≤ x1)) := by omega
theorem zq414 {x0 : Nat} {x1 : Nat} {x2 : Nat} (h0 : ((x0 + (x1 + (1 : Nat))) = x2)) : (((x0 + (1 : Nat)) + x1) = x2) := by lia
theorem zq415 {x0 : Nat} {x1 : Nat} {x2 : Nat} (h0 : ((x0 + (x1 + (1 : Nat))) = x2)) : (x0 < x2) := by lia
theorem zq416 {x0 : Nat} {x1 : Nat} (h0 : (x0 ≤ x1)) : ((x1 - (x1 - x0)) = x0) := Nat.sub_sub_self h0
theorem zq417 {x0 : Nat} {x1 : Nat} (h0 : (x0 ≤ x1)) (h1 : ((x1 - (x1 - x0)) = x0)) : ((x1 - x0) ≤ x1) := by omega
theorem zq418 {x0 : Nat} {x1 : Nat} {x2 : Nat} {x3 : Nat} (h0 : (x0 ≤ x1)) (h1 : ((x2 - (x2 - x3)) = x3)) (h2 : (x1 = x3)) : (¬ ((x3 < x0) ∧ (x0 ≤ x2))) := by lia
theorem zq419 {x0 : Nat} {x1 : Nat} {x2 : Nat} {x3 : Nat} (h0 : (x0 ≤ x1)) (h1 : ((x2 - (x2 - x3)) = x3)) (h2 : (x1 = x3)) (h3 : (¬ (x0 = x3))) : (x0 < x3) := by lia
theorem zq420 {x0 : Nat} {x1 : Nat} {x2 : Nat} (h0 : ((x0 - (x0 - x1)) = x1)) (h1 : ((x1 < x2) ∧ (x2 ≤ x0))) : (x1 ≤ (x2 - (1 : Nat))) := by omega
theorem zq421 {x0 : Nat} {x1 : Nat} {x2 : Nat} (h0 : (x0 < (x1 + (1 : Nat)))) (h1 : ((x1 - (x1 - x2)) = x2)) (h2 : ((x2 < x0) ∧ (x0 ≤ x1))) : ((x0 - (1 : Nat)) < x1) := by lia
theorem zq422 {x0 : Nat} {x1 : Nat} {x2 : Nat} {x3 : Nat} (h0 : (x0 ≤ x1)) (h1 : ((x2 - (x2 - x3)) = x3)) (h2 : ((x3 < x1) ∧ (x1 ≤ x2))) (h3 : ((x3 < x0) ∧ (x0 ≤ x2))) : ((x0 - (1 : Nat)) ≤ (x1 - (1 : Nat))) := by lia
theorem zq423 {x0 : Nat} {x1 : Nat} {x2 : Nat} {x3 : Nat} (h0 : (x0 ≤ x1)) (h1 : (x1 < (x2 + (1 : Nat)))) (h2 : ((x2 - (x2 - x3)) = x3)) (h3 : ((x3 < x1) ∧ (x1 ≤ x2))) (h4 : (¬ ((x3 < x0) ∧ (x0 ≤ x2)))) : (x0 ≤ (x1 - (1 : Nat))) := by lia
theorem zq424 {x0 : Nat} {x1 : Nat} {x2 : Nat} {x3 : Nat} (h0 : (x0 ≤ x1)) (h1 : (x1 < (x2 + (1 : Nat)))) (h2 : ((x2 - (x2 - x3)) = x3)) (h3 : (¬ (x1 = x3))) (h4 : (¬ ((x3 < x1) ∧ (x1 ≤ x2)))) : (¬ (x0 = x3)) := by lia
theorem zq425 {x0 : Nat} {x1 : Nat} {x2 : Nat} {x3 : Nat} (h0 : (x0 ≤ x1)) (h1 : (x1 < (x2 + (1 : Nat)))) (h2 : ((x2 - (x2 - x3)) = x3)) (h3 : (¬ ((x3 < x1) ∧ (x1 ≤ x2)))) : (¬ ((x3 < x0) ∧ (x0 ≤ x2))) := by lia
theorem zq426 {x0 : Nat} {x1 : Nat} {x2 : Nat} (h0 : (x0 ≤ x1)) (h1 : (x2 < (x1 + (1 : Nat)))) (h2 : ((x1 - (x1 - x0)) = x0)) (h3 : (¬ (x2 = x0))) (h4 : (¬ ((x0 < x2) ∧ (x2 ≤ x1)))) : (x2 < x1) := by lia
theorem zq427 {x0 : Nat} : ((1 : Nat) ≤ (max x0 (1 : Nat))) := by lia
theorem zq428 {x0 : Nat} {x1 : Nat} (h0 : ((1 : Nat) ≤ x0)) (h1 : (x0 < x1)) : (((max x0 (1 : Nat)) + (x1 - (max x0 (1 : Nat)))) = x1) := by lia
theorem zq429 {x0 : Nat} {x1 : Nat} (h0 : (x0 ≤ x1)) (h1 : (¬ (x0 < x1))) : (x0 = x1) := by lia
theorem zq430 {x0 : Nat} {x1 : Nat} (h0 : ((2 : Nat) ≤ x0)) (h1 : (x1 = x0)) : ((0 : Nat) < x1) := by lia
theorem zq431 {x0 : Nat} {x1 : Nat} (h0 : ((2 : Nat) ≤ x0)) (h1 : (x1 = x0)) : ((0 : Nat) < x0) := by lia
theorem zq432 {x0 : Nat} {x1 : Nat} (h0 : ((x0 + (10 : Nat)) < x1)) : ((x0 + (3 : Nat)) < x1) := by lia
theorem zq433 {x0 : Nat} {x1 : Nat} (h0 : ((x0 + (20 : Nat)) < x1)) : (((x0 + (1 : Nat)) + (10 : Nat)) < x1) := by lia
theorem zq434 {x0 : Nat} {x1 : Nat} (h0 : ((x0 + (20 : Nat)) < x1)) : ((((x0 + (1 : Nat)) + (1 : Nat)) + (10 : Nat)) < x1) := by lia
theorem zq435 {x0 : Int} {x1 : Int} {x2 : Int} {x3 : Int} (h0 : ((x0 < x1) ∨ ((x0 = x1) ∧ (x2 < x3)))) : (¬ ((x1 < x0) ∨ ((x1 = x0) ∧ (x3 < x2)))) := by lia
theorem zq436 {x0 : Int} {x1 : Int} {x2 : Int} {x3 : Int} {x4 : Int} {x5 : Int} (h0 : (¬ ((x0 < x1) ∨ ((x0 = x1) ∧ (x2 < x3))))) (h1 : (¬ ((x4 < x0) ∨ ((x4 = x0) ∧ (x5 < x2))))) : (¬ ((x4 < x1) ∨ ((x4 = x1) ∧ (x5 < x3)))) := hLex hNlt h0 h1
theorem zq437 {x0 : Int} {x1 : Int} {x2 : Int} {x3 : Int} {x4 : Int} {x5 : Int} (h0 : ((x0 = x1) ∧ (x2 = x3))) (h1 : (x4 < x5)) : ((x0 < x1) ∨ ((x0 = x1) ∧ ((x2 < x3) ∨ ((x2 = x3) ∧ (x4 < x5))))) := by lia
theorem zq438 {x0 : Int} {x1 : Int} {x2 : Int} {x3 : Int} {x4 : Int} {x5 : Int} (h0 : ((x0 = x1) ∧ (x2 = x3))) (h1 : (¬ (x4 < x5))) : (¬ ((x0 < x1) ∨ ((x0 = x1) ∧ ((x2 < x3) ∨ ((x2 = x3) ∧ (x4 < x5)))))) := by lia
theorem zq439 {x0 : Int} {x1 : Int} {x2 : Int} {x3 : Int} {x4 : Int} {x5 : Int} (h0 : ((x0 < x1) ∨ ((x0 = x1) ∧ (x2 < x3)))) : ((x0 < x1) ∨ ((x0 = x1) ∧ ((x2 < x3) ∨ ((x2 = x3) ∧ (x4 < x5))))) := h0.imp id (And.imp id Or.inl)
theorem zq440 {x0 : Int} {x1 : Int} {x2 : Int} {x3 : Int} {x4 : Int} {x5 : Int} (h0 : (¬ ((x0 = x1) ∧ (x2 = x3)))) (h1 : (¬ ((x0 < x1) ∨ ((x0 = x1) ∧ (x2 < x3))))) : (¬ ((x0 < x1) ∨ ((x0 = x1) ∧ ((x2 < x3) ∨ ((x2 = x3) ∧ (x4 < x5)))))) := by lia
theorem zq441 {x0 : Int} {x1 : Int} {x2 : Int} {x3 : Int} {x4 : Int} {x5 : Int} (h0 : ((x0 < x1) ∨ ((x0 = x1) ∧ ((x2 < x3) ∨ ((x2 = x3) ∧ (x4 < x5)))))) : (¬ ((x1 < x0) ∨ ((x1 = x0) ∧ ((x3 < x2) ∨ ((x3 = x2) ∧ (x5 < x4)))))) := hAs (hAs hAs0) h0
theorem zq442 {x0 : Int} {x1 : Int} {x2 : Int} {x3 : Int} {x4 : Int} {x5 : Int} {x6 : Int} {x7 : Int} {x8 : Int} (h0 : (¬ ((x0 < x1) ∨ ((x0 = x1) ∧ ((x2 < x3) ∨ ((x2 = x3) ∧ (x4 < x5))))))) (h1 : (¬ ((x6 < x0) ∨ ((x6 = x0) ∧ ((x7 < x2) ∨ ((x7 = x2) ∧ (x8 < x4))))))) : (¬ ((x6 < x1) ∨ ((x6 = x1) ∧ ((x7 < x3) ∨ ((x7 = x3) ∧ (x8 < x5)))))) := hLex (hLex hNlt) h0 h1
theorem zq443 {x0 : Nat} {x1 : Nat} {x2 : Nat} {x3 : Nat} (h0 : (x0 ≤ x1)) (h1 : ((x2 + x1) < x3)) : ((x2 + x0) < x3) := by lia
theorem zq444 {x0 : Int} (h0 : ((0 : Int) < x0)) : (¬ (x0 ≤ (0 : Int))) := by lia
theorem zq446 {x0 : Nat} {x1 : Nat} : (¬ ((x0 + x1) < x0)) := by lia
theorem zq447 {x0 : Nat} {x1 : Nat} {x2 : Nat} (h0 : ((x0 + x1) = (x0 + x2))) : (x1 = x2) := by lia
theorem zq448 {x0 : Nat} {x1 : Int} (h0 : (x0 < (1000 : Nat))) (h1 : (x1 = ((x0 : Nat) : Int))) : ((-((2 : Int) ^ (62 : Nat))) ≤ ((x0 : Nat) : Int)) := by lia
theorem zq449 {x0 : Nat} {x1 : Int} (h0 : (x0 < (1000 : Nat))) (h1 : (x1 = ((x0 : Nat) : Int))) : (((x0 : Nat) : Int) < ((2 : Int) ^ (62 : Nat))) := by lia
theorem zq450 {x0 : Nat} : (¬ ((x0 + (1 : Nat)) < x0)) := by omega
theorem zq451 {x0 : Nat} (h0 : (x0 < (1000 : Nat))) (h1 : ((1 : Nat) ≤ x0)) : (x0 ≤ (16777216 : Nat)) := by lia
theorem zq452 {x0 : Nat} {x1 : Nat} (h0 : ((x0 + x1) < (1000 : Nat))) : ((x0 + x1) ≤ (16777216 : Nat)) := by lia
theorem zq453 {x0 : Nat} (h0 : (x0 < (1000 : Nat))) : ((1 : Int) ≤ (((x0 : Nat) : Int) + (1 : Int))) := by lia
theorem zq454 {x0 : Nat} (h0 : (x0 < (1000 : Nat))) : ((Int.toNat ((-(1 : Int)) + (((x0 : Nat) : Int) + (1 : Int)))) = x0) := by lia
theorem zq455 {x0 : Nat} {x1 : Nat} {x2 : Nat} (h0 : ((x0 + x1) = x2)) (h1 : (x1 < x2)) : (((x0 - (1 : Nat)) < x0) ∧ (((x0 - (1 : Nat)) + (x1 + (1 : Nat))) = x2)) := by lia
theorem zq457 {x0 : Nat} (h0 : ((1 : Nat) ≤ x0)) : ((min x0 ((x0 - (1 : Nat)) + (1 : Nat))) = x0) := by lia
theorem zq458 {x0 : Nat} {x1 : Nat} {x2 : Nat} (h0 : (x0 < x1)) (h1 : (x0 < x2)) : (x0 < (min x1 x2)) := by lia
theorem zq459 {x0 : Nat} {x1 : Nat} (h0 : (x0 < x1)) : (x0 < ((x1 - (1 : Nat)) + (1 : Nat))) := by omega
theorem zq460 {x0 : Nat} {x1 : Nat} {x2 : Nat} (h0 : ((1 : Nat) ≤ x0)) (h1 : (x0 < (64 : Nat))) (h2 : (x1 = x0)) (h3 : (x2 = x1)) : (x2 < (1000 : Nat)) := by lia
theorem zq461 {x0 : Nat} {x1 : Nat} {x2 : Nat} (h0 : ((1 : Nat) ≤ x0)) (h1 : (x0 < (64 : Nat))) (h2 : (x1 = x0)) (h3 : (x2 = x1)) : ((1 : Nat) ≤ x2) := by lia
theorem zq462 {x0 : Nat} {x1 : Nat} {x2 : Nat} (h0 : ((1 : Nat) ≤ x0)) (h1 : (x0 < (64 : Nat))) (h2 : (x1 = x0)) (h3 : (x2 = x1)) : ((0 : Nat) < x2) := by omega
theorem zq463 {x0 : Nat} {x1 : Nat} {x2 : Nat} (h0 : ((1 : Nat) ≤ x0)) (h1 : (x0 < (64 : Nat))) (h2 : (x1 = x0)) (h3 : (x2 = x1)) : ((0 : Nat) < x1) := by lia
theorem zq464 {x0 : Nat} {x1 : Nat} {x2 : Nat} (h0 : ((1 : Nat) ≤ x0)) (h1 : (x0 < (64 : Nat))) (h2 : (x1 = x0)) (h3 : (x2 = x1)) : (((x2 - (1 : Nat)) + (1 : Nat)) < (1000 : Nat)) := by lia
theorem zq465 {x0 : Nat} {x1 : Nat} {x2 : Nat} (h0 : ((1 : Nat) ≤ x0)) (h1 : (x0 < (64 : Nat))) (h2 : (x1 = x0)) (h3 : (x2 = x1)) : (((x2 - (1 : Nat)) + (1 : Nat)) = x2) := by lia
theorem zq466 {x0 : Nat} {x1 : Nat} {x2 : Nat} (h0 : ((1 : Nat) ≤ x0)) (h1 : (x0 < (64 : Nat))) (h2 : (x1 = x0)) (h3 : (x2 = x1)) : (x2 < (900 : Nat)) := by omega
theorem zq467 {x0 : Nat} {x1 : Nat} {x2 : Nat} (h0 : (x0 = x1)) (h1 : (x2 < x0)) : (x2 < x1) := by lia
theorem zq468 {x0 : Nat} {x1 : Nat} {x2 : Nat} {x3 : Nat} (h0 : ((1 : Nat) ≤ x0)) (h1 : (x0 < (64 : Nat))) (h2 : (x1 = x0)) (h3 : (x2 = x1)) (h4 : (x3 < x2)) : (x3 < ((x1 - (1 : Nat)) + (1 : Nat))) := by lia
theorem zq469 {x0 : Nat} {x1 : Nat} {x2 : Nat} {x3 : Nat} (h0 : ((1 : Nat) ≤ x0)) (h1 : (x0 < (64 : Nat))) (h2 : (x1 = x0)) (h3 : (x2 = x1)) (h4 : (x3 = x2)) : ((1 : Nat) ≤ x1) := by lia
theorem zq470 {x0 : Nat} {x1 : Nat} {x2 : Nat} {x3 : Nat} (h0 : (x0 = x1)) (h1 : (x2 = x0)) (h2 : (x3 < x1)) : (x3 < x0) := by lia
theorem zq471 {x0 : Nat} {x1 : Nat} (h0 : (((((((x0 + (1 : Nat)) + (1 : Nat)) + (1 : Nat)) + (1 : Nat)) + (1 : Nat)) + (1 : Nat)) ≤ x1)) : (x0 ≤ x1) := by lia
theorem zq472 {x0 : Int} {x1 : Int} {x2 : Int} {x3 : Int} (h0 : (x0 = (x1 - x2))) : (((x3 - x1) + x0) = (x3 - x2)) := by lia
theorem zq473 {x0 : Int} {x1 : Int} : ((x0 - (x0 - x1)) = x1) := by lia
theorem zq474 {x0 : Int} {x1 : Int} {x2 : Int} (h0 : (x0 ≤ (x1 - (x1 - x2)))) : (x0 ≤ x2) := by lia
theorem zq475 {x0 : Int} {x1 : Int} (h0 : ((x0 % (2 : Int)) = (0 : Int))) (h1 : (x0 ≤ (0 : Int))) (h2 : (((0 : Int) ≤ x1) ∧ (x1 < (1024 : Int)))) (h3 : ((x1 - (x0 / (2 : Int))) < (1024 : Int))) : (((x1 - (x0 / (2 : Int))) % (1024 : Int)) = (x1 - (x0 / (2 : Int)))) := by omega
theorem zq476 {x0 : Int} {x1 : Int} (h0 : ((x0 % (2 : Int)) = (0 : Int))) (h1 : (x0 ≤ (0 : Int))) : (x1 ≤ (x1 - (x0 / (2 : Int)))) := by omega
theorem zq477 {x0 : Int} {x1 : Int} (h0 : ((x0 % (2 : Int)) = (0 : Int))) (h1 : (x0 ≤ (0 : Int))) : ((x1 - (x0 / (2 : Int))) ≤ (x1 - x0)) := by lia
theorem zq478 {x0 : Int} {x1 : Int} : ((x0 - (x0 - (x1 / (2 : Int)))) = (x1 / (2 : Int))) := by lia
theorem zq479 {x0 : Int} {x1 : Int} (h0 : ((x0 % (2 : Int)) = (0 : Int))) : (((x1 - (x0 / (2 : Int))) - (x1 - x0)) = (x0 / (2 : Int))) := by lia
theorem zq480 {x0 : Int} {x1 : Int} {x2 : Int} (h0 : ((x0 % (2 : Int)) = (0 : Int))) (h1 : (((0 : Int) ≤ x1) ∧ (x1 < (1024 : Int)))) (h2 : (¬ ((x1 - (x0 / (2 : Int))) < (1024 : Int)))) (h3 : (x0 = (x1 - x2))) (h4 : (x1 ≤ x2)) (h5 : (((0 : Int) ≤ x2) ∧ (x2 < (1024 : Int)))) : False := by omega
theorem zq481 {x0 : Int} {x1 : Int} {x2 : Int} (h0 : ((x0 % (2 : Int)) = (0 : Int))) (h1 : (((0 : Int) ≤ x1) ∧ (x1 < (1024 : Int)))) (h2 : (¬ ((x1 - (x0 / (2 : Int))) < (1024 : Int)))) (h3 : (((0 : Int) ≤ x2) ∧ (x2 < (1024 : Int)))) (h4 : (x0 = (x1 - (x2 + (1024 : Int))))) : (((x1 - (x0 / (2 : Int))) % (1024 : Int)) = ((x1 - (x0 / (2 : Int))) - (1024 : Int))) := by lia
theorem zq482 {x0 : Int} {x1 : Int} {x2 : Int} {x3 : Int} {x4 : Int} (h0 : ((x0 % (2 : Int)) = (0 : Int))) (h1 : (((0 : Int) ≤ x1) ∧ (x1 < (1024 : Int)))) (h2 : (((0 : Int) ≤ x2) ∧ (x2 < (1024 : Int)))) (h3 : (x0 = (x1 - (x2 + (1024 : Int))))) (h4 : (x3 = x1)) (h5 : (x2 ≤ x4)) : (((x1 - (x0 / (2 : Int))) - (1024 : Int)) ≤ x4) := by lia
theorem zq483 {x0 : Int} {x1 : Int} {x2 : Int} (h0 : ((x0 % (2 : Int)) = (0 : Int))) (h1 : (x0 = (x1 - (x2 + (1024 : Int))))) : ((((x1 - (x0 / (2 : Int))) - (1024 : Int)) - x2) = (x0 / (2 : Int))) := by lia
theorem zq484 {x0 : Int} {x1 : Int} : ((((x0 - (x1 / (2 : Int))) - (1024 : Int)) + (1024 : Int)) = (x0 - (x1 / (2 : Int)))) := by lia
theorem zq485 {x0 : Int} {x1 : Int} (h0 : (x0 = x1)) : (x1 ≤ x0) := by lia
theorem zq486 {x0 : Int} {x1 : Int} (h0 : (x0 ≤ x1)) (h1 : (x1 ≤ x0)) : (x0 = x1) := by lia
theorem zq487 {x0 : Int} {x1 : Int} {x2 : Int} {x3 : Int} (h0 : (¬ (((x0 * (1048576 : Int)) < (x1 * (1048576 : Int))) ∨ (((x0 * (1048576 : Int)) = (x1 * (1048576 : Int))) ∧ ((x2 * (1048576 : Int)) < (x3 * (1048576 : Int))))))) : (¬ ((x0 < x1) ∨ ((x0 = x1) ∧ (x2 < x3)))) := fun h => h0 (h.imp (fun a => Int.mul_lt_mul_of_pos_right a (by decide)) fun a => ⟨by rw [a.1], Int.mul_lt_mul_of_pos_right a.2 (by decide)⟩)
theorem zq488 {x0 : Int} {x1 : Int} (h0 : ((x0 * (1048576 : Int)) = (x1 * (1048576 : Int)))) : (x0 = x1) := by lia
theorem zq489 {x0 : Int} {x1 : Int} {x2 : Int} {x3 : Int} (h0 : (¬ ((x0 < x1) ∨ ((x0 = x1) ∧ (x2 < x3))))) : (¬ (((x0 * (1048576 : Int)) < (x1 * (1048576 : Int))) ∨ (((x0 * (1048576 : Int)) = (x1 * (1048576 : Int))) ∧ ((x2 * (1048576 : Int)) < (x3 * (1048576 : Int)))))) := fun h => h0 (h.imp (fun a => Int.lt_of_mul_lt_mul_right a (by decide)) fun a => ⟨Int.eq_of_mul_eq_mul_right (by decide) a.1, Int.lt_of_mul_lt_mul_right a.2 (by decide)⟩)
theorem zq490 {x0 : Nat} (h0 : (¬ ((((63 : Nat) : Nat) : Int) < ((x0 : Nat) : Int)))) : (x0 ≤ (63 : Nat)) := by lia
theorem zq491 {x0 : Nat} (h0 : (¬ ((((63 : Nat) : Nat) : Int) < ((x0 : Nat) : Int)))) : (x0 < (1000 : Nat)) := by omega
theorem zq492 {x0 : Nat} : (((min (6 : Nat) x0) + (2 : Nat)) < (1000 : Nat)) := by lia
theorem zq493 {x0 : Nat} (h0 : (¬ ((((63 : Nat) : Nat) : Int) < ((x0 : Nat) : Int)))) : ((min (6 : Nat) x0) ≤ (6 : Nat)) := by lia
theorem zq494 {x0 : Nat} {x1 : Nat} {x2 : Nat} {x3 : Nat} (h0 : (x0 = x1)) (h1 : ((x2 + x3) = x1)) (h2 : (x3 < x0)) : (x3 < x1) := by omega
theorem zq495 {x0 : Nat} {x1 : Nat} {x2 : Nat} {x3 : Nat} {x4 : Nat} (h0 : (x0 = x1)) (h1 : ((x2 + x3) = x1)) (h2 : (x4 = x3)) (h3 : (x3 < x0)) : ((min x3 x1) = x3) := by lia
theorem zq496 {x0 : Int} : ((Int.natAbs (x0 % (64 : Int))) < ((2 : Nat) ^ (60 : Nat))) := by lia
theorem zq497 {x0 : Nat} {x1 : Nat} {x2 : Nat} {x3 : Nat} {x4 : Nat} {x5 : Nat} (h0 : (x0 ≤ (8 : Nat))) (h1 : (x1 = x0)) (h2 : ((x2 + x3) = x0)) (h3 : (x4 = x3)) (h4 : (x3 < x1)) (h5 : (x5 = x3)) : (x5 < (1000 : Nat)) := by lia
theorem zq498 {x0 : Int} : (((0 : Int) ≤ ((x0 % (64 : Int)) * (16 : Int))) ∧ (((x0 % (64 : Int)) * (16 : Int)) < (2048 : Int))) := by lia
theorem zq499 {x0 : Int} : (((1 : Int) ≤ (((x0 / (64 : Int)) % (8 : Int)) + (1 : Int))) ∧ ((((x0 / (64 : Int)) % (8 : Int)) + (1 : Int)) ≤ (8 : Int))) := by lia
theorem zq500 {x0 : Int} : (((1 : Int) ≤ (((x0 / (512 : Int)) % (8 : Int)) + (1 : Int))) ∧ ((((x0 / (512 : Int)) % (8 : Int)) + (1 : Int)) ≤ (8 : Int))) := by lia
theorem zq501 {x0 : Nat} {x1 : Nat} {x2 : Nat} {x3 : Nat} {x4 : Nat} {x5 : Nat} (h0 : (x0 ≤ (8 : Nat))) (h1 : (x1 = x0)) (h2 : ((x2 + x3) = x0)) (h3 : (x4 = x3)) (h4 : (x3 < x1)) (h5 : (x5 = x3)) : (x4 < (1000 : Nat)) := by lia
theorem zq502 {x0 : Nat} {x1 : Nat} {x2 : Nat} {x3 : Nat} (h0 : (x0 = x1)) (h1 : ((x2 + x3) = x1)) (h2 : (x3 < x0)) : ((x2 - (1 : Nat)) < x2) := by lia
theorem zq503 {x0 : Nat} {x1 : Nat} {x2 : Nat} {x3 : Nat} (h0 : (x0 = x1)) (h1 : ((x2 + x3) = x1)) (h2 : (x3 < x0)) : (((x2 - (1 : Nat)) + (x3 + (1 : Nat))) = x1) := by lia
theorem zq504 {x0 : Nat} {x1 : Nat} {x2 : Nat} {x3 : Nat} {x4 : Nat} {x5 : Nat} (h0 : (x0 = x1)) (h1 : ((x2 + x3) = x1)) (h2 : (x4 = x3)) (h3 : (x3 < x0)) (h4 : (x5 = x3)) : ((min x3 x1) = x3) := by lia
theorem zq505 {x0 : Nat} {x1 : Nat} {x2 : Nat} {x3 : Nat} (h0 : (x0 = x1)) (h1 : (x2 = x1)) (h2 : (x3 = x1)) : (x3 ≤ x1) := by lia
theorem zq506 {x0 : Int} : (((0 : Int) ≤ ((x0 % (64 : Int)) * (16 : Int))) ∧ (((x0 % (64 : Int)) * (16 : Int)) < (1024 : Int))) := by omega
theorem zq507 {x0 : Nat} {x1 : Nat} {x2 : Nat} {x3 : Nat} {x4 : Nat} (h0 : (x0 = x1)) (h1 : (x2 = x1)) (h2 : (x3 < (x1 + (1 : Nat)))) (h3 : (x4 = x1)) (h4 : (¬ (x3 = x1))) : (x3 < x0) := by lia
theorem zq508 {x0 : Nat} {x1 : Nat} {x2 : Nat} {x3 : Nat} {x4 : Nat} (h0 : (x0 = x1)) (h1 : (x2 = x1)) (h2 : (x3 < (x1 + (1 : Nat)))) (h3 : (x4 = x1)) (h4 : (¬ (x3 = x1))) : (x3 < x4) := by omega
theorem zq509 {x0 : Nat} {x1 : Nat} {x2 : Nat} {x3 : Nat} {x4 : Nat} (h0 : (x0 = x1)) (h1 : (x2 = x1)) (h2 : (x3 < (x1 + (1 : Nat)))) (h3 : (x4 = x1)) (h4 : (¬ (x3 = x1))) : (x3 < x1) := by lia
theorem zq510 {x0 : Nat} {x1 : Nat} {x2 : Nat} {x3 : Nat} (h0 : (x0 = x1)) (h1 : ((x2 + x3) = x1)) (h2 : (x0 ≤ x3)) : (x3 = x1) := by lia
theorem zq511 {x0 : Int} : (((0 : Int) ≤ ((x0 % (64 : Int)) * (16 : Int))) ∧ ((((x0 % (64 : Int)) * (16 : Int)) < (1024 : Int)) ∧ ((((x0 % (64 : Int)) * (16 : Int)) % (16 : Int)) = (0 : Int)))) := by lia
theorem zq512 {x0 : Nat} {x1 : Nat} {x2 : Nat} (h0 : (x0 = x1)) (h1 : ((2 : Nat) ≤ x1)) (h2 : (x1 ≤ (8 : Nat))) (h3 : (x2 = x1)) : (x0 < (1000 : Nat)) := by lia
theorem zq513 {x0 : Nat} {x1 : Nat} (h0 : ((2 : Nat) ≤ x0)) (h1 : (x0 ≤ (8 : Nat))) (h2 : (x1 = x0)) : (x0 < (60 : Nat)) := by lia
theorem zq514 {x0 : Nat} {x1 : Nat} {x2 : Nat} {x3 : Nat} (h0 : ((2 : Nat) ≤ x0)) (h1 : (x0 ≤ (8 : Nat))) (h2 : (x1 = x0)) (h3 : (x2 = x3)) (h4 : (x3 = x0)) : (x2 < (900 : Nat)) := by lia
theorem zq515 {x0 : Int} (h0 : (((0 : Int) ≤ x0) ∧ (x0 < (1024 : Int)))) : (((0 : Int) ≤ x0) ∧ (x0 < (2048 : Int))) := by omega
theorem zq516 {x0 : Nat} {x1 : Nat} {x2 : Nat} {x3 : Nat} (h0 : (((x0 + (1 : Nat)) + (1 : Nat)) ≤ x1)) (h1 : (x1 ≤ x2)) (h2 : ((x2 + (1 : Nat)) ≤ x3)) : ((1 : Nat) ≤ x3) := by lia
theorem zq517 {x0 : Nat} {x1 : Nat} {x2 : Nat} (h0 : ((x0 + (1 : Nat)) ≤ x1)) (h1 : (x1 < x2)) : (x0 ≤ x2) := by lia
theorem zq518 {x0 : Nat} {x1 : Nat} {x2 : Nat} {x3 : Nat} {x4 : Nat} (h0 : ((2 : Nat) ≤ x0)) (h1 : (x0 ≤ (8 : Nat))) (h2 : (x1 = x0)) (h3 : (x2 = x3)) (h4 : (x3 = x0)) (h5 : (x4 = x2)) : (x4 < (1000 : Nat)) := by lia
theorem zq519 {x0 : Nat} {x1 : Nat} {x2 : Nat} {x3 : Nat} {x4 : Nat} (h0 : ((2 : Nat) ≤ x0)) (h1 : (x0 ≤ (8 : Nat))) (h2 : (x1 = x0)) (h3 : (x2 = x3)) (h4 : (x3 = x0)) (h5 : (x4 = x2)) : ((1 : Nat) ≤ x4) := by lia
theorem zq520 {x0 : Nat} {x1 : Nat} {x2 : Nat} {x3 : Nat} {x4 : Nat} (h0 : ((2 : Nat) ≤ x0)) (h1 : (x0 ≤ (8 : Nat))) (h2 : (x1 = x0)) (h3 : (x2 = x3)) (h4 : (x3 = x0)) (h5 : (x4 = x2)) : ((0 : Nat) < x4) := by lia
theorem zq521 {x0 : Nat} {x1 : Nat} {x2 : Nat} {x3 : Nat} {x4 : Nat} (h0 : ((2 : Nat) ≤ x0)) (h1 : (x0 ≤ (8 : Nat))) (h2 : (x1 = x0)) (h3 : (x2 = x3)) (h4 : (x3 = x0)) (h5 : (x4 = x2)) : ((0 : Nat) < x2) := by lia
theorem zq522 {x0 : Nat} {x1 : Nat} {x2 : Nat} {x3 : Nat} {x4 : Nat} (h0 : ((2 : Nat) ≤ x0)) (h1 : (x0 ≤ (8 : Nat))) (h2 : (x1 = x0)) (h3 : (x2 = x3)) (h4 : (x3 = x0)) (h5 : (x4 = x2)) : ((0 : Nat) < x3) := by lia
theorem zq523 {x0 : Int} (h0 : (((0 : Int) ≤ x0) ∧ (x0 < (1024 : Int)))) : ((Int.natAbs (x0 * (1048576 : Int))) < ((2 : Nat) ^ (50 : Nat))) := by omega
theorem zq524 {x0 : Nat} {x1 : Nat} {x2 : Nat} {x3 : Nat} {x4 : Nat} (h0 : ((2 : Nat) ≤ x0)) (h1 : (x0 ≤ (8 : Nat))) (h2 : (x1 = x0)) (h3 : (x2 = x3)) (h4 : (x3 = x0)) (h5 : (x4 = x2)) : (((x4 - (1 : Nat)) + (1 : Nat)) < (1000 : Nat)) := by lia
theorem zq525 {x0 : Nat} {x1 : Nat} {x2 : Nat} {x3 : Nat} {x4 : Nat} (h0 : ((2 : Nat) ≤ x0)) (h1 : (x0 ≤ (8 : Nat))) (h2 : (x1 = x0)) (h3 : (x2 = x3)) (h4 : (x3 = x0)) (h5 : (x4 = x2)) : (((x3 - (1 : Nat)) + (1 : Nat)) = x3) := by lia
theorem zq526 {x0 : Nat} {x1 : Nat} {x2 : Nat} {x3 : Nat} {x4 : Nat} (h0 : ((2 : Nat) ≤ x0)) (h1 : (x0 ≤ (8 : Nat))) (h2 : (x1 = x0)) (h3 : (x2 = x3)) (h4 : (x3 = x0)) (h5 : (x4 = x2)) : (((x4 - (1 : Nat)) + (1 : Nat)) = x4) := by lia
theorem zq527 {x0 : Nat} {x1 : Nat} {x2 : Nat} {x3 : Nat} {x4 : Nat} {x5 : Nat} (h0 : ((2 : Nat) ≤ x0)) (h1 : (x0 ≤ (8 : Nat))) (h2 : (x1 = x0)) (h3 : (x2 = x3)) (h4 : (x3 = x0)) (h5 : (x4 = x2)) (h6 : ((x5 + (1 : Nat)) < x3)) : (x5 < (x4 - (1 : Nat))) := by lia
theorem zq528 {x0 : Nat} {x1 : Nat} {x2 : Nat} {x3 : Nat} {x4 : Nat} {x5 : Nat} (h0 : ((2 : Nat) ≤ x0)) (h1 : (x0 ≤ (8 : Nat))) (h2 : (x1 = x0)) (h3 : (x2 = x3)) (h4 : (x3 = x0)) (h5 : (x4 = x2)) (h6 : ((x5 + (1 : Nat)) < x3)) : (x5 < (x3 - (1 : Nat))) := by lia
theorem zq529 {x0 : Nat} {x1 : Nat} {x2 : Nat} {x3 : Nat} (h0 : (x0 = x1)) (h1 : (x2 = x0)) (h2 : ((x3 + (1 : Nat)) < x1)) : ((x3 + (1 : Nat)) < x0) := by lia
theorem zq530 {x0 : Nat} {x1 : Nat} {x2 : Nat} {x3 : Nat} {x4 : Nat} {x5 : Nat} (h0 : ((2 : Nat) ≤ x0)) (h1 : (x0 ≤ (8 : Nat))) (h2 : (x1 = x0)) (h3 : (x2 = x3)) (h4 : (x3 = x0)) (h5 : (x4 = x2)) (h6 : (x5 < x3)) (h7 : (¬ ((x5 + (1 : Nat)) < x3))) : (x5 = (x3 - (1 : Nat))) := by lia
theorem zq531 {x0 : Nat} {x1 : Nat} {x2 : Nat} {x3 : Nat} (h0 : (x0 = x1)) (h1 : (x2 = x0)) (h2 : (x3 < x1)) (h3 : (¬ ((x3 + (1 : Nat)) < x1))) : (x2 ≤ (x3 + (1 : Nat))) := by lia
theorem zq532 {x0 : Nat} {x1 : Nat} {x2 : Nat} {x3 : Nat} {x4 : Nat} {x5 : Nat} (h0 : ((2 : Nat) ≤ x0)) (h1 : (x0 ≤ (8 : Nat))) (h2 : (x1 = x0)) (h3 : (x2 = x3)) (h4 : (x3 = x0)) (h5 : (x4 = x2)) (h6 : (x5 < x3)) (h7 : (¬ ((x5 + (1 : Nat)) < x3))) (h8 : (x5 = (x3 - (1 : Nat)))) : ((x5 - (x4 - (1 : Nat))) = (0 : Nat)) := by lia
theorem zq533 {x0 : Nat} {x1 : Nat} {x2 : Nat} {x3 : Nat} (h0 : (x0 = x1)) (h1 : (x2 = x0)) (h2 : (x3 < x1)) (h3 : (¬ ((x3 + (1 : Nat)) < x1))) : (x1 ≤ (x3 + (1 : Nat))) := by omega
theorem zq534 {x0 : Nat} {x1 : Nat} (h0 : (x0 = (x1 - (1 : Nat)))) : ((x0 - (x1 - (1 : Nat))) = (0 : Nat)) := by lia
theorem zq535 {x0 : Int} : (((x0 + (1024 : Int)) * (1048576 : Int)) = ((x0 * (1048576 : Int)) + (1073741824 : Int))) := by lia
theorem zq536 {x0 : Int} (h0 : (((0 : Int) ≤ x0) ∧ ((x0 < (1024 : Int)) ∧ ((x0 % (16 : Int)) = (0 : Int))))) : (((0 : Int) ≤ x0) ∧ (x0 < (1024 : Int))) := by omega
theorem zq537 {x0 : Nat} {x1 : Nat} {x2 : Nat} {x3 : Nat} {x4 : Nat} {x5 : Nat} {x6 : Nat} (h0 : ((2 : Nat) ≤ x0)) (h1 : (x0 ≤ (8 : Nat))) (h2 : (x1 = x0)) (h3 : (x2 = x3)) (h4 : (x3 = x0)) (h5 : (x4 = x2)) (h6 : (x5 = x3)) (h7 : (x6 = x4)) : ((0 : Nat) < x3) := by lia
theorem zq538 {x0 : Int} (h0 : (((0 : Int) ≤ x0) ∧ (x0 < (1024 : Int)))) : (((0 : Int) ≤ (x0 + (1024 : Int))) ∧ ((x0 + (1024 : Int)) < (2048 : Int))) := by lia
theorem zq539 {x0 : Nat} {x1 : Nat} {x2 : Nat} {x3 : Nat} {x4 : Nat} {x5 : Nat} {x6 : Nat} (h0 : ((2 : Nat) ≤ x0)) (h1 : (x0 ≤ (8 : Nat))) (h2 : (x1 = x0)) (h3 : (x2 = x3)) (h4 : (x3 = x0)) (h5 : (x4 = x2)) (h6 : (x5 = x3)) (h7 : (x6 = x4)) : (x4 < (900 : Nat)) := by lia
theorem zq540 {x0 : Nat} {x1 : Nat} {x2 : Nat} {x3 : Nat} {x4 : Nat} {x5 : Nat} (h0 : (x0 = x1)) (h1 : (x2 = x0)) (h2 : (x3 = x1)) (h3 : (x4 = x2)) (h4 : (x5 < x2)) : (x5 < x1) := by lia
theorem zq541 {x0 : Nat} {x1 : Nat} {x2 : Nat} {x3 : Nat} {x4 : Nat} {x5 : Nat} (h0 : (x0 = x1)) (h1 : (x2 = x0)) (h2 : (x3 = x1)) (h3 : (x4 = x2)) (h4 : (x5 < x2)) : (x5 < x3) := by lia
theorem zq542 {x0 : Nat} {x1 : Nat} {x2 : Nat} {x3 : Nat} {x4 : Nat} {x5 : Nat} (h0 : (x0 = x1)) (h1 : (x2 = x0)) (h2 : (x3 = x1)) (h3 : (x4 = x2)) (h4 : (x5 < x2)) : (x5 < x0) := by lia
theorem zq543 {x0 : Int} (h0 : (((0 : Int) ≤ x0) ∧ (x0 < (2048 : Int)))) : ((Int.natAbs (x0 * (1048576 : Int))) < ((2 : Nat) ^ (50 : Nat))) := by omega
theorem zq544 {x0 : Nat} {x1 : Nat} {x2 : Nat} {x3 : Nat} {x4 : Nat} {x5 : Nat} {x6 : Nat} {x7 : Nat} (h0 : (x0 = x1)) (h1 : (x2 = x0)) (h2 : (x3 = x1)) (h3 : (x4 = x2)) (h4 : (x5 = x2)) (h5 : (x6 < x7)) (h6 : (x7 < x1)) : (x6 < x1) := by omega
theorem zq545 {x0 : Nat} {x1 : Nat} {x2 : Nat} {x3 : Nat} {x4 : Nat} {x5 : Nat} {x6 : Nat} {x7 : Nat} (h0 : (x0 = x1)) (h1 : (x2 = x0)) (h2 : (x3 = x1)) (h3 : (x4 = x2)) (h4 : (x5 = x2)) (h5 : (x6 < x7)) (h6 : (x7 < x1)) : (x6 < x0) := by lia
theorem zq546 {x0 : Nat} {x1 : Nat} {x2 : Nat} {x3 : Nat} {x4 : Nat} {x5 : Nat} {x6 : Nat} (h0 : (x0 = x1)) (h1 : (x2 = x0)) (h2 : (x3 = x1)) (h3 : (x4 = x2)) (h4 : (x5 = x2)) (h5 : (x6 < x1)) : (x6 < x0) := by lia
theorem zq548 {x0 : Nat} {x1 : Nat} {x2 : Nat} {x3 : Nat} {x4 : Nat} {x5 : Nat} {x6 : Nat} (h0 : (x0 = x1)) (h1 : (x2 = x0)) (h2 : (x3 = x1)) (h3 : (x4 = x2)) (h4 : (x5 = x2)) (h5 : (x6 < ((2 : Nat) * x1))) (h6 : (¬ (x6 < x1))) : ((x6 - x1) < x2) := by lia
theorem zq550 {x0 : Nat} {x1 : Nat} {x2 : Nat} {x3 : Nat} {x4 : Nat} {x5 : Nat} {x6 : Nat} {x7 : Nat} (h0 : (x0 = x1)) (h1 : (x2 = x0)) (h2 : (x3 = x1)) (h3 : (x4 = x2)) (h4 : (x5 = x2)) (h5 : (x6 < x7)) (h6 : (¬ (x7 < x1))) (h7 : (¬ (x6 < x1))) : ((x6 - x1) < (x7 - x1)) := by lia
theorem zq551 {x0 : Nat} {x1 : Nat} (h0 : (x0 = x1)) (h1 : (x0 < x1)) : False := by lia
theorem zq552 {x0 : Nat} {x1 : Nat} {x2 : Nat} {x3 : Nat} {x4 : Nat} {x5 : Nat} {x6 : Nat} (h0 : (x0 = x1)) (h1 : (x2 = x0)) (h2 : (x3 = x1)) (h3 : (x4 = x2)) (h4 : (x5 = x2)) (h5 : (x6 < x1)) : (x6 < ((2 : Nat) * x1)) := by lia
theorem zq553 {x0 : Nat} {x1 : Nat} {x2 : Nat} {x3 : Nat} {x4 : Nat} {x5 : Nat} {x6 : Nat} (h0 : (x0 = x1)) (h1 : (x2 = x0)) (h2 : (x3 = x1)) (h3 : (x4 = x2)) (h4 : (x5 = x2)) (h5 : (x6 < x1)) : ((x1 + x6) < ((2 : Nat) * x1)) := by lia
theorem zq554 {x0 : Nat} {x1 : Nat} : (((x0 + x1) - x0) = x1) := Nat.add_sub_cancel_left _ _
theorem zq555 {x0 : Nat} {x1 : Nat} {x2 : Nat} {x3 : Nat} {x4 : Nat} {x5 : Nat} {x6 : Nat} (h0 : (x0 = x1)) (h1 : (x2 = x0)) (h2 : (x3 = x1)) (h3 : (x4 = x2)) (h4 : (x5 = x2)) (h5 : (x6 < x5)) : (x6 < x2) := by lia
theorem zq556 {x0 : Nat} {x1 : Nat} {x2 : Nat} {x3 : Nat} (h0 : (x0 = x1)) (h1 : (x0 < x1)) : (x2 = x3) := by omega
theorem zq557 {x0 : Nat} {x1 : Nat} {x2 : Nat} {x3 : Nat} (h0 : (x0 = x1)) (h1 : (x1 < x0)) : (x2 = x3) := by omega
theorem zq558 {x0 : Nat} {x1 : Nat} {x2 : Nat} {x3 : Nat} {x4 : Nat} {x5 : Nat} {x6 : Nat} (h0 : (x0 = x1)) (h1 : (x2 = x0)) (h2 : (x3 = x1)) (h3 : (x4 = x2)) (h4 : (x5 = x2)) (h5 : (x6 < x5)) : (x6 < x1) := by omega
theorem zq559 {x0 : Nat} {x1 : Nat} {x2 : Nat} {x3 : Nat} {x4 : Nat} {x5 : Nat} {x6 : Nat} (h0 : (x0 = x1)) (h1 : (x2 = x0)) (h2 : (x3 = x1)) (h3 : (x4 = x2)) (h4 : (x5 = x2)) (h5 : (x6 < x5)) : (x6 < x0) := by lia
theorem zq560 {x0 : Nat} {x1 : Nat} {x2 : Nat} {x3 : Nat} {x4 : Nat} {x5 : Nat} {x6 : Nat} (h0 : (x0 = x1)) (h1 : (x2 = x0)) (h2 : (x3 = x1)) (h3 : (x4 = x2)) (h4 : (x5 = x2)) (h5 : (x6 < x5)) : (x6 < x3) := by omega
theorem zq561 {x0 : Nat} {x1 : Nat} {x2 : Nat} {x3 : Nat} {x4 : Nat} (h0 : (((x0 + (1 : Nat)) + (1 : Nat)) ≤ x1)) (h1 : (x1 ≤ x2)) (h2 : (((((((x2 + (1 : Nat)) + (1 : Nat)) + (1 : Nat)) + (1 : Nat)) + (1 : Nat)) ≤ x3) ∧ (x3 < x4))) : ((1 : Nat) ≤ x3) := by lia
theorem zq562 {x0 : Nat} {x1 : Nat} {x2 : Nat} (h0 : (((((((x0 + (1 : Nat)) + (1 : Nat)) + (1 : Nat)) + (1 : Nat)) + (1 : Nat)) ≤ x1) ∧ (x1 < x2))) : (x1 < x2) := by lia
theorem zq563 {x0 : Nat} {x1 : Nat} {x2 : Nat} {x3 : Nat} {x4 : Nat} {x5 : Nat} {x6 : Nat} (h0 : (x0 < x1)) (h1 : ((x2 ≤ x3) ∧ (x1 ≤ x4))) (h2 : (((((((x4 + (1 : Nat)) + (1 : Nat)) + (1 : Nat)) + (1 : Nat)) + (1 : Nat)) ≤ x5) ∧ (x5 < x6))) : (x0 < x6) := by lia
theorem zq564 {x0 : Int} {x1 : Int} : (((x0 - x1) * (1048576 : Int)) = ((x0 * (1048576 : Int)) - (x1 * (1048576 : Int)))) := by lia
theorem zq565 {x0 : Int} {x1 : Int} : (((x0 * (1048576 : Int)) - (x1 * (1048576 : Int))) = ((x0 - x1) * (1048576 : Int))) := by omega
theorem zq566 {x0 : Int} {x1 : Int} (h0 : (((0 : Int) ≤ x0) ∧ (x0 < (1024 : Int)))) (h1 : (((0 : Int) ≤ x1) ∧ (x1 < (2048 : Int)))) : ((Int.natAbs ((x0 - x1) * (1048576 : Int))) < ((2 : Nat) ^ (50 : Nat))) := by lia
theorem zq567 {x0 : Nat} {x1 : Nat} {x2 : Nat} {x3 : Nat} {x4 : Nat} {x5 : Nat} {x6 : Nat} {x7 : Nat} (h0 : ((2 : Nat) ≤ x0)) (h1 : (x0 ≤ (8 : Nat))) (h2 : (x1 = x0)) (h3 : (x2 = x3)) (h4 : (x3 = x0)) (h5 : (x4 = x2)) (h6 : (x5 = x3)) (h7 : (x6 = x4)) (h8 : (x7 = x4)) : ((1 : Nat) ≤ x3) := by lia
theorem zq568 {x0 : Nat} {x1 : Nat} {x2 : Nat} {x3 : Nat} {x4 : Nat} {x5 : Nat} {x6 : Nat} (h0 : (x0 = x1)) (h1 : (x2 = x0)) (h2 : (x3 = x1)) (h3 : (x4 = x2)) (h4 : (x5 = x2)) (h5 : (x6 = x1)) : (x5 = x6) := by lia
theorem zq569 {x0 : Nat} {x1 : Nat} (h0 : ((((((x0 + (1 : Nat)) + (1 : Nat)) + (1 : Nat)) + (1 : Nat)) + (1 : Nat)) ≤ x1)) : (x0 ≤ x1) := by lia
theorem zq570 {x0 : Nat} {x1 : Nat} {x2 : Nat} {x3 : Nat} {x4 : Nat} {x5 : Nat} {x6 : Nat} {x7 : Nat} (h0 : ((2 : Nat) ≤ x0)) (h1 : (x0 ≤ (8 : Nat))) (h2 : (x1 = x0)) (h3 : (x2 = x3)) (h4 : (x3 = x0)) (h5 : (x4 = x2)) (h6 : (x5 = x3)) (h7 : (x6 = x4)) (h8 : (x7 = x4)) : (x7 < (900 : Nat)) := by omega
theorem zq571 {x0 : Nat} {x1 : Nat} {x2 : Nat} {x3 : Nat} {x4 : Nat} {x5 : Nat} {x6 : Nat} {x7 : Nat} (h0 : ((2 : Nat) ≤ x0)) (h1 : (x0 ≤ (8 : Nat))) (h2 : (x1 = x0)) (h3 : (x2 = x3)) (h4 : (x3 = x0)) (h5 : (x4 = x2)) (h6 : (x5 = x3)) (h7 : (x6 = x4)) (h8 : (x7 = x4)) : ((x7 / (2 : Nat)) ≤ x7) := by lia
theorem zq572 {x0 : Nat} {x1 : Nat} {x2 : Nat} {x3 : Nat} {x4 : Nat} {x5 : Nat} {x6 : Nat} {x7 : Nat} (h0 : ((2 : Nat) ≤ x0)) (h1 : (x0 ≤ (8 : Nat))) (h2 : (x1 = x0)) (h3 : (x2 = x3)) (h4 : (x3 = x0)) (h5 : (x4 = x2)) (h6 : (x5 = x3)) (h7 : (x6 = x4)) (h8 : (x7 = x4)) : ((1 : Nat) ≤ x0) := by lia
theorem zq573 {x0 : Nat} {x1 : Nat} {x2 : Nat} {x3 : Nat} {x4 : Nat} {x5 : Nat} {x6 : Nat} {x7 : Nat} (h0 : ((2 : Nat) ≤ x0)) (h1 : (x0 ≤ (8 : Nat))) (h2 : (x1 = x0)) (h3 : (x2 = x3)) (h4 : (x3 = x0)) (h5 : (x4 = x2)) (h6 : (x5 = x3)) (h7 : (x6 = x4)) (h8 : (x7 = x4)) : (x0 < (30 : Nat)) := by lia
theorem zq574 {x0 : Nat} {x1 : Nat} {x2 : Nat} {x3 : Nat} (h0 : ((2 : Nat) ≤ x0)) (h1 : (x0 ≤ (8 : Nat))) (h2 : (x1 = x0)) (h3 : (x2 = x0)) (h4 : (x3 = x2)) : ((1 : Nat) ≤ x2) := by lia
theorem zq575 {x0 : Nat} {x1 : Nat} {x2 : Nat} {x3 : Nat} {x4 : Nat} (h0 : ((2 : Nat) ≤ x0)) (h1 : (x0 ≤ (8 : Nat))) (h2 : (x1 = x0)) (h3 : (x2 = x0)) (h4 : (x3 = x2)) (h5 : (x4 = x2)) : ((10 : Nat) < ((15 : Nat) * x4)) := by omega
theorem zq576 {x0 : Nat} {x1 : Nat} {x2 : Nat} {x3 : Nat} {x4 : Nat} (h0 : ((2 : Nat) ≤ x0)) (h1 : (x0 ≤ (8 : Nat))) (h2 : (x1 = x0)) (h3 : (x2 = x0)) (h4 : (x3 = x2)) (h5 : (x4 = x2)) : (((15 : Nat) * x4) < (900 : Nat)) := by omega
theorem zq577 {x0 : Nat} {x1 : Nat} {x2 : Nat} {x3 : Nat} (h0 : ((x0 + (1 : Nat)) ≤ x1)) (h1 : (x1 ≤ x2)) (h2 : (((x2 + (1 : Nat)) + (1 : Nat)) ≤ x3)) : (x0 ≤ x3) := by lia
theorem zq578 {x0 : Nat} {x1 : Nat} {x2 : Nat} {x3 : Nat} {x4 : Nat} (h0 : ((2 : Nat) ≤ x0)) (h1 : (x0 ≤ (8 : Nat))) (h2 : (x1 = x0)) (h3 : (x2 = x0)) (h4 : (x3 = x2)) (h5 : (x4 = x2)) : (x2 ≤ (8 : Nat)) := by lia
theorem zq579 {x0 : Nat} {x1 : Nat} (h0 : ((x0 + x1) = (10 : Nat))) (h1 : ((0 : Int) < ((10 : Int) - ((x1 : Nat) : Int)))) : (x1 < (10 : Nat)) := by lia
theorem zq580 {x0 : Nat} {x1 : Nat} {x2 : Nat} (h0 : (x0 = (10 : Nat))) (h1 : ((x1 + x2) = (10 : Nat))) (h2 : ((0 : Int) < ((10 : Int) - ((x2 : Nat) : Int)))) : (x2 < x0) := by lia
theorem zq581 {x0 : Nat} : ((((x0 + (1 : Nat)) : Nat) : Int) = (((x0 : Nat) : Int) + (1 : Int))) := by lia
theorem zq582 {x0 : Nat} : (((10 : Int) - (((x0 : Nat) : Int) + (1 : Int))) = (((10 : Int) - ((x0 : Nat) : Int)) - (1 : Int))) := by lia
theorem zq583 {x0 : Nat} {x1 : Nat} {x2 : Nat} {x3 : Nat} (h0 : (x0 = x1)) (h1 : ((x2 + (1 : Nat)) = x3)) (h2 : (x3 = x0)) : ((x2 + (1 : Nat)) = x1) := by lia
theorem zq584 {x0 : Nat} (h0 : (x0 = (10 : Nat))) : (x0 < (1000 : Nat)) := by omega
theorem zq585 {x0 : Nat} : (x0 ≤ ((((x0 + (1 : Nat)) + (1 : Nat)) + (1 : Nat)) + (1 : Nat))) := by lia
theorem zq586 {x0 : Nat} {x1 : Nat} (h0 : ((x0 + x1) = (10 : Nat))) (h1 : ((0 : Int) < ((10 : Int) - ((x1 : Nat) : Int)))) : (((0 : Int) ≤ ((x1 : Nat) : Int)) ∧ (((x1 : Nat) : Int) < (10 : Int))) := by lia
theorem zq587 {x0 : Nat} {x1 : Nat} {x2 : Nat} {x3 : Nat} {x4 : Nat} (h0 : ((x0 + x1) = (10 : Nat))) (h1 : ((0 : Int) < ((10 : Int) - ((x1 : Nat) : Int)))) (h2 : ((x2 + (1 : Nat)) = x3)) (h3 : (x3 ≤ ((8 : Nat) + x1))) (h4 : (x4 = x3)) : (x2 < (800 : Nat)) := by lia
theorem zq588 {x0 : Nat} {x1 : Nat} {x2 : Nat} {x3 : Nat} (h0 : ((x0 + x1) = (10 : Nat))) (h1 : ((0 : Int) < ((10 : Int) - ((x1 : Nat) : Int)))) (h2 : (x2 ≤ ((8 : Nat) + x1))) (h3 : (x3 = x2)) : (x3 < (1000 : Nat)) := by lia
theorem zq589 {x0 : Nat} {x1 : Nat} (h0 : ((x0 + x1) = (10 : Nat))) (h1 : ((0 : Int) < ((10 : Int) - ((x1 : Nat) : Int)))) : ((x0 - (1 : Nat)) < x0) := by lia
theorem zq590 {x0 : Nat} {x1 : Nat} (h0 : ((x0 + x1) = (10 : Nat))) (h1 : ((0 : Int) < ((10 : Int) - ((x1 : Nat) : Int)))) : (((x0 - (1 : Nat)) + (x1 + (1 : Nat))) = (10 : Nat)) := by lia
theorem zq591 {x0 : Nat} : (x0 ≤ (((((x0 + (1 : Nat)) + (1 : Nat)) + (1 : Nat)) + (1 : Nat)) + (1 : Nat))) := by lia
theorem zq592 {x0 : Nat} (h0 : ((2 : Nat) ≤ x0)) : ((1 : Nat) ≤ x0) := by lia
theorem zq593 {x0 : Nat} {x1 : Nat} (h0 : ((x0 + x1) = (10 : Nat))) (h1 : (((10 : Int) - ((x1 : Nat) : Int)) ≤ (0 : Int))) : (x1 = (10 : Nat)) := by lia
theorem zq594 {x0 : Nat} {x1 : Nat} {x2 : Nat} (h0 : (x0 = x1)) (h1 : (x2 = x0)) : (x2 = x1) := by lia
theorem zq595 {x0 : Nat} {x1 : Nat} {x2 : Nat} {x3 : Nat} {x4 : Nat} (h0 : ((2 : Nat) ≤ x0)) (h1 : (x1 ≤ ((8 : Nat) + (10 : Nat)))) (h2 : (x2 = x1)) (h3 : (x3 = x1)) (h4 : (x4 = x1)) (h5 : (x1 = x0)) : ((2 : Nat) ≤ x1) := by lia
theorem zq596 {x0 : Nat} : (x0 ≤ (x0 + (1 : Nat))) := by lia
theorem zq597 {x0 : Nat} {x1 : Nat} {x2 : Nat} {x3 : Nat} {x4 : Nat} {x5 : Nat} (h0 : (x0 = x1)) (h1 : (x2 = x1)) (h2 : (x3 = x1)) (h3 : ((x4 + x5) = x2)) : ((x4 + x5) = x1) := by lia
theorem zq598 {x0 : Nat} {x1 : Nat} (h0 : ((x0 + ((20 : Nat) * (20 : Nat))) < x1)) : ((x0 + (10 : Nat)) < x1) := by lia
theorem zq599 {x0 : Nat} {x1 : Nat} {x2 : Nat} {x3 : Nat} {x4 : Nat} {x5 : Nat} (h0 : (x0 ≤ ((8 : Nat) + (10 : Nat)))) (h1 : (x1 = x0)) (h2 : (x2 = x0)) (h3 : (x3 = x0)) (h4 : ((2 : Nat) ≤ x0)) (h5 : ((x4 + x5) = x0)) : (x5 < (800 : Nat)) := by lia
theorem zq600 {x0 : Nat} {x1 : Nat} {x2 : Nat} {x3 : Nat} {x4 : Nat} {x5 : Nat} (h0 : (x0 ≤ ((8 : Nat) + (10 : Nat)))) (h1 : (x1 = x0)) (h2 : (x2 = x0)) (h3 : (x3 = x0)) (h4 : ((2 : Nat) ≤ x0)) (h5 : ((x4 + x5) = x0)) : (x4 < (1000 : Nat)) := by lia
theorem zq601 {x0 : Nat} {x1 : Nat} (h0 : ((x0 + (1 : Nat)) = x1)) : (x0 < x1) := by lia
theorem zq602 {x0 : Nat} {x1 : Nat} {x2 : Nat} (h0 : (x0 ≤ x1)) (h1 : (x1 ≤ x2)) : (x0 ≤ x2) := by omega
theorem zq603 {x0 : Nat} {x1 : Nat} {x2 : Nat} {x3 : Nat} {x4 : Nat} (h0 : (x0 ≤ ((8 : Nat) + (10 : Nat)))) (h1 : (x1 = x0)) (h2 : (x2 = x0)) (h3 : ((2 : Nat) ≤ x0)) (h4 : (x3 = x0)) (h5 : (x0 = x4)) : (x4 < (64 : Nat)) := by lia
theorem zq604 {x0 : Nat} {x1 : Nat} {x2 : Nat} {x3 : Nat} {x4 : Nat} {x5 : Nat} (h0 : (x0 = x1)) (h1 : (x2 = x1)) (h2 : (x3 = x1)) (h3 : (x4 = x1)) (h4 : (x5 < x4)) : (x5 < x0) := by lia
theorem zq605 {x0 : Nat} {x1 : Nat} {x2 : Nat} {x3 : Nat} {x4 : Nat} (h0 : (x0 = x1)) (h1 : (x2 = x1)) (h2 : (x3 = x1)) (h3 : (x4 = x1)) : (x4 = x0) := by lia
theorem zq606 {x0 : Nat} {x1 : Nat} (h0 : ((x0 + ((20 : Nat) * (20 : Nat))) < x1)) : ((x0 + (20 : Nat)) < x1) := by omega
theorem zq607 {x0 : Nat} {x1 : Nat} {x2 : Nat} {x3 : Nat} {x4 : Nat} (h0 : (x0 ≤ ((8 : Nat) + (10 : Nat)))) (h1 : (x1 = x0)) (h2 : (x2 = x0)) (h3 : ((2 : Nat) ≤ x0)) (h4 : (x3 = x0)) (h5 : (x4 = x0)) : ((2 : Nat) ≤ x4) := by lia
theorem zq608 {x0 : Nat} {x1 : Nat} {x2 : Nat} {x3 : Nat} {x4 : Nat} (h0 : (x0 ≤ ((8 : Nat) + (10 : Nat)))) (h1 : (x1 = x0)) (h2 : (x2 = x0)) (h3 : ((2 : Nat) ≤ x0)) (h4 : (x3 = x0)) (h5 : (x4 = x0)) : (x4 < (64 : Nat)) := by lia
theorem zq609 {x0 : Nat} {x1 : Nat} {x2 : Nat} {x3 : Nat} {x4 : Nat} {x5 : Nat} (h0 : (x0 ≤ ((8 : Nat) + (10 : Nat)))) (h1 : (x1 = x0)) (h2 : (x2 = x0)) (h3 : ((2 : Nat) ≤ x0)) (h4 : (x3 = x0)) (h5 : (x4 = x0)) (h6 : (x5 = x0)) : (x5 < (900 : Nat)) := by lia
theorem zq610 {x0 : Int} {x1 : Int} (h0 : (((-(1024 : Int)) ≤ x0) ∧ ((x0 ≤ (0 : Int)) ∧ (((0 : Int) ≤ x1) ∧ (x1 < (1024 : Int)))))) : ((Int.natAbs x0) < ((2 : Nat) ^ (60 : Nat))) := hAn (k := 1024) h0.1 (Int.le_trans h0.2.1 (by decide)) (by decide)
theorem zq611 {x0 : Int} {x1 : Int} (h0 : (((-(1024 : Int)) ≤ x0) ∧ ((x0 ≤ (0 : Int)) ∧ (((0 : Int) ≤ x1) ∧ (x1 < (1024 : Int)))))) : ((Int.natAbs (x0 * (1048576 : Int))) < ((2 : Nat) ^ (53 : Nat))) := by omega
theorem zq612 {x0 : Int} : ((x0 * ((2 : Int) ^ (30 : Nat))) = ((1024 : Int) * (x0 * (1048576 : Int)))) := by lia
theorem zq613 {x0 : Int} {x1 : Int} (h0 : (((-(1024 : Int)) ≤ x0) ∧ ((x0 ≤ (0 : Int)) ∧ (((0 : Int) ≤ x1) ∧ (x1 < (1024 : Int)))))) : ((Int.natAbs x1) < ((2 : Nat) ^ (60 : Nat))) := by lia
theorem zq614 {x0 : Int} {x1 : Int} (h0 : (((-(1024 : Int)) ≤ x0) ∧ ((x0 ≤ (0 : Int)) ∧ (((0 : Int) ≤ x1) ∧ (x1 < (1024 : Int)))))) : ((Int.natAbs (x1 * (1048576 : Int))) < ((2 : Nat) ^ (53 : Nat))) := by lia
theorem zq615 {x0 : Nat} : (x0 < (((x0 + (1 : Nat)) + (1 : Nat)) + (1 : Nat))) := by lia
theorem zq616 {x0 : Nat} : ((((((x0 + (1 : Nat)) + (1 : Nat)) + (1 : Nat)) + (1 : Nat)) + (1 : Nat)) < (x0 + (6 : Nat))) := by lia
theorem zq617 {x0 : Nat} : (x0 ≤ ((((((x0 + (1 : Nat)) + (1 : Nat)) + (1 : Nat)) + (1 : Nat)) + (1 : Nat)) + (1 : Nat))) := by lia
theorem zq618 {x0 : Nat} {x1 : Nat} {x2 : Nat} {x3 : Nat} (h0 : (x0 = x1)) (h1 : (x2 < x3)) (h2 : (x3 < ((2 : Nat) * x1))) : ((x2 / (2 : Nat)) < x1) := by lia
theorem zq619 {x0 : Nat} {x1 : Nat} {x2 : Nat} (h0 : (x0 = x1)) (h1 : (x2 < ((2 : Nat) * x1))) : ((x2 / (2 : Nat)) < x1) := by lia
theorem zq620 {x0 : Nat} {x1 : Nat} (h0 : (x0 < x1)) (h1 : ((x0 / (2 : Nat)) = (x1 / (2 : Nat)))) : ((x0 % (2 : Nat)) = (0 : Nat)) := by omega
theorem zq621 {x0 : Nat} {x1 : Nat} (h0 : (x0 < x1)) (h1 : ((x0 / (2 : Nat)) = (x1 / (2 : Nat)))) : (¬ ((x1 % (2 : Nat)) = (0 : Nat))) := by lia
theorem zq622 {x0 : Nat} {x1 : Nat} (h0 : (x0 < x1)) (h1 : (¬ ((x0 / (2 : Nat)) = (x1 / (2 : Nat))))) : ((x0 / (2 : Nat)) < (x1 / (2 : Nat))) := by lia
theorem zq623 {x0 : Nat} {x1 : Nat} {x2 : Nat} {x3 : Nat} {x4 : Nat} (h0 : (x0 < x1)) (h1 : (x1 < x2)) (h2 : (x3 < x4)) (h3 : (x2 ≤ x3)) (h4 : (x0 = x4)) : False := by lia
theorem zq624 {x0 : Nat} {x1 : Nat} {x2 : Nat} {x3 : Nat} {x4 : Nat} {x5 : Nat} (h0 : (x0 < x1)) (h1 : (x1 < x2)) (h2 : (x3 < x4)) (h3 : (x4 < x5)) (h4 : (x2 ≤ x3)) (h5 : (x0 = x5)) : False := by lia
theorem zq625 {x0 : Nat} {x1 : Nat} {x2 : Nat} {x3 : Nat} (h0 : (x0 < x1)) (h1 : (x2 < x3)) (h2 : (x1 ≤ x2)) (h3 : (x0 = x3)) : False := by lia
theorem zq626 {x0 : Nat} {x1 : Nat} {x2 : Nat} {x3 : Nat} {x4 : Nat} (h0 : (x0 < x1)) (h1 : (x2 < x3)) (h2 : (x3 < x4)) (h3 : (x1 ≤ x2)) (h4 : (x0 = x4)) : False := by lia
theorem zq627 {x0 : Nat} {x1 : Nat} {x2 : Nat} (h0 : (x0 = x1)) (h1 : (x2 < x1)) : (((2 : Nat) * x2) < ((2 : Nat) * x1)) := by omega
theorem zq628 {x0 : Nat} : ((((2 : Nat) * x0) % (2 : Nat)) = (0 : Nat)) := by lia
theorem zq629 {x0 : Nat} : ((((2 : Nat) * x0) / (2 : Nat)) = x0) := by lia
theorem zq630 {x0 : Nat} {x1 : Nat} {x2 : Nat} (h0 : (x0 = x1)) (h1 : (x2 < x1)) : ((((2 : Nat) * x2) + (1 : Nat)) < ((2 : Nat) * x1)) := by lia
theorem zq631 {x0 : Nat} : (¬ (((((2 : Nat) * x0) + (1 : Nat)) % (2 : Nat)) = (0 : Nat))) := by lia
theorem zq632 {x0 : Nat} : (((((2 : Nat) * x0) + (1 : Nat)) / (2 : Nat)) = x0) := by lia
theorem zq633 {x0 : Nat} {x1 : Nat} {x2 : Nat} {x3 : Nat} {x4 : Nat} {x5 : Nat} {x6 : Nat} (h0 : (x0 = x1)) (h1 : (x2 = x1)) (h2 : (x3 = x1)) (h3 : (x4 = x1)) (h4 : (x5 = x1)) (h5 : (x6 = x5)) : (x3 = x6) := by lia
theorem zq634 {x0 : Nat} {x1 : Nat} {x2 : Nat} {x3 : Nat} {x4 : Nat} {x5 : Nat} {x6 : Nat} {x7 : Nat} (h0 : (x0 = x1)) (h1 : (x2 = x1)) (h2 : (x3 = x1)) (h3 : (x4 = x1)) (h4 : (x5 = x1)) (h5 : (x6 = x5)) (h6 : (x7 < x3)) : (x7 < x5) := by lia
theorem zq635 {x0 : Nat} {x1 : Nat} (h0 : (x0 < x1)) : ((1 : Nat) ≤ x1) := by omega
theorem zq636 {x0 : Nat} {x1 : Nat} {x2 : Nat} (h0 : (x0 < x1)) (h1 : (x1 < x2)) : ((1 : Nat) ≤ x2) := by lia
theorem zq637 {x0 : Nat} {x1 : Nat} {x2 : Nat} {x3 : Nat} {x4 : Nat} {x5 : Nat} (h0 : (x0 ≤ x1)) (h1 : (x2 < x3)) (h2 : ((x1 ≤ x2) ∧ (x4 ≤ x5))) : (¬ (x3 < x0)) := by lia
theorem zq638 {x0 : Int} {x1 : Int} (h0 : (((-(1024 : Int)) ≤ x0) ∧ ((x0 ≤ (0 : Int)) ∧ (((0 : Int) ≤ x1) ∧ (x1 < (1024 : Int)))))) : ((Int.natAbs (x0 * (1048576 : Int))) < ((2 : Nat) ^ (50 : Nat))) := hAn (k := 1024 * 1048576) (Int.mul_le_mul_of_nonneg_right h0.1 (by decide)) (Int.mul_le_mul_of_nonneg_right (Int.le_trans h0.2.1 (by decide) : x0 ≤ 1024) (by decide)) (by decide)
theorem zq639 {x0 : Nat} {x1 : Nat} {x2 : Nat} {x3 : Nat} {x4 : Nat} {x5 : Nat} {x6 : Nat} (h0 : (x0 ≤ x1)) (h1 : (x2 < x3)) (h2 : (x3 < x4)) (h3 : ((x1 ≤ x2) ∧ (x5 ≤ x6))) : (¬ (x4 < x0)) := by lia
theorem zq640 {x0 : Int} {x1 : Int} (h0 : (((-(1024 : Int)) ≤ x0) ∧ ((x0 ≤ (0 : Int)) ∧ (((0 : Int) ≤ x1) ∧ (x1 < (1024 : Int)))))) : ((Int.natAbs (x1 * (1048576 : Int))) < ((2 : Nat) ^ (50 : Nat))) := by lia
theorem zq641 {x0 : Nat} {x1 : Nat} {x2 : Nat} {x3 : Nat} (h0 : (x0 ≤ x1)) (h1 : ((x2 + ((20 : Nat) * x1)) < x3)) : ((x2 + ((20 : Nat) * x0)) < x3) := by lia
theorem zq642 {x0 : Nat} {x1 : Nat} (h0 : ((10 : Nat) < x0)) (h1 : (x0 < (900 : Nat))) (h2 : (x1 = x0)) : (x1 < (1000 : Nat)) := by lia
theorem zq643 {x0 : Nat} {x1 : Nat} (h0 : ((10 : Nat) < x0)) (h1 : (x0 < (900 : Nat))) (h2 : (x1 = x0)) (h3 : (((x1 : Nat) : Int) ≤ (10 : Int))) : (¬ (((x1 : Nat) : Int) ≤ (10 : Int))) := by lia
theorem zq644 {x0 : Nat} {x1 : Nat} (h0 : ((10 : Nat) < x0)) (h1 : (x0 < (900 : Nat))) (h2 : (x1 = x0)) : ((10 : Nat) ≤ x1) := by lia
theorem zq645 {x0 : Nat} {x1 : Nat} (h0 : (x0 = (10 : Nat))) (h1 : (x1 < x0)) : (x1 < (10 : Nat)) := by omega
theorem zq647 {x0 : Nat} {x1 : Nat} {x2 : Nat} {x3 : Nat} (h0 : ((10 : Nat) < x0)) (h1 : (x0 < (900 : Nat))) (h2 : (x1 = x0)) (h3 : (x2 = (10 : Nat))) (h4 : (x3 < x2)) : (x3 < x0) := by lia
theorem zq648 {x0 : Nat} : (((x0 + (1 : Nat)) + (4 : Nat)) ≤ (x0 + (5 : Nat))) := by lia
theorem zq649 {x0 : Nat} (h0 : (x0 = (10 : Nat))) : (x0 < (900 : Nat)) := by lia
theorem zq650 {x0 : Nat} {x1 : Nat} (h0 : ((10 : Nat) < x0)) (h1 : (x0 < (900 : Nat))) (h2 : (x1 = x0)) : ((10 : Nat) ≤ x0) := by lia
theorem zq651 {x0 : Nat} {x1 : Nat} (h0 : (x0 = (10 : Nat))) (h1 : (x1 < (10 : Nat))) : (x1 < x0) := by lia
theorem zq652 {x0 : Nat} (h0 : (x0 = (10 : Nat))) : ((x0 / (2 : Nat)) ≤ x0) := by lia
theorem zq653 {x0 : Nat} {x1 : Nat} (h0 : ((10 : Nat) < x0)) (h1 : (x0 < (900 : Nat))) (h2 : (x1 = x0)) : (((x0 - (10 : Nat)) + (10 : Nat)) = x0) := by lia
theorem zq654 {x0 : Nat} {x1 : Nat} {x2 : Nat} (h0 : ((x0 + ((20 : Nat) * (x1 + (5 : Nat)))) < x2)) : ((x0 + (1 : Nat)) < x2) := by lia
theorem zq655 {x0 : Nat} (h0 : (x0 = (10 : Nat))) : ((0 : Nat) < x0) := by omega
theorem zq656 {x0 : Nat} (h0 : ((10 : Nat) ≤ x0)) : ((10 : Nat) ≤ (x0 + (1 : Nat))) := by lia
theorem zq657 {x0 : Nat} {x1 : Nat} {x2 : Nat} (h0 : ((x0 + ((20 : Nat) * (x1 + (5 : Nat)))) < x2)) : ((x0 + (20 : Nat)) < x2) := by lia
theorem zq658 {x0 : Nat} (h0 : (x0 = (10 : Nat))) : ((2 : Nat) ≤ x0) := by lia
theorem zq659 {x0 : Nat} (h0 : (x0 = (10 : Nat))) : (x0 < (64 : Nat)) := by omega
theorem zq660 {x0 : Nat} {x1 : Nat} {x2 : Nat} (h0 : ((x0 + (x1 + (7 : Nat))) < x2)) : (((x0 + (1 : Nat)) + (x1 + (6 : Nat))) < x2) := by lia
theorem zq661 {x0 : Nat} {x1 : Nat} {x2 : Nat} (h0 : ((x0 + ((20 : Nat) * (x1 + (7 : Nat)))) < x2)) : (((x0 + (3 : Nat)) + ((20 : Nat) * (x1 + (6 : Nat)))) < x2) := by lia
theorem zq662 {x0 : Nat} {x1 : Nat} (h0 : (x0 = x1)) (h1 : ((2 : Nat) ≤ x1)) (h2 : (x1 < (60 : Nat))) (h3 : (((x0 : Nat) : Int) = (1 : Int))) : False := by lia
theorem zq663 {x0 : Nat} {x1 : Nat} (h0 : (x0 = x1)) (h1 : ((2 : Nat) ≤ x1)) (h2 : (x1 < (60 : Nat))) : (x0 < (1000 : Nat)) := by omega
theorem zq664 {x0 : Nat} {x1 : Nat} (h0 : (x0 = x1)) (h1 : ((2 : Nat) ≤ x1)) (h2 : (x1 < (60 : Nat))) : (x0 < (900 : Nat)) := by lia
theorem zq665 {x0 : Nat} : ((x0 + (3 : Nat)) ≤ (x0 + (6 : Nat))) := by lia
theorem zq666 {x0 : Nat} {x1 : Nat} {x2 : Nat} (h0 : (x0 ≤ x1)) (h1 : (x1 < x2)) : (x0 ≤ x2) := by lia
theorem zq667 {x0 : Nat} {x1 : Nat} {x2 : Nat} (h0 : (x0 = x1)) (h1 : ((2 : Nat) ≤ x1)) (h2 : (x1 < (60 : Nat))) (h3 : (x2 = x0)) : (x2 < (1000 : Nat)) := by lia
theorem zq668 {x0 : Nat} {x1 : Nat} (h0 : (x0 = x1)) (h1 : ((2 : Nat) ≤ x1)) (h2 : (x1 < (60 : Nat))) (h3 : ((0 : Nat) = x0)) : False := by lia
theorem zq669 {x0 : Nat} {x1 : Nat} {x2 : Nat} {x3 : Nat} {x4 : Nat} (h0 : (x0 = x1)) (h1 : (x2 = x0)) (h2 : (x3 < x4)) (h3 : (x4 < x0)) : (x3 < x0) := by lia
theorem zq670 {x0 : Nat} {x1 : Nat} {x2 : Nat} {x3 : Nat} (h0 : (x0 = x1)) (h1 : (x0 < x2)) (h2 : (x3 ≤ x1)) (h3 : (x2 ≤ x3)) : False := by lia
theorem zq671 {x0 : Nat} {x1 : Nat} {x2 : Nat} {x3 : Nat} (h0 : (x0 = x1)) (h1 : (x2 = x0)) (h2 : (x3 < x2)) : (x3 < x0) := by lia
theorem zq672 {x0 : Nat} {x1 : Nat} {x2 : Nat} {x3 : Nat} (h0 : (x0 = x1)) (h1 : (x2 = x0)) (h2 : (x3 < x0)) : (x3 < x1) := by lia
theorem zq673 {x0 : Nat} {x1 : Nat} {x2 : Nat} {x3 : Nat} {x4 : Nat} (h0 : ((x0 ≤ x1) ∧ (((1 : Nat) ≤ x1) ∧ (x2 ≤ x3)))) (h1 : (x1 ≤ x4)) : ((1 : Nat) ≤ x4) := by lia
theorem zq674 {x0 : Nat} {x1 : Nat} (h0 : (((x0 : Nat) : Int) = ((x1 : Nat) : Int))) : (x0 = x1) := by lia
theorem zq675 {x0 : Nat} : (((x0 + (1 : Nat)) + (4 : Nat)) ≤ (x0 + (6 : Nat))) := by lia
theorem zq676 {x0 : Nat} {x1 : Nat} {x2 : Nat} (h0 : (x0 = x1)) (h1 : ((2 : Nat) ≤ x1)) (h2 : (x1 < (60 : Nat))) (h3 : (x2 = x0)) : (x2 < (900 : Nat)) := by omega
theorem zq677 {x0 : Nat} {x1 : Nat} {x2 : Nat} (h0 : (x0 = x1)) (h1 : ((2 : Nat) ≤ x1)) (h2 : (x1 < (60 : Nat))) (h3 : (x2 = x0)) : ((x2 / (2 : Nat)) ≤ x2) := by lia
theorem zq678 {x0 : Nat} {x1 : Nat} {x2 : Nat} {x3 : Nat} (h0 : (x0 = x1)) (h1 : ((2 : Nat) ≤ x1)) (h2 : (x1 < (60 : Nat))) (h3 : (x2 = x0)) (h4 : (x3 = x0)) : ((0 : Nat) < x3) := by lia
theorem zq679 {x0 : Nat} {x1 : Nat} {x2 : Nat} {x3 : Nat} (h0 : (x0 = x1)) (h1 : ((2 : Nat) ≤ x1)) (h2 : (x1 < (60 : Nat))) (h3 : (x2 = x0)) (h4 : (x3 = x0)) : (x3 < (1000 : Nat)) := by lia
theorem zq680 {x0 : Nat} {x1 : Nat} {x2 : Nat} (h0 : ((x0 + ((20 : Nat) * (x1 + (6 : Nat)))) < x2)) : ((x0 + (20 : Nat)) < x2) := by lia
theorem zq681 {x0 : Nat} {x1 : Nat} {x2 : Nat} {x3 : Nat} (h0 : (x0 = x1)) (h1 : ((2 : Nat) ≤ x1)) (h2 : (x1 < (60 : Nat))) (h3 : (x2 = x0)) (h4 : (x3 = x0)) : ((2 : Nat) ≤ x3) := by lia
theorem zq682 {x0 : Nat} {x1 : Nat} {x2 : Nat} {x3 : Nat} (h0 : (x0 = x1)) (h1 : ((2 : Nat) ≤ x1)) (h2 : (x1 < (60 : Nat))) (h3 : (x2 = x0)) (h4 : (x3 = x0)) : (x3 < (64 : Nat)) := by omega
theorem zq683 {x0 : Nat} {x1 : Nat} {x2 : Nat} {x3 : Nat} {x4 : Nat} (h0 : (x0 = x1)) (h1 : ((2 : Nat) ≤ x1)) (h2 : (x1 < (60 : Nat))) (h3 : (x2 = x0)) (h4 : (x3 = x0)) (h5 : (x4 = x0)) : (x4 < (900 : Nat)) := by lia
theorem zq684 {x0 : Nat} : (x0 ≤ (((x0 + (1 : Nat)) + (1 : Nat)) + (1 : Nat))) := by lia
theorem zq685 {x0 : Nat} {x1 : Nat} {x2 : Nat} {x3 : Nat} {x4 : Nat} {x5 : Nat} {x6 : Nat} (h0 : (x0 = x1)) (h1 : (x2 = x0)) (h2 : (x3 = x0)) (h3 : (x4 = x0)) (h4 : (x5 = x4)) (h5 : (x6 < x0)) : (x6 < x1) := by lia
theorem zq686 {x0 : Int} {x1 : Int} {x2 : Nat} {x3 : Nat} (h0 : (¬ (((x0 * (1048576 : Int)) < (x1 * (1048576 : Int))) ∨ (((x0 * (1048576 : Int)) = (x1 * (1048576 : Int))) ∧ (((x2 : Nat) : Int) < ((x3 : Nat) : Int)))))) : (x1 ≤ x0) := by omega
theorem zq687 {x0 : Nat} {x1 : Nat} {x2 : Nat} (h0 : (x0 ≤ x1)) (h1 : (x2 < x0)) : (x2 < x1) := by omega
theorem zq688 {x0 : Nat} {x1 : Nat} {x2 : Nat} (h0 : (x0 ≤ x1)) (h1 : (x2 < x0)) : (¬ (x2 = x1)) := by omega
theorem zq689 {x0 : Nat} {x1 : Nat} {x2 : Nat} {x3 : Nat} (h0 : (x0 ≤ x1)) (h1 : (x1 < x2)) (h2 : (x3 < x0)) : (¬ (x3 = x2)) := by lia
theorem zq690 {x0 : Nat} {x1 : Nat} (h0 : (x0 < x1)) : (¬ (x1 = x0)) := by lia
theorem zq691 {x0 : Int} {x1 : Int} {x2 : Int} (h0 : (x0 = ((x1 % (8 : Int)) + (1 : Int)))) (h1 : (x2 = ((8 : Int) - (x1 % (5 : Int))))) : (((1 : Int) ≤ x0) ∧ (x0 ≤ (8 : Int))) := by lia
theorem zq692 {x0 : Int} {x1 : Int} {x2 : Int} (h0 : (x0 = ((x1 % (8 : Int)) + (1 : Int)))) (h1 : (x2 = ((8 : Int) - (x1 % (5 : Int))))) : (((1 : Int) ≤ x2) ∧ (x2 ≤ (8 : Int))) := by lia
theorem zq693 {x0 : Int} {x1 : Int} {x2 : Int} (h0 : (((-(1024 : Int)) ≤ x0) ∧ (x0 < (0 : Int)))) (h1 : ((x0 % (2 : Int)) = (0 : Int))) (h2 : (((0 : Int) ≤ x1) ∧ (x1 < (1024 : Int)))) (h3 : (x2 = (x1 - (x0 / (2 : Int))))) : (((0 : Int) ≤ x2) ∧ (x2 < (2048 : Int))) := by lia
theorem zq694 {x0 : Nat} (h0 : (x0 < (800 : Nat))) : ((x0 + (1 : Nat)) < (1000 : Nat)) := by lia
theorem zq695 {x0 : Int} {x1 : Int} {x2 : Int} (h0 : (((-(1024 : Int)) ≤ x0) ∧ (x0 < (0 : Int)))) (h1 : ((x0 % (2 : Int)) = (0 : Int))) (h2 : (x1 = (x2 - (x0 / (2 : Int))))) : ((Int.natAbs x0) < ((2 : Nat) ^ (60 : Nat))) := hAn (k := 1024) h0.1 (Int.le_trans (Int.le_of_lt h0.2) (by decide)) (by decide)
theorem zq696 {x0 : Int} {x1 : Int} {x2 : Int} (h0 : (((-(1024 : Int)) ≤ x0) ∧ (x0 < (0 : Int)))) (h1 : ((x0 % (2 : Int)) = (0 : Int))) (h2 : (x1 = (x2 - (x0 / (2 : Int))))) : ((Int.natAbs (x0 * (1048576 : Int))) < ((2 : Nat) ^ (53 : Nat))) := hAn (k := 1024 * 1048576) (Int.mul_le_mul_of_nonneg_right h0.1 (by decide)) (Int.mul_le_mul_of_nonneg_right (Int.le_trans (Int.le_of_lt h0.2) (by decide) : x0 ≤ 1024) (by decide)) (by decide)
theorem zq697 {x0 : Int} (h0 : (((0 : Int) ≤ x0) ∧ (x0 < (1024 : Int)))) : ((Int.natAbs x0) < ((2 : Nat) ^ (60 : Nat))) := by lia
theorem zq698 {x0 : Int} (h0 : (((0 : Int) ≤ x0) ∧ (x0 < (1024 : Int)))) : ((Int.natAbs (x0 * (1048576 : Int))) < ((2 : Nat) ^ (53 : Nat))) := by lia
theorem zq699 {x0 : Nat} {x1 : Nat} {x2 : Nat} (h0 : ((x0 + ((20 : Nat) * (x1 + (5 : Nat)))) < x2)) : ((x0 + ((0 : Nat) + (1 : Nat))) < x2) := by lia
theorem zq700 {x0 : Nat} : ((1 : Nat) ≤ ((((((((((((((((((x0 + (4 : Nat)) + (1 : Nat)) + (1 : Nat)) + (1 : Nat)) + (1 : Nat)) + (1 : Nat)) + (1 : Nat)) + (1 : Nat)) + (1 : Nat)) + (1 : Nat)) + (1 : Nat)) + (1 : Nat)) + (1 : Nat)) + (1 : Nat)) + (1 : Nat)) + (1 : Nat)) + (1 : Nat)) + (1 : Nat))) := by lia
theorem zq701 {x0 : Nat} : ((1 : Nat) ≤ ((((((((((((((((((((x0 + (4 : Nat)) + (1 : Nat)) + (1 : Nat)) + (1 : Nat)) + (1 : Nat)) + (1 : Nat)) + (1 : Nat)) + (1 : Nat)) + (1 : Nat)) + (1 : Nat)) + (1 : Nat)) + (1 : Nat)) + (1 : Nat)) + (1 : Nat)) + (1 : Nat)) + (1 : Nat)) + (1 : Nat)) + (1 : Nat)) + (1 : Nat)) + (1 : Nat))) := by lia
theorem zq702 {x0 : Int} {x1 : Int} {x2 : Int} (h0 : (((-(1024 : Int)) ≤ x0) ∧ (x0 < (0 : Int)))) (h1 : ((x0 % (2 : Int)) = (0 : Int))) (h2 : (x1 = (x2 - (x0 / (2 : Int))))) : ((Int.natAbs (x0 * (1048576 : Int))) < ((2 : Nat) ^ (50 : Nat))) := by omega
theorem zq703 {x0 : Int} (h0 : ((x0 % (2 : Int)) = (0 : Int))) : ((x0 * (1048576 : Int)) = ((2 : Int) * ((x0 / (2 : Int)) * (1048576 : Int)))) := by lia
theorem zq704 {x0 : Int} {x1 : Int} {x2 : Int} (h0 : (((-(1024 : Int)) ≤ x0) ∧ (x0 < (0 : Int)))) (h1 : ((x0 % (2 : Int)) = (0 : Int))) (h2 : (x1 = (x2 - (x0 / (2 : Int))))) : ((Int.natAbs ((x0 / (2 : Int)) * (1048576 : Int))) < ((2 : Nat) ^ (50 : Nat))) := by omega
theorem zq705 {x0 : Int} {x1 : Int} {x2 : Int} (h0 : (x0 = (x1 - (x2 / (2 : Int))))) : (((x1 * (1048576 : Int)) - ((x2 / (2 : Int)) * (1048576 : Int))) = (x0 * (1048576 : Int))) := by lia
theorem zq706 {x0 : Int} : ((x0 * ((2 : Int) ^ (30 : Nat))) = ((8 : Int) * (x0 * (134217728 : Int)))) := by lia
theorem zq707 {x0 : Nat} : ((x0 + (2 : Nat)) ≤ (x0 + (5 : Nat))) := by lia
theorem zq708 {x0 : Nat} : (((1 : Nat) ≤ ((((((((((((((((((((((((((((((x0 + (4 : Nat)) + (1 : Nat)) + (1 : Nat)) + (1 : Nat)) + (1 : Nat)) + (1 : Nat)) + (1 : Nat)) + (1 : Nat)) + (1 : Nat)) + (1 : Nat)) + (1 : Nat)) + (1 : Nat)) + (1 : Nat)) + (1 : Nat)) + (1 : Nat)) + (1 : Nat)) + (1 : Nat)) + (1 : Nat)) + (1 : Nat)) + (1 : Nat)) + (1 : Nat)) + (1 : Nat)) + (1 : Nat)) + (1 : Nat)) + (1 : Nat)) + (1 : Nat)) + (1 : Nat)) + (1 : Nat)) + (1 : Nat)) + (1 : Nat))) ∧ (((((((((((((((((((((((((((((((x0 + (4 : Nat)) + (1 : Nat)) + (1 : Nat)) + (1 : Nat)) + (1 : Nat)) + (1 : Nat)) + (1 : Nat)) + (1 : Nat)) + (1 : Nat)) + (1 : Nat)) + (1 : Nat)) + (1 : Nat)) + (1 : Nat)) + (1 : Nat)) + (1 : Nat)) + (1 : Nat)) + (1 : Nat)) + (1 : Nat)) + (1 : Nat)) + (1 : Nat)) + (1 : Nat)) + (1 : Nat)) + (1 : Nat)) + (1 : Nat)) + (1 : Nat)) + (1 : Nat)) + (1 : Nat)) + (1 : Nat)) + (1 : Nat)) + (1 : Nat)) < (((((((((((((((((((((((((((((((x0 + (4 : Nat)) + (1 : Nat)) + (1 : Nat)) + (1 : Nat)) + (1 : Nat)) + (1 : Nat)) + (1 : Nat)) + (1 : Nat)) + (1 : Nat)) + (1 : Nat)) + (1 : Nat)) + (1 : Nat)) + (1 : Nat)) + (1 : Nat)) + (1 : Nat)) + (1 : Nat)) + (1 : Nat)) + (1 : Nat)) + (1 : Nat)) + (1 : Nat)) + (1 : Nat)) + (1 : Nat)) + (1 : Nat)) + (1 : Nat)) + (1 : Nat)) + (1 : Nat)) + (1 : Nat)) + (1 : Nat)) + (1 : Nat)) + (1 : Nat)) + (1 : Nat)))) := by lia
theorem zq709 {x0 : Nat} : (((x0 + (3 : Nat)) + (2 : Nat)) ≤ (x0 + (5 : Nat))) := by lia
theorem zq710 {x0 : Nat} {x1 : Nat} {x2 : Nat} (h0 : ((1 : Nat) ≤ x0)) (h1 : (x0 < x1)) (h2 : ((x1 + (1 : Nat)) ≤ x2)) : ((1 : Nat) ≤ x2) := by lia
theorem zq711 {x0 : Nat} : (((x0 + (2 : Nat)) + (3 : Nat)) ≤ (x0 + (5 : Nat))) := by lia
theorem zq712 {x0 : Int} {x1 : Int} {x2 : Int} (h0 : (((-(1024 : Int)) ≤ x0) ∧ (x0 < (0 : Int)))) (h1 : ((x0 % (2 : Int)) = (0 : Int))) (h2 : (((0 : Int) ≤ x1) ∧ (x1 < (1024 : Int)))) (h3 : (x2 = (x1 - (x0 / (2 : Int))))) : ((Int.natAbs (x2 % (1024 : Int))) < ((2 : Nat) ^ (60 : Nat))) := by lia
theorem zq713 {x0 : Int} : ((Int.natAbs ((x0 % (1024 : Int)) * (1048576 : Int))) < ((2 : Nat) ^ (53 : Nat))) := by lia
theorem zq714 {x0 : Int} : (((x0 % (1024 : Int)) * ((2 : Int) ^ (30 : Nat))) = ((1024 : Int) * ((x0 % (1024 : Int)) * (1048576 : Int)))) := by lia
theorem zq715 {x0 : Nat} : ((((((((((((((((((((((((x0 + (4 : Nat)) + (1 : Nat)) + (1 : Nat)) + (1 : Nat)) + (1 : Nat)) + (1 : Nat)) + (1 : Nat)) + (1 : Nat)) + (1 : Nat)) + (1 : Nat)) + (1 : Nat)) + (1 : Nat)) + (1 : Nat)) + (1 : Nat)) + (1 : Nat)) + (1 : Nat)) + (1 : Nat)) + (1 : Nat)) + (1 : Nat)) + (1 : Nat)) + (1 : Nat)) + (1 : Nat)) + (1 : Nat)) = (x0 + (26 : Nat))) := by lia
theorem zq716 {x0 : Nat} : (x0 ≤ (((((((((((((((((((((((x0 + (4 : Nat)) + (1 : Nat)) + (1 : Nat)) + (1 : Nat)) + (1 : Nat)) + (1 : Nat)) + (1 : Nat)) + (1 : Nat)) + (1 : Nat)) + (1 : Nat)) + (1 : Nat)) + (1 : Nat)) + (1 : Nat)) + (1 : Nat)) + (1 : Nat)) + (1 : Nat)) + (1 : Nat)) + (1 : Nat)) + (1 : Nat)) + (1 : Nat)) + (1 : Nat)) + (1 : Nat)) + (1 : Nat))) := by lia
theorem zq717 {x0 : Nat} {x1 : Nat} {x2 : Nat} {x3 : Nat} {x4 : Nat} (h0 : ((((((((((((((((((((((((((((((((x0 + (4 : Nat)) + (1 : Nat)) + (1 : Nat)) + (1 : Nat)) + (1 : Nat)) + (1 : Nat)) + (1 : Nat)) + (1 : Nat)) + (1 : Nat)) + (1 : Nat)) + (1 : Nat)) + (1 : Nat)) + (1 : Nat)) + (1 : Nat)) + (1 : Nat)) + (1 : Nat)) + (1 : Nat)) + (1 : Nat)) + (1 : Nat)) + (1 : Nat)) + (1 : Nat)) + (1 : Nat)) + (1 : Nat)) + (1 : Nat)) + (1 : Nat)) + (1 : Nat)) + (1 : Nat)) + (1 : Nat)) + (1 : Nat)) + (1 : Nat)) + (1 : Nat)) ≤ x1)) (h1 : ((x1 + (1 : Nat)) ≤ x2)) (h2 : (x2 < x3)) (h3 : (x3 ≤ x4)) : ((((((((((((((((((((((((x0 + (4 : Nat)) + (1 : Nat)) + (1 : Nat)) + (1 : Nat)) + (1 : Nat)) + (1 : Nat)) + (1 : Nat)) + (1 : Nat)) + (1 : Nat)) + (1 : Nat)) + (1 : Nat)) + (1 : Nat)) + (1 : Nat)) + (1 : Nat)) + (1 : Nat)) + (1 : Nat)) + (1 : Nat)) + (1 : Nat)) + (1 : Nat)) + (1 : Nat)) + (1 : Nat)) + (1 : Nat)) + (1 : Nat)) < x4) := by lia
theorem zq718 {x0 : Nat} {x1 : Nat} (h0 : (x0 = (x1 + (26 : Nat)))) : ((1 : Nat) ≤ x0) := by lia
theorem zq719 {x0 : Nat} {x1 : Nat} {x2 : Nat} (h0 : (x0 = (x1 + (26 : Nat)))) (h1 : (x0 < x2)) : (x1 ≤ (x2 + (1 : Nat))) := by lia
theorem zq720 {x0 : Nat} (h0 : (x0 < (800 : Nat))) : ((x0 + (1 : Nat)) < (900 : Nat)) := by omega
theorem zq721 {x0 : Nat} {x1 : Nat} {x2 : Nat} (h0 : (x0 = (x1 + (26 : Nat)))) (h1 : (x2 = (x1 + (26 : Nat)))) : (x2 = x0) := by lia
theorem zq722 {x0 : Nat} {x1 : Nat} {x2 : Nat} (h0 : (x0 = (x1 + (26 : Nat)))) (h1 : (x0 < x2)) : ((1 : Nat) ≤ x2) := by lia
theorem zq723 {x0 : Nat} : (x0 < (x0 + (1 : Nat))) := by lia
theorem zq724 {x0 : Int} : ((Int.natAbs ((x0 % (1024 : Int)) * (1048576 : Int))) < ((2 : Nat) ^ (50 : Nat))) := by lia
theorem zq725 {x0 : Nat} {x1 : Nat} (h0 : (x0 < (800 : Nat))) (h1 : (x1 = (x0 + (1 : Nat)))) : (x1 < (900 : Nat)) := by lia
theorem zq726 {x0 : Nat} {x1 : Nat} {x2 : Nat} {x3 : Nat} (h0 : (x0 < x1)) (h1 : (((((((x1 + (1 : Nat)) + (1 : Nat)) + (1 : Nat)) + (1 : Nat)) + (1 : Nat)) + (1 : Nat)) ≤ x2)) (h2 : (x2 ≤ x3)) : ((x0 + (1 : Nat)) ≤ x3) := by lia
theorem zq727 {x0 : Nat} {x1 : Nat} (h0 : ((0 : Nat) < x0)) (h1 : (x0 < x1)) : (((x0 - (1 : Nat)) / (2 : Nat)) < x1) := by omega
theorem zq728 {x0 : Int} {x1 : Int} {x2 : Int} {x3 : Int} (h0 : (((0 : Int) ≤ x0) ∧ (x0 < (1024 : Int)))) (h1 : (((0 : Int) ≤ x1) ∧ (x1 < (1024 : Int)))) (h2 : (x1 ≤ x2)) (h3 : (((0 : Int) ≤ x2) ∧ (x2 < (1024 : Int)))) (h4 : (x3 = (x2 - (x1 + (1024 : Int))))) : (((-(1024 : Int)) ≤ x3) ∧ ((x3 ≤ (0 : Int)) ∧ (((0 : Int) ≤ x0) ∧ (x0 < (1024 : Int))))) := by lia
theorem zq729 {x0 : Int} {x1 : Int} {x2 : Int} (h0 : (((0 : Int) ≤ x0) ∧ (x0 < (1024 : Int)))) (h1 : (x1 = (x0 - x2))) (h2 : (x0 ≤ x2)) (h3 : (((0 : Int) ≤ x2) ∧ (x2 < (1024 : Int)))) : (((-(1024 : Int)) ≤ x1) ∧ ((x1 ≤ (0 : Int)) ∧ (((0 : Int) ≤ x0) ∧ (x0 < (1024 : Int))))) := by lia
theorem zq730 {x0 : Nat} (h0 : ((x0 + (1 : Nat)) < (800 : Nat))) : (x0 < (800 : Nat)) := by lia
theorem zq731 {x0 : Nat} (h0 : (x0 < (800 : Nat))) : (x0 < (900 : Nat)) := by lia
theorem zq732 {x0 : Nat} {x1 : Nat} (h0 : (x0 = x1)) : (x0 ≤ x1) := by omega
theorem zq733 {x0 : Nat} {x1 : Nat} {x2 : Nat} (h0 : (x0 < (x1 + (1 : Nat)))) (h1 : (x2 = x1)) (h2 : (¬ (x0 = x1))) : (x0 < x2) := by omega
theorem zq734 {x0 : Nat} (h0 : (x0 ≤ (4 : Nat))) : ((x0 = (0 : Nat)) ∨ ((x0 = (1 : Nat)) ∨ ((x0 = (2 : Nat)) ∨ ((x0 = (3 : Nat)) ∨ (x0 = (4 : Nat)))))) := by lia
theorem zq735 {x0 : Nat} : (((15 : Nat) + ((15 : Nat) * x0)) = ((15 : Nat) * (x0 + (1 : Nat)))) := by lia
theorem zq736 {x0 : Nat} (h0 : (x0 < (4 : Nat))) : ((x0 = (0 : Nat)) ∨ ((x0 = (1 : Nat)) ∨ ((x0 = (2 : Nat)) ∨ (x0 = (3 : Nat))))) := by lia
theorem zq737 {x0 : Nat} (h0 : ((1 : Nat) ≤ x0)) (h1 : (x0 < (30 : Nat))) : (x0 < (64 : Nat)) := by lia
theorem zq738 {x0 : Nat} {x1 : Nat} (h0 : ((1 : Nat) ≤ x0)) (h1 : (x0 < (30 : Nat))) (h2 : (x1 = x0)) : ((1 : Nat) ≤ x1) := by lia
theorem zq739 {x0 : Nat} {x1 : Nat} {x2 : Nat} {x3 : Nat} {x4 : Nat} (h0 : (x0 = x1)) (h1 : (x2 = x1)) (h2 : ((x3 + x4) = x1)) (h3 : (x4 < x2)) : (x4 < x0) := by lia
theorem zq740 {x0 : Nat} {x1 : Nat} {x2 : Nat} {x3 : Nat} {x4 : Nat} {x5 : Nat} (h0 : ((1 : Nat) ≤ x0)) (h1 : (x0 < (30 : Nat))) (h2 : (x1 = x0)) (h3 : (x2 = x1)) (h4 : (x3 = x1)) (h5 : ((x4 + x5) = x1)) (h6 : (x5 < x3)) : (((15 : Nat) * (min x5 x2)) ≤ (450 : Nat)) := by lia
theorem zq741 {x0 : Nat} {x1 : Nat} {x2 : Nat} {x3 : Nat} {x4 : Nat} (h0 : (x0 = x1)) (h1 : (x2 = x1)) (h2 : ((x3 + x4) = x1)) (h3 : (x4 < x2)) : ((x3 - (1 : Nat)) < x3) := by lia
theorem zq742 {x0 : Nat} {x1 : Nat} {x2 : Nat} {x3 : Nat} {x4 : Nat} (h0 : (x0 = x1)) (h1 : (x2 = x1)) (h2 : ((x3 + x4) = x1)) (h3 : (x4 < x2)) : (((x3 - (1 : Nat)) + (x4 + (1 : Nat))) = x1) := by lia
theorem zq743 {x0 : Nat} {x1 : Nat} {x2 : Nat} (h0 : (x0 = (4 : Nat))) (h1 : ((x1 + x2) = (4 : Nat))) (h2 : (x2 < x0)) : (x2 < (4 : Nat)) := by lia
theorem zq744 {x0 : Nat} {x1 : Nat} {x2 : Nat} (h0 : (x0 = (4 : Nat))) (h1 : ((x1 + x2) = (4 : Nat))) (h2 : (x2 < x0)) : ((x2 = (0 : Nat)) ∨ ((x2 = (1 : Nat)) ∨ ((x2 = (2 : Nat)) ∨ (x2 = (3 : Nat))))) := by lia
theorem zq745 {x0 : Nat} {x1 : Nat} {x2 : Nat} (h0 : (x0 = (4 : Nat))) (h1 : ((x1 + x2) = (4 : Nat))) (h2 : (x2 < x0)) : (x2 ≤ (4 : Nat)) := by lia
theorem zq746 {x0 : Nat} (h0 : (((1 : Nat) ≤ x0) ∧ (x0 ≤ (8 : Nat)))) : ((0 : Int) < ((x0 : Nat) : Int)) := by omega
theorem zq747 {x0 : Nat} (h0 : (((1 : Nat) ≤ x0) ∧ (x0 ≤ (8 : Nat)))) : ((Int.natAbs ((x0 : Nat) : Int)) < (1073741824 : Nat)) := by omega
theorem zq748 {x0 : Nat} (h0 : (((1 : Nat) ≤ x0) ∧ (x0 ≤ (8 : Nat)))) : (x0 < (1000 : Nat)) := by lia
theorem zq749 {x0 : Nat} : ((x0 + (0 : Nat)) = x0) := by lia
theorem zq750 {x0 : Nat} {x1 : Nat} {x2 : Nat} (h0 : (x0 = (4 : Nat))) (h1 : ((x1 + x2) = (4 : Nat))) (h2 : (x2 < x0)) : ((x1 - (1 : Nat)) < x1) := by lia
theorem zq751 {x0 : Nat} {x1 : Nat} {x2 : Nat} (h0 : (x0 = (4 : Nat))) (h1 : ((x1 + x2) = (4 : Nat))) (h2 : (x2 < x0)) : (((x1 - (1 : Nat)) + (x2 + (1 : Nat))) = (4 : Nat)) := by lia
theorem zq752 {x0 : Nat} {x1 : Nat} {x2 : Nat} : ((x0 + (x1 + x2)) = ((x0 + x1) + x2)) := by lia
theorem zq753 {x0 : Nat} {x1 : Nat} : ((((x0 : Nat) : Int) - (((x1 : Nat) : Int) + (1 : Int))) = ((((x0 : Nat) : Int) - ((x1 : Nat) : Int)) - (1 : Int))) := by lia
theorem zq754 {x0 : Nat} {x1 : Nat} {x2 : Nat} (h0 : (((1 : Nat) ≤ x0) ∧ (x0 ≤ (8 : Nat)))) (h1 : ((x1 + x2) = x0)) : ((Int.natAbs ((x2 : Nat) : Int)) < ((2 : Nat) ^ (60 : Nat))) := by omega
theorem zq755 {x0 : Nat} {x1 : Nat} {x2 : Nat} {x3 : Nat} {x4 : Nat} {x5 : Nat} {x6 : Nat} (h0 : (x0 ≤ (450 : Nat))) (h1 : (x1 ≤ (15 : Nat))) (h2 : (((1 : Nat) ≤ x2) ∧ (x2 ≤ (8 : Nat)))) (h3 : (x3 = (x0 + x1))) (h4 : ((x4 + x5) = x2)) (h5 : (x6 = ((x0 + x1) + x5))) (h6 : ((0 : Int) < (((x2 : Nat) : Int) - ((x5 : Nat) : Int)))) : (x6 < (1000 : Nat)) := by lia
theorem zq756 {x0 : Nat} {x1 : Nat} {x2 : Nat} (h0 : ((x0 + x1) = x2)) (h1 : ((0 : Int) < (((x2 : Nat) : Int) - ((x1 : Nat) : Int)))) : ((x0 - (1 : Nat)) < x0) := by lia
theorem zq757 {x0 : Nat} {x1 : Nat} {x2 : Nat} (h0 : ((x0 + x1) = x2)) (h1 : ((0 : Int) < (((x2 : Nat) : Int) - ((x1 : Nat) : Int)))) : (((x0 - (1 : Nat)) + (x1 + (1 : Nat))) = x2) := by lia
theorem zq758 {x0 : Nat} {x1 : Nat} {x2 : Nat} (h0 : ((x0 + x1) = x2)) (h1 : ((((x2 : Nat) : Int) - ((x1 : Nat) : Int)) ≤ (0 : Int))) : (x1 = x2) := by lia
theorem zq759 {x0 : Nat} {x1 : Nat} {x2 : Nat} (h0 : (x0 = (4 : Nat))) (h1 : ((x1 + x2) = (4 : Nat))) (h2 : (x0 ≤ x2)) : (x2 = (4 : Nat)) := by lia
theorem zq760 {x0 : Nat} {x1 : Nat} {x2 : Nat} {x3 : Nat} {x4 : Nat} (h0 : (x0 = x1)) (h1 : (x2 = x1)) (h2 : ((x3 + x4) = x1)) (h3 : (x2 ≤ x4)) : (x4 = x1) := by lia
theorem zq761 {x0 : Nat} {x1 : Nat} {x2 : Nat} (h0 : ((0 : Nat) < x0)) (h1 : (x0 < x1)) (h2 : (x1 = x2)) : ((0 : Nat) < x2) := by lia
theorem zq762 {x0 : Nat} (h0 : ((0 : Nat) < x0)) : ((0 : Nat) ≠ x0) := by lia
theorem zq763 {x0 : Nat} (h0 : ((1 : Nat) ≤ ((x0 - (1 : Nat)) / (2 : Nat)))) : ((0 : Nat) ≠ ((x0 - (1 : Nat)) / (2 : Nat))) := by lia
theorem zq764 {x0 : Nat} {x1 : Nat} {x2 : Nat} (h0 : (x0 < x1)) (h1 : (x1 = x2)) : (x0 < x2) := by lia
theorem zq765 {x0 : Int} {x1 : Int} {x2 : Int} {x3 : Int} {x4 : Int} {x5 : Int} (h0 : ((x0 < x1) ∨ ((x0 = x1) ∧ (x2 < x3)))) (h1 : (¬ ((x4 < x1) ∨ ((x4 = x1) ∧ (x5 < x3))))) : (¬ ((x4 < x0) ∨ ((x4 = x0) ∧ (x5 < x2)))) := hLex hNlt (hAs hAs0 h0) h1
theorem zq766 {x0 : Nat} {x1 : Nat} (h0 : (x0 = (10 : Nat))) (h1 : ((10 : Nat) ≤ x1)) : (x0 = (min (10 : Nat) x1)) := by lia
theorem zq767 {x0 : Nat} {x1 : Nat} (h0 : ((10 : Nat) ≤ x0)) (h1 : (x1 < (min (10 : Nat) x0))) : (x1 < (10 : Nat)) := by lia
theorem zq768 {x0 : Nat} {x1 : Nat} (h0 : ((10 : Nat) ≤ x0)) (h1 : (x1 < (10 : Nat))) : (x1 < x0) := by lia
theorem zq769 {x0 : Int} {x1 : Int} {x2 : Int} (h0 : (x0 = (-x1))) (h1 : (x0 = ((2 : Int) * (-x2)))) : ((x0 / (2 : Int)) = (-x2)) := by lia
theorem zq770 {x0 : Int} {x1 : Int} {x2 : Int} (h0 : (x0 = (-x1))) (h1 : (x0 = ((2 : Int) * (-x2)))) (h2 : ((x0 / (2 : Int)) = (-x2))) : ((x0 % (2 : Int)) = (0 : Int)) := by lia
theorem zq771 {x0 : Int} {x1 : Int} {x2 : Int} (h0 : (x0 = (-x1))) (h1 : (x0 = ((2 : Int) * (-x2)))) (h2 : ((x0 / (2 : Int)) = (-x2))) (h3 : ((0 : Int) ≤ x2)) : (x0 ≤ (0 : Int)) := by lia
theorem zq772 {x0 : Int} {x1 : Int} {x2 : Int} (h0 : (x0 = (-x1))) (h1 : (x0 = ((2 : Int) * (-x2)))) (h2 : ((x0 / (2 : Int)) = (-x2))) : (((x0 / (2 : Int)) * (2 : Int)) = x0) := by omega
theorem zq773 {x0 : Int} {x1 : Int} : ((0 : Int) ≤ ((x0 - (x1 / (2 : Int))) % (1024 : Int))) := by lia
theorem zq774 {x0 : Int} {x1 : Int} : (((x0 - (x1 / (2 : Int))) % (1024 : Int)) < (1024 : Int)) := by lia
theorem zq775 {x0 : Int} {x1 : Int} (h0 : ((x0 % (2 : Int)) = (0 : Int))) (h1 : (x0 ≤ (0 : Int))) : (¬ (((x0 / (2 : Int)) < x0) ∨ (((x0 / (2 : Int)) = x0) ∧ (x1 < x1)))) := by lia
theorem zq776 {x0 : Int} {x1 : Int} (h0 : ((x0 % (2 : Int)) = (0 : Int))) (h1 : (x0 ≤ (0 : Int))) (h2 : ((0 : Int) ≤ x1)) (h3 : (x1 < (1024 : Int))) : (¬ (((x0 / (2 : Int)) < x0) ∨ (((x0 / (2 : Int)) = x0) ∧ (((x1 - (x0 / (2 : Int))) % (1024 : Int)) < x1)))) := by lia
theorem zq777 {x0 : Int} {x1 : Int} {x2 : Int} {x3 : Int} (h0 : (¬ ((x0 < x1) ∨ ((x0 = x1) ∧ (x2 < x3))))) (h1 : (¬ ((x1 < x0) ∨ ((x1 = x0) ∧ (x3 < x2))))) : (x0 = x1) := by omega
theorem zq778 {x0 : Int} {x1 : Int} {x2 : Int} {x3 : Int} (h0 : (¬ ((x0 < x1) ∨ ((x0 = x1) ∧ (x2 < x3))))) (h1 : (¬ ((x1 < x0) ∨ ((x1 = x0) ∧ (x3 < x2))))) : (x2 = x3) := by have e : x0 = x1 := Int.le_antisymm (Int.not_lt.mp fun h => h1 (.inl h)) (Int.not_lt.mp fun h => h0 (.inl h)); exact Int.le_antisymm (Int.not_lt.mp fun h => h1 (.inr ⟨e.symm, h⟩)) (Int.not_lt.mp fun h => h0 (.inr ⟨e, h⟩))
theorem zq779 {x0 : Int} {x1 : Int} {x2 : Int} {x3 : Int} {x4 : Int} (h0 : (x0 ≤ x1)) (h1 : (x2 ≤ x3)) (h2 : (x4 = (x0 + x2))) : ((x0 + x2) ≤ (x3 + x1)) := by lia
theorem zq780 {x0 : Int} : ((x0 - (x0 + (1024 : Int))) = (-(1024 : Int))) := by lia
theorem zq781 {x0 : Nat} {x1 : Nat} (h0 : (x0 < (10 : Nat))) (h1 : (x1 ≤ ((8 : Nat) + x0))) : (x1 ≤ (17 : Nat)) := by lia
theorem zq782 {x0 : Int} {x1 : Int} {x2 : Int} {x3 : Int} (h0 : (¬ ((x0 < x1) ∨ ((x0 = x1) ∧ (x2 < x3))))) : (x1 ≤ x0) := by lia
theorem zq783 {x0 : Nat} (h0 : (x0 ≤ (17 : Nat))) : (((x0 : Nat) : Int) ≤ (17 : Int)) := by lia
theorem zq784 {x0 : Int} {x1 : Int} {x2 : Int} (h0 : (x0 = (-(((2 : Int) ^ (0 : Nat)) * x1)))) (h1 : (x2 ≤ (x1 * (17 : Int)))) : ((-x2) ≥ (-(x1 * (17 : Int)))) := by lia
theorem zq785 {x0 : Int} {x1 : Int} {x2 : Int} (h0 : (x0 ≤ (-(1024 : Int)))) (h1 : ((0 : Int) ≤ x1)) (h2 : (x1 ≤ (39 : Int))) (h3 : (x2 = (-(((2 : Int) ^ (0 : Nat)) * x1)))) (h4 : (x0 ≥ ((-x1) * (17 : Int)))) : False := by lia
theorem zq786 {x0 : Nat} (h0 : (x0 ≠ (0 : Nat))) : (x0 = ((x0 - (1 : Nat)) + (1 : Nat))) := (Nat.sub_add_cancel (Nat.pos_of_ne_zero h0)).symm
theorem zq787 {x0 : Int} {x1 : Int} : (((0 : Int) ≤ ((x0 - (x1 / (2 : Int))) % (1024 : Int))) ∧ (((x0 - (x1 / (2 : Int))) % (1024 : Int)) < (1024 : Int))) := by lia
theorem zq788 {x0 : Nat} {x1 : Nat} {x2 : Nat} (h0 : (x0 = (x1 + (1 : Nat)))) (h1 : (x1 ≤ ((8 : Nat) + x2))) : (x0 ≤ ((8 : Nat) + (x2 + (1 : Nat)))) := by lia
theorem zq789 {x0 : Nat} (h0 : (x0 < (1 : Nat))) : (x0 = (0 : Nat)) := by lia
theorem zq790 {x0 : Int} (h0 : ((0 : Int) ≤ x0)) (h1 : (x0 < (1024 : Int))) : ((x0 % (1024 : Int)) = x0) := Int.emod_eq_of_lt h0 h1
theorem zq791 {x0 : Int} : (((-((16 : Int) * x0)) / (2 : Int)) = (-((8 : Int) * x0))) := by lia
theorem zq792 {x0 : Int} : (((-((8 : Int) * x0)) / (2 : Int)) = (-((4 : Int) * x0))) := by lia
theorem zq793 {x0 : Int} : (((-((4 : Int) * x0)) / (2 : Int)) = (-((2 : Int) * x0))) := by lia
theorem zq794 {x0 : Int} : ((-((16 : Int) * x0)) = (-((-(-((16 : Int) * x0))) / (((1 : Nat) : Nat) : Int)))) := by lia
theorem zq795 {x0 : Int} {x1 : Int} (h0 : ((0 : Int) ≤ x0)) (h1 : (x0 < (1024 : Int))) : (x0 = ((x0 + ((((0 : Nat) : Nat) : Int) * ((-(-((16 : Int) * x1))) / (((1 : Nat) : Nat) : Int)))) % (1024 : Int))) := hM0 h0 h1
theorem zq796 {x0 : Int} : ((-((8 : Int) * x0)) = (-((-(-((16 : Int) * x0))) / (((2 : Nat) : Nat) : Int)))) := congrArg Neg.neg hD2.symm
theorem zq797 {x0 : Int} {x1 : Int} (h0 : ((0 : Int) ≤ x0)) (h1 : (x0 < (1024 : Int))) : (x0 = ((x0 + ((((0 : Nat) : Nat) : Int) * ((-(-((16 : Int) * x1))) / (((2 : Nat) : Nat) : Int)))) % (1024 : Int))) := hM0 h0 h1
theorem zq798 {x0 : Int} : ((-((4 : Int) * x0)) = (-((-(-((16 : Int) * x0))) / (((4 : Nat) : Nat) : Int)))) := congrArg Neg.neg hD4.symm
theorem zq799 {x0 : Int} {x1 : Int} (h0 : ((0 : Int) ≤ x0)) (h1 : (x0 < (1024 : Int))) : (x0 = ((x0 + ((((0 : Nat) : Nat) : Int) * ((-(-((16 : Int) * x1))) / (((4 : Nat) : Nat) : Int)))) % (1024 : Int))) := hM0 h0 h1
theorem zq800 {x0 : Int} : ((-((2 : Int) * x0)) = (-((-(-((16 : Int) * x0))) / (((8 : Nat) : Nat) : Int)))) := congrArg Neg.neg hD8.symm
theorem zq801 {x0 : Int} {x1 : Int} (h0 : ((0 : Int) ≤ x0)) (h1 : (x0 < (1024 : Int))) : (x0 = ((x0 + ((((0 : Nat) : Nat) : Int) * ((-(-((16 : Int) * x1))) / (((8 : Nat) : Nat) : Int)))) % (1024 : Int))) := hM0 h0 h1
theorem zq802 {x0 : Int} {x1 : Int} : (((x0 - (-((2 : Int) * x1))) % (1024 : Int)) = ((x0 + ((((1 : Nat) : Nat) : Int) * ((-(-((16 : Int) * x1))) / (((8 : Nat) : Nat) : Int)))) % (1024 : Int))) := hQ hD8 (by decide)
theorem zq803 {x0 : Int} {x1 : Int} : (((x0 - (-((4 : Int) * x1))) % (1024 : Int)) = ((x0 + ((((1 : Nat) : Nat) : Int) * ((-(-((16 : Int) * x1))) / (((4 : Nat) : Nat) : Int)))) % (1024 : Int))) := hQ hD4 (by decide)
theorem zq804 {x0 : Int} {x1 : Int} : (((x0 - (-((4 : Int) * x1))) % (1024 : Int)) = ((x0 + ((((2 : Nat) : Nat) : Int) * ((-(-((16 : Int) * x1))) / (((8 : Nat) : Nat) : Int)))) % (1024 : Int))) := hQ hD8 (by decide)
theorem zq805 {x0 : Int} {x1 : Int} : (((((x0 - (-((4 : Int) * x1))) % (1024 : Int)) - (-((2 : Int) * x1))) % (1024 : Int)) = ((x0 + ((((3 : Nat) : Nat) : Int) * ((-(-((16 : Int) * x1))) / (((8 : Nat) : Nat) : Int)))) % (1024 : Int))) := hQ2 hD8 (by decide)
theorem zq806 {x0 : Int} {x1 : Int} : (((x0 - (-((8 : Int) * x1))) % (1024 : Int)) = ((x0 + ((((1 : Nat) : Nat) : Int) * ((-(-((16 : Int) * x1))) / (((2 : Nat) : Nat) : Int)))) % (1024 : Int))) := hQ hD2 (by decide)
theorem zq807 {x0 : Int} {x1 : Int} : (((x0 - (-((8 : Int) * x1))) % (1024 : Int)) = ((x0 + ((((2 : Nat) : Nat) : Int) * ((-(-((16 : Int) * x1))) / (((4 : Nat) : Nat) : Int)))) % (1024 : Int))) := hQ hD4 (by decide)
theorem zq808 {x0 : Int} {x1 : Int} : (((x0 - (-((8 : Int) * x1))) % (1024 : Int)) = ((x0 + ((((4 : Nat) : Nat) : Int) * ((-(-((16 : Int) * x1))) / (((8 : Nat) : Nat) : Int)))) % (1024 : Int))) := hQ hD8 (by decide)
theorem zq809 {x0 : Int} {x1 : Int} : (((((x0 - (-((8 : Int) * x1))) % (1024 : Int)) - (-((2 : Int) * x1))) % (1024 : Int)) = ((x0 + ((((5 : Nat) : Nat) : Int) * ((-(-((16 : Int) * x1))) / (((8 : Nat) : Nat) : Int)))) % (1024 : Int))) := hQ2 hD8 (by decide)
theorem zq810 {x0 : Int} {x1 : Int} : (((((x0 - (-((8 : Int) * x1))) % (1024 : Int)) - (-((4 : Int) * x1))) % (1024 : Int)) = ((x0 + ((((3 : Nat) : Nat) : Int) * ((-(-((16 : Int) * x1))) / (((4 : Nat) : Nat) : Int)))) % (1024 : Int))) := hQ2 hD4 (by decide)
theorem zq811 {x0 : Int} {x1 : Int} : (((((x0 - (-((8 : Int) * x1))) % (1024 : Int)) - (-((4 : Int) * x1))) % (1024 : Int)) = ((x0 + ((((6 : Nat) : Nat) : Int) * ((-(-((16 : Int) * x1))) / (((8 : Nat) : Nat) : Int)))) % (1024 : Int))) := hQ2 hD8 (by decide)
theorem zq812 {x0 : Int} {x1 : Int} : (((((((x0 - (-((8 : Int) * x1))) % (1024 : Int)) - (-((4 : Int) * x1))) % (1024 : Int)) - (-((2 : Int) * x1))) % (1024 : Int)) = ((x0 + ((((7 : Nat) : Nat) : Int) * ((-(-((16 : Int) * x1))) / (((8 : Nat) : Nat) : Int)))) % (1024 : Int))) := hQ3 hD8 (by decide)
theorem zq813 {x0 : Int} (h0 : (((0 : Int) ≤ x0) ∧ ((x0 < (1024 : Int)) ∧ ((x0 % (16 : Int)) = (0 : Int))))) (h1 : ((336 : Int) = x0)) : (x0 ≤ (336 : Int)) := h1 ▸ Int.le_refl _
theorem zq814 {x0 : Int} {x1 : Int} {x2 : Int} (h0 : (((0 : Int) ≤ x0) ∧ ((x0 < (1024 : Int)) ∧ ((x0 % (16 : Int)) = (0 : Int))))) (h1 : ((960 : Int) ≤ x1)) (h2 : (x0 ≤ (336 : Int))) (h3 : (((0 : Int) ≤ x1) ∧ ((x1 < (1024 : Int)) ∧ ((x1 % (16 : Int)) = (0 : Int))))) (h4 : (x2 = (x1 - (x0 + (1024 : Int))))) : ((0 : Int) ≤ ((-x2) / (16 : Int))) := by omega
theorem zq815 {x0 : Int} {x1 : Int} {x2 : Int} (h0 : (((0 : Int) ≤ x0) ∧ ((x0 < (1024 : Int)) ∧ ((x0 % (16 : Int)) = (0 : Int))))) (h1 : ((960 : Int) ≤ x1)) (h2 : (x0 ≤ (336 : Int))) (h3 : (((0 : Int) ≤ x1) ∧ ((x1 < (1024 : Int)) ∧ ((x1 % (16 : Int)) = (0 : Int))))) (h4 : (x2 = (x1 - (x0 + (1024 : Int))))) : (((-x2) / (16 : Int)) ≤ (39 : Int)) := by lia
theorem zq816 {x0 : Int} {x1 : Int} {x2 : Int} (h0 : (((0 : Int) ≤ x0) ∧ ((x0 < (1024 : Int)) ∧ ((x0 % (16 : Int)) = (0 : Int))))) (h1 : (((0 : Int) ≤ x1) ∧ ((x1 < (1024 : Int)) ∧ ((x1 % (16 : Int)) = (0 : Int))))) (h2 : (x2 = (x1 - (x0 + (1024 : Int))))) : (x2 = (-((16 : Int) * ((-x2) / (16 : Int))))) := by lia
theorem zq817 {x0 : Int} {x1 : Int} (h0 : (((0 : Int) ≤ x0) ∧ ((x0 < (1024 : Int)) ∧ ((x0 % (16 : Int)) = (0 : Int))))) (h1 : ((960 : Int) ≤ x1)) (h2 : (((0 : Int) ≤ x1) ∧ ((x1 < (1024 : Int)) ∧ ((x1 % (16 : Int)) = (0 : Int))))) (h3 : (x0 = x1)) : ((0 : Int) ≤ x0) := h3 ▸ h2.1
theorem zq818 {x0 : Int} {x1 : Int} (h0 : (((0 : Int) ≤ x0) ∧ ((x0 < (1024 : Int)) ∧ ((x0 % (16 : Int)) = (0 : Int))))) (h1 : ((960 : Int) ≤ x1)) (h2 : (((0 : Int) ≤ x1) ∧ ((x1 < (1024 : Int)) ∧ ((x1 % (16 : Int)) = (0 : Int))))) (h3 : (x0 = x1)) : (x0 < (1024 : Int)) := by lia
theorem zq819 {x0 : Int} {x1 : Int} {x2 : Int} (h0 : (((0 : Int) ≤ x0) ∧ ((x0 < (1024 : Int)) ∧ ((x0 % (16 : Int)) = (0 : Int))))) (h1 : (x1 = (x0 - x2))) (h2 : (x0 ≤ x2)) (h3 : (((0 : Int) ≤ x2) ∧ ((x2 < (1024 : Int)) ∧ ((x2 % (16 : Int)) = (0 : Int))))) : ((0 : Int) ≤ ((-x1) / (16 : Int))) := by omega
theorem zq820 {x0 : Int} {x1 : Int} {x2 : Int} (h0 : (((0 : Int) ≤ x0) ∧ ((x0 < (1024 : Int)) ∧ ((x0 % (16 : Int)) = (0 : Int))))) (h1 : (x1 = (x0 - x2))) (h2 : (((0 : Int) ≤ x2) ∧ ((x2 < (1024 : Int)) ∧ ((x2 % (16 : Int)) = (0 : Int))))) (h3 : (((336 : Int) ≤ x0) ∨ (x2 ≤ (336 : Int)))) (h4 : (((960 : Int) ≤ x0) ∨ (x2 ≤ (960 : Int)))) : (((-x1) / (16 : Int)) ≤ (39 : Int)) := by lia
theorem zq821 {x0 : Int} {x1 : Int} {x2 : Int} (h0 : (((0 : Int) ≤ x0) ∧ ((x0 < (1024 : Int)) ∧ ((x0 % (16 : Int)) = (0 : Int))))) (h1 : (x1 = (x0 - x2))) (h2 : (((0 : Int) ≤ x2) ∧ ((x2 < (1024 : Int)) ∧ ((x2 % (16 : Int)) = (0 : Int))))) : (x1 = (-((16 : Int) * ((-x1) / (16 : Int))))) := by lia
theorem zq822 {x0 : Int} (h0 : (((0 : Int) ≤ x0) ∧ ((x0 < (1024 : Int)) ∧ ((x0 % (16 : Int)) = (0 : Int))))) : ((0 : Int) ≤ x0) := by lia
theorem zq823 {x0 : Int} (h0 : (((0 : Int) ≤ x0) ∧ ((x0 < (1024 : Int)) ∧ ((x0 % (16 : Int)) = (0 : Int))))) : (x0 < (1024 : Int)) := by lia
theorem zq824 {x0 : Int} {x1 : Int} (h0 : (x0 ≤ (-(1024 : Int)))) (h1 : ((0 : Int) ≤ x0)) : (x1 < (0 : Int)) := by lia
theorem zq825 {x0 : Int} {x1 : Int} (h0 : (x0 ≤ x1)) : ((-(1024 : Int)) ≤ (x1 - (x0 + (1024 : Int)))) := by lia
theorem zq826 {x0 : Int} {x1 : Int} {x2 : Int} (h0 : (((0 : Int) ≤ x0) ∧ (x0 < (1024 : Int)))) (h1 : (x1 = (x0 - x2))) (h2 : (((0 : Int) ≤ x2) ∧ (x2 < (1024 : Int)))) : ((-(1024 : Int)) ≤ x1) := by lia
theorem zq827 {x0 : Nat} {x1 : Nat} {x2 : Nat} (h0 : ((x0 + x1) = x2)) (h1 : (x1 < x2)) : ((0 : Int) < (((x2 : Nat) : Int) - ((x1 : Nat) : Int))) := by omega
theorem zq828 {x0 : Nat} : ((((x0 : Nat) : Int) - ((x0 : Nat) : Int)) ≤ (0 : Int)) := by lia
theorem zq829 {x0 : Nat} (h0 : (x0 < (53 : Nat))) : (x0 ≤ (52 : Nat)) := by lia
theorem zq830 {x0 : Nat} (h0 : (x0 ≤ (52 : Nat))) : ((52 : Nat) = (x0 + ((52 : Nat) - x0))) := by lia
theorem zq831 {x0 : Nat} (h0 : (x0 ≤ (52 : Nat))) : ((53 : Nat) = ((x0 + (1 : Nat)) + ((52 : Nat) - x0))) := by rw [Nat.add_right_comm, Nat.add_sub_cancel' h0]
theorem zq832 {x0 : Nat} (h0 : (x0 ≤ (52 : Nat))) : (((992 : Nat) + x0) ≤ (1044 : Nat)) := by lia
theorem zq833 {x0 : Nat} {x1 : Nat} (h0 : (x0 ≤ (52 : Nat))) (h1 : (((2 : Nat) ^ (52 : Nat)) ≤ x1)) (h2 : (x1 < ((2 : Nat) ^ (53 : Nat)))) : (((((992 : Nat) + x0) * ((2 : Nat) ^ (52 : Nat))) + x1) < ((1046 : Nat) * ((2 : Nat) ^ (52 : Nat)))) := by lia
theorem zq834 {x0 : Nat} (h0 : (x0 ≤ (52 : Nat))) : ((((52 : Nat) - x0) + ((992 : Nat) + x0)) = (1044 : Nat)) := by omega
theorem zq835 {x0 : Nat} (h0 : (x0 < ((2 : Nat) ^ (53 : Nat)))) (h1 : (((((2 : Nat) ^ (54 : Nat)) - (1 : Nat)) * ((2 : Nat) ^ (2045 : Nat))) ≤ ((2 : Nat) * (x0 * ((2 : Nat) ^ (1044 : Nat)))))) : (((2 : Nat) * x0) < ((2 : Nat) ^ (54 : Nat))) := by lia
theorem zq836 {x0 : Nat} (h0 : (x0 < ((2 : Nat) ^ (53 : Nat)))) (h1 : (((((2 : Nat) ^ (54 : Nat)) - (1 : Nat)) * ((2 : Nat) ^ (2045 : Nat))) ≤ ((2 : Nat) * (x0 * ((2 : Nat) ^ (1044 : Nat)))))) : False := by omega
theorem zq837 {x0 : Nat} : (((x0 - x0) + (x0 - x0)) = (0 : Nat)) := by lia
theorem zq838 {x0 : Nat} {x1 : Nat} (h0 : (((x0 - x1) + (x1 - x0)) ≤ (0 : Nat))) : (x0 = x1) := by lia
theorem zq839 {x0 : Int} (h0 : (x0 < (0 : Int))) : ((((Int.natAbs x0) : Nat) : Int) = (-x0)) := by lia
theorem zq840 {x0 : Int} (h0 : (¬ (x0 < (0 : Int)))) : ((((Int.natAbs x0) : Nat) : Int) = x0) := by lia
theorem zq841 {x0 : Int} (h0 : ((x0 * ((2 : Int) ^ (1044 : Nat))) < (0 : Int))) (h1 : (¬ (x0 < (0 : Int)))) : ((0 : Int) ≤ x0) := by lia
theorem zq842 {x0 : Int} (h0 : ((x0 * ((2 : Int) ^ (1044 : Nat))) < (0 : Int))) (h1 : (¬ (x0 < (0 : Int)))) : (x0 < (0 : Int)) := by omega
theorem zq843 {x0 : Int} (h0 : (((2 : Int) ^ (1044 : Nat)) = (0 : Int))) : (x0 = (0 : Int)) := by lia
theorem zq844 {x0 : Int} {x1 : Int} (h0 : (((x0 + x1) * ((2 : Int) ^ (1044 : Nat))) = (0 : Int))) (h1 : (x0 < (0 : Int))) : (¬ (x1 < (0 : Int))) := by lia
theorem zq845 {x0 : Int} {x1 : Int} (h0 : (((x0 - x1) * ((2 : Int) ^ (1044 : Nat))) = (0 : Int))) (h1 : (x0 < (0 : Int))) : (x1 < (0 : Int)) := by lia
theorem zq846 {x0 : Int} {x1 : Nat} (h0 : (x0 ≠ (0 : Int))) (h1 : (x1 ≠ (0 : Nat))) : ((0 : Nat) < (Int.natAbs x0)) := by lia
theorem zq847 {x0 : Int} {x1 : Int} (h0 : (x0 < x1)) : (¬ (x0 = x1)) := by omega
theorem zq848 {x0 : Int} {x1 : Int} (h0 : (x0 < x1)) : (¬ (x1 = x0)) := by lia
theorem zq849 {x0 : Int} {x1 : Int} (h0 : (x0 < x1)) : (¬ (x1 < x0)) := by lia
theorem zq850 {x0 : Int} (h0 : ((Int.natAbs x0) < ((2 : Nat) ^ (23 : Nat)))) : (((Int.natAbs x0) * ((2 : Nat) ^ (30 : Nat))) < ((2 : Nat) ^ (53 : Nat))) := by omega
theorem zq851 {x0 : Int} : (((Int.natAbs x0) * ((2 : Nat) ^ (30 : Nat))) = ((1 : Nat) * ((Int.natAbs x0) * ((2 : Nat) ^ (30 : Nat))))) := by lia
theorem zq852 {x0 : Int} : ((x0 < (0 : Int)) ↔ ((x0 * ((2 : Int) ^ (30 : Nat))) < (0 : Int))) := by lia
theorem zq853 {x0 : Int} {x1 : Int} (h0 : ((-(1074 : Int)) ≤ x0)) (h1 : ((-(1074 : Int)) ≤ x1)) : ((-(1074 : Int)) ≤ (min x0 x1)) := Int.le_min.mpr ⟨h0, h1⟩
theorem zq854 {x0 : Int} {x1 : Int} (h0 : ((-(1074 : Int)) ≤ x0)) (h1 : ((-(1074 : Int)) ≤ x1)) : (((Int.toNat (x0 - (min x0 x1))) + (Int.toNat ((min x0 x1) + (1074 : Int)))) = (Int.toNat (x0 + (1074 : Int)))) := hTo (Int.le_min.mpr ⟨h0, h1⟩) (Int.min_le_left _ _)
theorem zq855 {x0 : Int} {x1 : Int} (h0 : ((-(1074 : Int)) ≤ x0)) (h1 : ((-(1074 : Int)) ≤ x1)) : (((Int.toNat (x1 - (min x0 x1))) + (Int.toNat ((min x0 x1) + (1074 : Int)))) = (Int.toNat (x1 + (1074 : Int)))) := hTo (Int.le_min.mpr ⟨h0, h1⟩) (Int.min_le_right _ _)
theorem zq856 {x0 : Int} (h0 : ((Int.natAbs x0) < ((2 : Nat) ^ (52 : Nat)))) : ((Int.natAbs x0) < ((2 : Nat) ^ (53 : Nat))) := by lia
theorem zq857 {x0 : Int} (h0 : (((Int.natAbs x0) % ((2 : Nat) ^ (30 : Nat))) = (0 : Nat))) : ((x0 % ((2 : Int) ^ (30 : Nat))) = (0 : Int)) := Int.emod_eq_zero_of_dvd (Int.dvd_natAbs.mp (Int.natCast_dvd_natCast.mpr (Nat.dvd_of_mod_eq_zero h0)))
theorem zq858 {x0 : Int} : ((Int.natAbs (-((((Int.natAbs x0) % ((2 : Nat) ^ (30 : Nat))) : Nat) : Int))) < ((2 : Nat) ^ (53 : Nat))) := by omega
theorem zq859 {x0 : Int} (h0 : (¬ (((Int.natAbs x0) % ((2 : Nat) ^ (30 : Nat))) = (0 : Nat)))) : ((-((((Int.natAbs x0) % ((2 : Nat) ^ (30 : Nat))) : Nat) : Int)) < (0 : Int)) := by lia
theorem zq860 {x0 : Int} (h0 : (¬ (((Int.natAbs x0) % ((2 : Nat) ^ (30 : Nat))) = (0 : Nat)))) : (¬ ((-((((Int.natAbs x0) % ((2 : Nat) ^ (30 : Nat))) : Nat) : Int)) = (0 : Int))) := by omega
theorem zq861 {x0 : Int} : ((Int.natAbs ((-((((Int.natAbs x0) % ((2 : Nat) ^ (30 : Nat))) : Nat) : Int)) + ((2 : Int) ^ (30 : Nat)))) < ((2 : Nat) ^ (53 : Nat))) := by omega
theorem zq862 {x0 : Int} (h0 : (¬ (((Int.natAbs x0) % ((2 : Nat) ^ (30 : Nat))) = (0 : Nat)))) (h1 : (x0 < (0 : Int))) : (((-((((Int.natAbs x0) % ((2 : Nat) ^ (30 : Nat))) : Nat) : Int)) + ((2 : Int) ^ (30 : Nat))) = (x0 % ((2 : Int) ^ (30 : Nat)))) := by lia
theorem zq863 {x0 : Int} : ((Int.natAbs ((((Int.natAbs x0) % ((2 : Nat) ^ (30 : Nat))) : Nat) : Int)) < ((2 : Nat) ^ (53 : Nat))) := by lia
theorem zq864 {x0 : Int} : (¬ (((((Int.natAbs x0) % ((2 : Nat) ^ (30 : Nat))) : Nat) : Int) < (0 : Int))) := by lia
theorem zq865 {x0 : Int} (h0 : (¬ (((Int.natAbs x0) % ((2 : Nat) ^ (30 : Nat))) = (0 : Nat)))) : (¬ (((((Int.natAbs x0) % ((2 : Nat) ^ (30 : Nat))) : Nat) : Int) = (0 : Int))) := by omega
theorem zq866 {x0 : Int} (h0 : (¬ (((Int.natAbs x0) % ((2 : Nat) ^ (30 : Nat))) = (0 : Nat)))) (h1 : (¬ (x0 < (0 : Int)))) : (((((Int.natAbs x0) % ((2 : Nat) ^ (30 : Nat))) : Nat) : Int) = (x0 % ((2 : Int) ^ (30 : Nat)))) := by lia
theorem zq867 {x0 : Int} (h0 : (x0 ≥ (0 : Int))) : ((Int.toNat (x0 + (1074 : Int))) = ((Int.toNat x0) + (1074 : Nat))) := by lia
theorem zq868 {x0 : Nat} : ((((x0 : Nat) : Int) / ((2 : Int) ^ (30 : Nat))) = (((x0 / ((2 : Nat) ^ (30 : Nat))) : Nat) : Int)) := by lia
theorem zq869 {x0 : Int} (h0 : ((-(1074 : Int)) ≤ x0)) (h1 : (¬ (x0 ≥ (0 : Int)))) : ((1074 : Nat) = ((Int.toNat (-x0)) + (Int.toNat (x0 + (1074 : Int))))) := by lia
end

-- floats: fl n is the double n / 2^30, exact for |n| < 2^53
open PySem.Float64 in
section
set_option exponentiation.threshold 3000
noncomputable def fl (n : Int) : UInt64 := ofFrac (decide (n < 0)) n.natAbs (2 ^ 30)
theorem rep (a : Nat) (h : a < 2 ^ 53) : ∃ t, t < 1046 * 2 ^ 52 ∧ V t = a * 2 ^ 1044 := by
  by_cases h0 : a = 0
  · exact ⟨0, by decide, by rw [h0, V_zero, Nat.zero_mul]⟩
  · have hk : a.log2 ≤ 52 := by
      have := (Nat.log2_lt h0).mpr h; exact zq829 this
    have hlo : 2 ^ a.log2 ≤ a := Nat.log2_self_le h0
    have hhi : a < 2 ^ (a.log2 + 1) := Nat.lt_log2_self
    generalize a.log2 = k at *
    have e1 : 2 ^ 52 = 2 ^ k * 2 ^ (52 - k) := by rw [← Nat.pow_add]; congr 1; exact zq830 hk
    have e2 : 2 ^ 53 = 2 ^ (k + 1) * 2 ^ (52 - k) := by rw [← Nat.pow_add]; congr 1; exact zq831 hk
    have q1 : 2 ^ 52 ≤ a * 2 ^ (52 - k) := by rw [e1]; exact Nat.mul_le_mul_right _ hlo
    have q2 : a * 2 ^ (52 - k) < 2 ^ 53 := by rw [e2]; exact Nat.mul_lt_mul_of_pos_right hhi (Nat.two_pow_pos _)
    refine ⟨(992 + k) * 2 ^ 52 + a * 2 ^ (52 - k), ?_, ?_⟩
    · have : (992 + k) * 2 ^ 52 ≤ 1044 * 2 ^ 52 := Nat.mul_le_mul_right _ (by exact zq832 hk)
      exact zq833 hk q1 q2
    · rw [V_at (Nat.le_of_lt q2) (.inl q1), Nat.mul_assoc, ← Nat.pow_add]
      congr 2; exact zq834 hk
theorem right_unique {r : UInt64} {neg : Bool} {W D : Nat} {a : Nat} (hr : Right r neg W D) (hD : 0 < D) (ha : a < 2 ^ 53) (hW : W = D * (a * 2 ^ 1044)) : ∃ t, t < infMag ∧ V t = a * 2 ^ 1044 ∧ r = pack neg t := by
  obtain ⟨t', ht', hV⟩ := rep a ha
  obtain ⟨t, rfl, hle, hinf, hn⟩ := hr
  have hlt : t < infMag := by
    rcases Nat.lt_or_eq_of_le hle with h | h
    · exact h
    · exfalso
      have h1 := hinf.mp h
      rw [hW, Nat.mul_left_comm 2 D] at h1
      have h2 := Nat.le_of_mul_le_mul_left h1 hD
      have h3 : 2 * (a * 2 ^ 1044) < 2 ^ 54 * 2 ^ 1044 := by
        have : 2 * a < 2 ^ 54 := by exact zq835 ha h2
        rw [← Nat.mul_assoc]
        exact Nat.mul_lt_mul_of_pos_right this (Nat.two_pow_pos _)
      have h4 : 2 ^ 54 * 2 ^ 1044 ≤ (2 ^ 54 - 1) * 2 ^ 2045 := by
        have : (2 : Nat) ^ 2045 = 2 ^ 1044 * 2 ^ 1001 := by rw [← Nat.pow_add]
        rw [this, Nat.mul_comm (2 ^ 1044), ← Nat.mul_assoc]
        refine Nat.mul_le_mul_right _ ?_
        exact Nat.le_trans (by decide : 2 ^ 54 ≤ (2 ^ 54 - 1) * 2 ^ 2) (Nat.mul_le_mul_left _ (Nat.pow_le_pow_right (by decide) (by decide)))
      exact zq836 ha h2
  have hd := (hn hlt t').1
  rw [hV, hW] at hd
  have e0 : dist (D * (a * 2 ^ 1044)) (D * (a * 2 ^ 1044)) = 0 := by unfold dist; exact zq837
  rw [e0] at hd
  have e1 : D * (a * 2 ^ 1044) = D * V t := by unfold dist at hd; exact zq838 hd
  exact ⟨t, hlt, (Nat.eq_of_mul_eq_mul_left hD e1).symm, rfl⟩
theorem pack_inj_V {t t' : Nat} (h : V t = V t') : t = t' := by
  rcases Nat.lt_trichotomy t t' with q | q | q
  · have := V_lt q; exact zq556 h this
  · exact q
  · have := V_lt q; exact zq557 h this
theorem fl_right (n : Int) : Right (fl n) (decide (n < 0)) (n.natAbs * 2 ^ 1044) 1 := by
  refine ofFrac_right (by decide) ?_ (by decide)
  rw [Nat.mul_one, Nat.mul_assoc, ← Nat.pow_add]
theorem fl_at {n : Int} (h : n.natAbs < 2 ^ 53) : ∃ t, t < infMag ∧ V t = n.natAbs * 2 ^ 1044 ∧ fl n = pack (decide (n < 0)) t :=
  right_unique (fl_right n) (by decide) h (by rw [Nat.one_mul])
theorem fl_unique {r : UInt64} {neg : Bool} {W D : Nat} {n : Int} (hr : Right r neg W D) (hD : 0 < D) (h : n.natAbs < 2 ^ 53) (hW : W = D * (n.natAbs * 2 ^ 1044)) (hs : neg = decide (n < 0)) : r = fl n := by
  obtain ⟨t, _, hV, rfl⟩ := right_unique hr hD h hW
  obtain ⟨t', _, hV', e⟩ := fl_at h
  rw [e, hs, pack_inj_V (hV.trans hV'.symm)]
theorem fl_dec {n : Int} (h : n.natAbs < 2 ^ 53) : ∃ m e, decode (fl n) = .fin (decide (n < 0)) m e ∧ val (fl n) = n * 2 ^ 1044 := by
  obtain ⟨t, ht, hV, e⟩ := fl_at h
  obtain ⟨m, x, hd, hm⟩ := decode_pack (decide (n < 0)) ht
  refine ⟨m, x, by rw [e]; exact hd, ?_⟩
  rw [e, val_pack _ ht, hV]
  unfold sgn
  by_cases hn : n < 0
  · simp only [hn, decide_true, if_true]
    rw [Int.natCast_mul, show ((n.natAbs : Nat) : Int) = -n by exact zq839 hn, Int.neg_mul, Int.neg_neg]; rfl
  · simp only [hn, decide_false, Bool.false_eq_true, if_false]
    rw [Int.natCast_mul, show ((n.natAbs : Nat) : Int) = n by exact zq840 hn]; rfl
theorem pow_pos_int : (0 : Int) < 2 ^ 1044 := by decide
theorem natAbs_scale (n : Int) : (n * 2 ^ 1044).natAbs = n.natAbs * 2 ^ 1044 := by rw [Int.natAbs_mul]; rfl
theorem neg_scale (n : Int) : decide (n * 2 ^ 1044 < 0) = decide (n < 0) := by
  apply decide_eq_decide.mpr
  constructor
  · intro h
    by_cases q : n < 0
    · exact q
    · have := Int.mul_nonneg (show 0 ≤ n by exact zq841 h q) (Int.le_of_lt pow_pos_int); exact zq842 h q
  · intro h; exact Int.mul_neg_of_neg_of_pos h pow_pos_int
theorem zero_scale {n : Int} (h : n * 2 ^ 1044 = 0) : n = 0 := by
  rcases Int.mul_eq_zero.mp h with h | h
  · exact h
  · have := pow_pos_int; exact zq843 h
theorem fl_zero : fl 0 = zero false := by decide +kernel
theorem add_fl {a b : Int} (ha : a.natAbs < 2 ^ 53) (hb : b.natAbs < 2 ^ 53) (hc : (a + b).natAbs < 2 ^ 53) : add (fl a) (fl b) = fl (a + b) := by
  obtain ⟨m, e, hd, hv⟩ := fl_dec ha
  obtain ⟨k, f, hd', hv'⟩ := fl_dec hb
  obtain ⟨h1, h2⟩ := add_right hd hd'
  rw [hv, hv', ← Int.add_mul] at h1 h2
  by_cases h0 : (a + b) * 2 ^ 1044 = 0
  · have e0 := zero_scale h0
    rw [h1 h0, e0, fl_zero]
    have : (decide (a < 0) && decide (b < 0)) = false := by
      by_cases q : a < 0
      · have : ¬ b < 0 := by exact zq844 h0 q
        simp [this]
      · simp [q]
    rw [this]
  · have := h2 h0
    rw [neg_scale, natAbs_scale] at this
    exact fl_unique this (by decide) hc (by rw [Nat.one_mul]) rfl
theorem sub_fl {a b : Int} (ha : a.natAbs < 2 ^ 53) (hb : b.natAbs < 2 ^ 53) (hc : (a - b).natAbs < 2 ^ 53) : sub (fl a) (fl b) = fl (a - b) := by
  obtain ⟨m, e, hd, hv⟩ := fl_dec ha
  obtain ⟨k, f, hd', hv'⟩ := fl_dec hb
  obtain ⟨h1, h2⟩ := sub_right hd hd'
  rw [hv, hv', ← Int.sub_mul] at h1 h2
  by_cases h0 : (a - b) * 2 ^ 1044 = 0
  · have e0 := zero_scale h0
    rw [h1 h0, e0, fl_zero]
    have : (decide (a < 0) && !decide (b < 0)) = false := by
      by_cases q : a < 0
      · have : b < 0 := by exact zq845 h0 q
        simp [this]
      · simp [q]
    rw [this]
  · have := h2 h0
    rw [neg_scale, natAbs_scale] at this
    exact fl_unique this (by decide) hc (by rw [Nat.one_mul]) rfl
theorem mul_fl {a b c : Int} (ha : a.natAbs < 2 ^ 53) (hb : b.natAbs < 2 ^ 53) (hc : c.natAbs < 2 ^ 53) (h : a * b = c * 2 ^ 30) (hs : (decide (a < 0) != decide (b < 0)) = decide (c < 0)) : mul (fl a) (fl b) = fl c := by
  obtain ⟨m, e, hd, hv⟩ := fl_dec ha
  obtain ⟨k, f, hd', hv'⟩ := fl_dec hb
  have hr := mul_right hd hd'
  rw [hv, hv', natAbs_scale, natAbs_scale] at hr
  refine fl_unique hr (Nat.two_pow_pos _) hc ?_ hs
  have h2 : a.natAbs * b.natAbs = c.natAbs * 2 ^ 30 := by rw [← Int.natAbs_mul, h, Int.natAbs_mul]; rfl
  have e1 : a.natAbs * 2 ^ 1044 * (b.natAbs * 2 ^ 1044) = a.natAbs * b.natAbs * (2 ^ 1044 * 2 ^ 1044) := by ac_rfl
  rw [e1, h2]
  have e2 : (2 : Nat) ^ 1074 = 2 ^ 30 * 2 ^ 1044 := by rw [← Nat.pow_add]
  rw [e2]
  generalize (2 : Nat) ^ 1044 = K
  ac_rfl
theorem div_fl {a b c : Int} (ha : a.natAbs < 2 ^ 53) (hb : b.natAbs < 2 ^ 53) (hc : c.natAbs < 2 ^ 53) (hb0 : b ≠ 0) (h : a * 2 ^ 30 = b * c) (hs : (decide (a < 0) != decide (b < 0)) = decide (c < 0)) : div (fl a) (fl b) = fl c := by
  obtain ⟨m, e, hd, hv⟩ := fl_dec ha
  obtain ⟨k, f, hd', hv'⟩ := fl_dec hb
  have hk : k ≠ 0 := by
    intro q; subst q
    rw [val_eq hd'] at hv'
    have : sgn (decide (b < 0)) (0 * 2 ^ (f + 1074).toNat) = 0 := by unfold sgn; rw [Nat.zero_mul]; split <;> rfl
    rw [this] at hv'
    exact hb0 (zero_scale hv'.symm)
  have hr := div_right hd hd' hk
  rw [hv, hv', natAbs_scale, natAbs_scale] at hr
  refine fl_unique hr (Nat.mul_pos (by exact zq846 hb0 hk) (Nat.two_pow_pos _)) hc ?_ hs
  have h2 : a.natAbs * 2 ^ 30 = b.natAbs * c.natAbs := by rw [← Int.natAbs_mul, ← h, Int.natAbs_mul]; rfl
  have e2 : (2 : Nat) ^ 1074 = 2 ^ 30 * 2 ^ 1044 := by rw [← Nat.pow_add]
  have e1 : a.natAbs * 2 ^ 1044 * (2 ^ 30 * 2 ^ 1044) = a.natAbs * 2 ^ 30 * (2 ^ 1044 * 2 ^ 1044) := by ac_rfl
  rw [e2, e1, h2]
  generalize (2 : Nat) ^ 1044 = K
  ac_rfl
theorem cmp_fl {a b : Int} (ha : a.natAbs < 2 ^ 53) (hb : b.natAbs < 2 ^ 53) : cmp (fl a) (fl b) = some (compare a b) := by
  obtain ⟨m, e, hd, hv⟩ := fl_dec ha
  obtain ⟨k, f, hd', hv'⟩ := fl_dec hb
  rw [cmp_right hd hd', hv, hv']
  congr 1
  rcases Int.lt_trichotomy a b with h | h | h
  · rw [Int.compare_eq_lt.mpr h, Int.compare_eq_lt.mpr (Int.mul_lt_mul_of_pos_right h pow_pos_int)]
  · subst h; simp
  · rw [Int.compare_eq_gt.mpr h, Int.compare_eq_gt.mpr (Int.mul_lt_mul_of_pos_right h pow_pos_int)]
theorem eq_fl {a b : Int} (ha : a.natAbs < 2 ^ 53) (hb : b.natAbs < 2 ^ 53) : (cmp (fl a) (fl b) == some .eq) = decide (a = b) := by
  rw [cmp_fl ha hb]
  rcases Int.lt_trichotomy a b with h | h | h
  · rw [Int.compare_eq_lt.mpr h, decide_eq_false (by exact zq847 h)]; rfl
  · subst h; simp
  · rw [Int.compare_eq_gt.mpr h, decide_eq_false (by exact zq848 h)]; rfl
theorem lt_fl {a b : Int} (ha : a.natAbs < 2 ^ 53) (hb : b.natAbs < 2 ^ 53) : (cmp (fl a) (fl b) == some .lt) = decide (a < b) := by
  rw [cmp_fl ha hb]
  rcases Int.lt_trichotomy a b with h | h | h
  · rw [Int.compare_eq_lt.mpr h, decide_eq_true h]; rfl
  · subst h; simp
  · rw [Int.compare_eq_gt.mpr h, decide_eq_false (by exact zq849 h)]; rfl
theorem gt_fl {a b : Int} (ha : a.natAbs < 2 ^ 53) (hb : b.natAbs < 2 ^ 53) : (cmp (fl a) (fl b) == some .gt) = decide (b < a) := by
  rw [cmp_fl ha hb]
  rcases Int.lt_trichotomy a b with h | h | h
  · rw [Int.compare_eq_lt.mpr h, decide_eq_false (by exact zq849 h)]; rfl
  · subst h; simp
  · rw [Int.compare_eq_gt.mpr h, decide_eq_true (by omega)]; rfl
theorem isZero_fl {a : Int} (ha : a.natAbs < 2 ^ 53) : isZero (fl a) = decide (a = 0) := by
  obtain ⟨m, e, hd, hv⟩ := fl_dec ha
  unfold isZero
  rw [hd]
  rw [val_eq hd] at hv
  by_cases h : a = 0
  · subst h
    have h3 := congrArg Int.natAbs hv
    rw [sgn_natAbs, Int.zero_mul] at h3
    have : m = 0 := by
      rcases Nat.mul_eq_zero.mp h3 with h | h
      · exact h
      · exact absurd h (Nat.pos_iff_ne_zero.mp (Nat.two_pow_pos _))
    subst this; rfl
  · have : m ≠ 0 := fun q => by
      subst q
      have : sgn (decide (a < 0)) (0 * 2 ^ (e + 1074).toNat) = 0 := by unfold sgn; rw [Nat.zero_mul]; split <;> rfl
      rw [this] at hv
      exact h (zero_scale hv.symm)
    rw [decide_eq_false h]
    cases m with
    | zero => exact absurd rfl this
    | succ m => rfl
theorem finite_fl {a : Int} (ha : a.natAbs < 2 ^ 53) : isFinite (fl a) = true := by
  obtain ⟨m, e, hd, hv⟩ := fl_dec ha
  unfold isFinite; rw [hd]
theorem notNaN_fl {a : Int} (ha : a.natAbs < 2 ^ 53) : Float64.isNaN (fl a) = false := by
  obtain ⟨m, e, hd, hv⟩ := fl_dec ha
  unfold Float64.isNaN; rw [hd]
theorem frac_fl {neg : Bool} {n d : Nat} {c : Int} (hd : 0 < d) (hc : c.natAbs < 2 ^ 53) (h : n * 2 ^ 30 = d * c.natAbs) (hs : neg = decide (c < 0)) : ofFrac neg n d = fl c := by
  have hr := ofFrac_right (neg := neg) (n := n) (d := d) (W := n * 2 ^ 1074) (D := d) hd rfl hd
  refine fl_unique hr hd hc ?_ hs
  have e2 : (2 : Nat) ^ 1074 = 2 ^ 30 * 2 ^ 1044 := by rw [← Nat.pow_add]
  rw [e2, ← Nat.mul_assoc, h, Nat.mul_assoc]
theorem ofInt_fl {i : Int} (h : i.natAbs < 2 ^ 23) : ofInt i = fl (i * 2 ^ 30) := by
  have e : (i * 2 ^ 30).natAbs = i.natAbs * 2 ^ 30 := by rw [Int.natAbs_mul]; rfl
  unfold ofInt
  refine frac_fl (by decide) (by rw [e]; exact zq850 h) (by rw [e]; exact zq851) ?_
  apply decide_eq_decide.mpr; exact zq852
theorem ofBin_right {neg : Bool} {M : Nat} {g : Int} (hg : -1074 ≤ g) : Right (ofBin neg M g) neg (M * 2 ^ (g + 1074).toNat) 1 := by
  unfold ofBin
  refine ofFrac_right (shift_pos _ _ _ (by decide)) ?_ (by decide)
  have := shift_one M g 1074 (by omega)
  rw [Nat.mul_one]; exact this
theorem fmod_right {x y : UInt64} {a b : Bool} {m k : Nat} {e f : Int} (hx : decode x = .fin a m e) (hy : decode y = .fin b k f) (hk : k ≠ 0) : Right (fmod x y) a ((val x).natAbs % (val y).natAbs) 1 := by
  have he := decode_ge hx
  have hf := decode_ge hy
  have hm : fmod x y = ofBin a ((m * 2 ^ (e - min e f).toNat) % (k * 2 ^ (f - min e f).toNat)) (min e f) := by
    unfold fmod
    rw [hx, hy]
    simp only [align, sgn, Bool.false_eq_true, if_false, Int.toNat_natCast]
    rw [if_neg (by simpa using hk)]
  rw [hm]
  have hr := ofBin_right (neg := a) (M := (m * 2 ^ (e - min e f).toNat) % (k * 2 ^ (f - min e f).toNat)) (g := min e f) (by exact zq853 he hf)
  rw [← Nat.mul_mod_mul_right, Nat.mul_assoc, Nat.mul_assoc, ← Nat.pow_add, ← Nat.pow_add] at hr
  rw [val_natAbs hx, val_natAbs hy]
  have e1 : (e - min e f).toNat + (min e f + 1074).toNat = (e + 1074).toNat := by exact zq854 he hf
  have e2 : (f - min e f).toNat + (min e f + 1074).toNat = (f + 1074).toNat := by exact zq855 he hf
  rw [e1, e2] at hr
  exact hr
theorem dec_ne {b : Int} {k : Nat} {f : Int} (hb0 : b ≠ 0) (hb : b.natAbs < 2 ^ 53) (hd' : decode (fl b) = .fin (decide (b < 0)) k f) : k ≠ 0 := by
  intro q; subst q
  obtain ⟨m, e, hd, hv⟩ := fl_dec hb
  rw [val_eq hd'] at hv
  have : sgn (decide (b < 0)) (0 * 2 ^ (f + 1074).toNat) = 0 := by unfold sgn; rw [Nat.zero_mul]; split <;> rfl
  rw [this] at hv
  exact hb0 (zero_scale hv.symm)
theorem fmod_fl {a b : Int} (ha : a.natAbs < 2 ^ 53) (hb : b.natAbs < 2 ^ 53) (hb0 : b ≠ 0) : Right (fmod (fl a) (fl b)) (decide (a < 0)) ((a.natAbs % b.natAbs) * 2 ^ 1044) 1 := by
  obtain ⟨m, e, hd, hv⟩ := fl_dec ha
  obtain ⟨k, f, hd', hv'⟩ := fl_dec hb
  have hr := fmod_right hd hd' (dec_ne hb0 hb hd')
  rw [hv, hv', natAbs_scale, natAbs_scale, Nat.mul_mod_mul_right] at hr
  exact hr
theorem copysign_one : copysign (zero false) (fl (2 ^ 30)) = fl 0 := by decide +kernel
theorem zero_pack : isZero (pack true 0) = true := by decide +kernel
theorem mod1_fl {a : Int} (ha : a.natAbs < 2 ^ 52) : (divmod (fl a) (fl (2 ^ 30))).2 = fl (a % 2 ^ 30) := by
  have hS : ((2 : Int) ^ 30).natAbs < 2 ^ 53 := by decide
  have hr := fmod_fl (a := a) (b := 2 ^ 30) (by exact zq856 ha) hS (by decide)
  have hn : (2 ^ 30 : Int).natAbs = 2 ^ 30 := by decide
  rw [hn] at hr
  have hy0 : lt (fl (2 ^ 30)) (zero false) = false := by decide +kernel
  unfold divmod
  simp only
  by_cases h0 : a.natAbs % 2 ^ 30 = 0
  · have hz : isZero (fmod (fl a) (fl (2 ^ 30))) = true := by
      rw [h0, Nat.zero_mul] at hr
      by_cases hneg : a < 0
      · rw [decide_eq_true hneg] at hr
        obtain ⟨t, _, hV, e⟩ := right_unique (a := 0) hr (by decide) (by decide) (by rw [Nat.zero_mul])
        rw [e]
        have : t = 0 := pack_inj_V (by rw [hV, V_zero, Nat.zero_mul])
        subst this; exact zero_pack
      · rw [decide_eq_false hneg] at hr
        rw [fl_unique (n := 0) hr (by decide) (by decide) (by simp) (by decide), isZero_fl (by decide)]; rfl
    rw [if_pos hz]
    have e0 : a % 2 ^ 30 = 0 := by exact zq857 h0
    rw [e0]; exact copysign_one
  · by_cases hneg : a < 0
    · rw [decide_eq_true hneg] at hr
      have hb : (-((a.natAbs % 2 ^ 30 : Nat) : Int)).natAbs < 2 ^ 53 := by exact zq858
      have e1 := fl_unique (n := -((a.natAbs % 2 ^ 30 : Nat) : Int)) hr (by decide) hb (by rw [Nat.one_mul, Int.natAbs_neg, Int.natAbs_natCast]) (by symm; apply decide_eq_true; exact zq859 h0)
      rw [e1, isZero_fl hb, if_neg (by simp only [decide_eq_true_eq]; exact zq860 h0), hy0]
      have hl : lt (fl (-((a.natAbs % 2 ^ 30 : Nat) : Int))) (zero false) = true := by
        rw [← fl_zero]; unfold lt; rw [lt_fl hb (by decide)]; apply decide_eq_true; exact zq859 h0
      rw [hl, if_pos (by decide)]
      show add _ _ = _
      rw [add_fl hb hS (by exact zq861)]
      congr 1; exact zq862 h0 hneg
    · rw [decide_eq_false hneg] at hr
      have hb : (((a.natAbs % 2 ^ 30 : Nat) : Int)).natAbs < 2 ^ 53 := by exact zq863
      have e1 := fl_unique (n := ((a.natAbs % 2 ^ 30 : Nat) : Int)) hr (by decide) hb (by rw [Nat.one_mul, Int.natAbs_natCast]) (by symm; apply decide_eq_false; exact zq864)
      rw [e1, isZero_fl hb, if_neg (by simp only [decide_eq_true_eq]; exact zq865 h0), hy0]
      have hl : lt (fl (((a.natAbs % 2 ^ 30 : Nat) : Int))) (zero false) = false := by
        rw [← fl_zero]; unfold lt; rw [lt_fl hb (by decide)]; apply decide_eq_false; exact zq864
      rw [hl, if_neg (by decide)]
      show fl _ = _
      congr 1; exact zq866 h0 hneg
theorem toInt_fl {a : Int} (h0 : 0 ≤ a) (ha : a.natAbs < 2 ^ 53) : Flt.toInt truncOf (fl a) = a / 2 ^ 30 := by
  obtain ⟨m, e, hd, hv⟩ := fl_dec ha
  have hneg : decide (a < 0) = false := decide_eq_false (by exact zq238 h0)
  rw [hneg] at hd
  have he := decode_ge hd
  unfold Flt.toInt
  rw [hd]
  simp only [truncOf, Bool.false_eq_true, if_false, floorOf, sgn]
  rw [val_eq hd] at hv
  simp only [sgn, Bool.false_eq_true, if_false] at hv
  obtain ⟨n, rfl⟩ := Int.eq_ofNat_of_zero_le h0
  have hv' : m * 2 ^ (e + 1074).toNat = n * 2 ^ 1044 := by
    have := congrArg Int.natAbs hv
    rw [natAbs_scale] at this
    rw [Int.natAbs_natCast, Int.natAbs_natCast] at this
    exact this
  have e30 : (2 : Nat) ^ 1074 = 2 ^ 30 * 2 ^ 1044 := by rw [← Nat.pow_add]
  have key : (n * 2 ^ 1044) / 2 ^ 1074 = n / 2 ^ 30 := by rw [e30, Nat.mul_div_mul_right _ _ (Nat.two_pow_pos _)]
  split
  · rename_i h
    have e1 : (e + 1074).toNat = e.toNat + 1074 := by exact zq867 h
    rw [e1, Nat.pow_add, ← Nat.mul_assoc] at hv'
    rw [← hv', Nat.mul_div_cancel _ (Nat.two_pow_pos _)] at key
    have : ((n : Int)) / 2 ^ 30 = ((n / 2 ^ 30 : Nat) : Int) := by exact zq868
    rw [this, ← key]; rw [Int.natCast_mul]; congr 1
  · rename_i h
    have e1 : (2 : Nat) ^ 1074 = 2 ^ (-e).toNat * 2 ^ (e + 1074).toNat := by rw [← Nat.pow_add]; congr 1; exact zq869 he h
    rw [← hv', e1, Nat.mul_div_mul_right _ _ (Nat.two_pow_pos _)] at key
    have : ((n : Int)) / 2 ^ 30 = ((n / 2 ^ 30 : Nat) : Int) := by exact zq868
    rw [this, ← key, Int.fdiv_eq_ediv_of_nonneg _ (Int.le_of_lt (Int.pow_pos (by decide)))]
    rw [Int.natCast_ediv]; congr 1
end

-- tokens never fall
theorem runs_toks {M : Model} {Γ : Ctx} {p : Pos} {t : Sem PySem.Fin} {fs : List Frame} {s s' : Shared} {e : End} (h : Runs M Γ p t fs s e s') : s.toks ≤ s'.toks := by
  induction h <;> first | exact Nat.le_refl _ | assumption | (simp only [Shared.setGen] at *; (first | exact zq119 (by assumption) | exact zq602 (by assumption) (by assumption))) | exact zq602 (by assumption) (by assumption)
theorem wakes_toks {M : Model} {Γ : Ctx} {p : Pos} {g : Nat} {r : Resume} {s s' : Shared} {res : GenResult} (h : Wakes M Γ p g r s res s') : s.toks ≤ s'.toks := by
  unfold Wakes at h
  split at h
  · exact h.elim
  · split at h
    · obtain ⟨e₁, s₁, hr, _, _, rfl⟩ := h; have := runs_toks hr; exact this
    · obtain ⟨_, rfl⟩ := h; exact Nat.le_refl _
    · obtain ⟨_, rfl⟩ := h; exact Nat.le_refl _
  · obtain ⟨e₁, s₁, hr, _, _, rfl⟩ := h; have := runs_toks hr; exact this
  · obtain ⟨_, rfl⟩ := h; exact Nat.le_refl _
  · obtain ⟨_, rfl⟩ := h; exact Nat.le_refl _
theorem wp_toks {α : Type} {M : Model} {Γ : Ctx} {E : Value → Pos → Shared → Prop} (t : Sem α) : ∀ (Q : α → Pos → Shared → Prop) (p : Pos) (s : Shared) (k : Nat), k ≤ s.toks → Sem.wp M Γ t (fun a p' s' => k ≤ s'.toks → Q a p' s') E p s → Sem.wp M Γ t Q E p s := by
  induction t with
  | pure a => intro Q p s k hk h; exact h hk
  | raise e => intro Q p s k hk h; exact h
  | unsupported w => intro Q p s k hk h; exact h
  | finish e => intro Q p s k hk h; exact h
  | rule _ _ ih | point _ _ ih | ask _ ih | handled _ _ ih | stack _ ih | thread _ ih | loadIfAlive _ _ ih => intro Q p s k hk h; exact ih _ _ _ _ _ hk h
  | «at» _ _ ih => intro Q p s k hk h; exact ih _ _ _ _ _ hk h
  | alloc _ _ ih | os _ _ _ ih | newGen _ _ ih => intro Q p s k hk h; exact ih _ _ _ _ k hk h
  | fresh _ ih => intro Q p s k hk h; exact ih _ _ _ _ k (Nat.le_succ_of_le hk) h
  | load _ _ _ ih => intro Q p s k hk h; obtain ⟨o, ho, h⟩ := h; exact ⟨o, ho, ih _ _ _ _ k hk h⟩
  | genState _ _ ih => intro Q p s k hk h; obtain ⟨o, ho, h⟩ := h; exact ⟨o, ho, ih _ _ _ _ k hk h⟩
  | update _ _ _ _ ih => intro Q p s k hk h; obtain ⟨ho, h⟩ := h; exact ⟨ho, ih _ _ _ _ k hk h⟩
  | choose _ _ _ ih => intro Q p s k hk h; obtain ⟨ho, h⟩ := h; exact ⟨ho, ih _ _ _ _ k hk h⟩
  | register _ _ _ => intro Q p s k hk h; exact h
  | call c hh g l kk ih =>
    intro Q p s k hk h
    obtain ⟨r, s', hr, h⟩ := h
    exact ⟨r, s', hr, ih r _ _ _ k (Nat.le_trans hk (runs_toks hr)) h⟩
  | resume g r l kk ih =>
    intro Q p s k hk h
    obtain ⟨r, s', hr, h⟩ := h
    exact ⟨r, s', hr, ih r _ _ _ k (Nat.le_trans hk (wakes_toks hr)) h⟩
  | «yield» _ _ _ _ _ => intro Q p s k hk h; exact h
  | fork _ _ _ => intro Q p s k hk h; exact h
  | await _ _ _ _ _ _ => intro Q p s k hk h; exact h
theorem wpAny_mt {α : Type} {M : Model} {A : Around} {t : Sem α} {Q : α → Shared → Prop} {E : Value → Shared → Prop} {s : Shared} (h : wpAny M A t (fun a s' => s.toks ≤ s'.toks → Q a s') E s) : wpAny M A t Q E s :=
  fun Γ p hΓ => wp_toks t _ p s s.toks (Nat.le_refl _) (h Γ p hΓ)
theorem codeAny_mt {M : Model} {A : Around} {c : Code} {R : Result → Shared → Prop} {s : Shared} (h : codeAny M A c (fun r s' => s.toks ≤ s'.toks → R r s') s) : codeAny M A c R s := fun Γ p hc hΓ => by
  obtain ⟨r, s', hr, h⟩ := h Γ p hc hΓ
  exact ⟨r, s', hr, h (runs_toks hr)⟩

-- the text, read without its three names and without nsmallest
noncomputable def vw : Program := { PySem.Challenge.pw_mq0298_01 with main := { PySem.Challenge.pw_mq0298_01.main with body := (PySem.Challenge.pw_mq0298_01.main.body.drop 1).take 10 ++ (PySem.Challenge.pw_mq0298_01.main.body.drop 13).take 2 ++ PySem.Challenge.pw_mq0298_01.main.body.drop 16 } }
theorem head_of {d : DefRec} {kwd : List (Str × Expr)} (H : Hook) (hl : LeftO PySem.Challenge.rw_mq0298_01.row.prog vw [Str.ofString "nsmallest"] (fun s => xlAt vw [] s && recOk (RowW.records PySem.Challenge.rw_mq0298_01.row.toRowW) s) H.obs H.val 1414)
    (hdef : defOf vw PySem.Challenge.rw_mq0298_01.row.name = some (d, kwd)) (hp : PySem.Challenge.rw_mq0298_01.row.prog.theDef PySem.Challenge.rw_mq0298_01.row.name = some (d.params, d.body, d.scope)) (hk : kwWritten? d.params.kwonlyargs d.params.kw_defaults = some kwd)
    (ok : PySem.Challenge.rw_mq0298_01.row.wellSaid = true) (hw : PySem.Challenge.rw_mq0298_01.row.toRowW.promised)
    (hc : WalkO vw [Str.ofString "nsmallest"] (XL vw []) H.says PySem.Challenge.rw_mq0298_01.row.toRowW d kwd fun f vs => PySem.call f vs) : PySem.Challenge.rw_mq0298_01.row.Holds :=
  holds_open (q := vw) (loose := [Str.ofString "nsmallest"]) (XP := XL vw []) (YP := H.says) hl H.of H.keeps (fun s e => xl_of s (Bool.and_eq_true_iff.mp e).1) XL.keeps hdef hp hk (fun s e => recFacts_of (Bool.and_eq_true_iff.mp e).2) rfl ok (by decide +kernel) ⟨rfl, rfl, rfl, rfl, rfl, by decide +kernel⟩ hw hc
local macro_rules | `(tactic| o_head $H) => `(tactic| apply head_of $H (by intro _; kernel_rfl) (by rfl) (by rfl) (by rfl) (by assumption))
open_top hd for PySem.Challenge.rw_mq0298_01


noncomputable abbrev KH := hd.heap_39

structure Cx (n : Nat) (w : World) (A : Around) (h₀ : Heap) (L : Addr) : Prop where
  X : (KH w.params).In h₀
  T : ∃ loose mean mg mb, Top vw loose mean mg mb h₀
  B : ∃ A₀ base outer env, Below A₀ base outer h₀ ∧ A.frames = some (env :: outer) ∧ env.frame = some L ∧ env.scope.kind = .function
  hh : A.handled = none
  dep : A.depth + n < recursionLimit
  uni : A.units + 20 * n < cLine

theorem Cx.call {n : Nat} {prog : Program} {w : World} {A : Around} {h₀ : Heap} {L : Addr} {hp : Heap} {gs : Array GenState} {dr : Drawn} {tk₀ : Nat} {oo : OsState} {m : Str → Option Value} {news : List (Addr × Obj)}
    {R : Result → Shared → Prop} {name qual : Str} {params : Arguments} {body : List Stmt} {scope : Scope} {dV kV doc pm cdv ct oc : Value} {an od : Option Addr} {osl : Array (Option Value)} {f : Addr} {args : Args} {binds : List (Str × Value)} {nb : Nat}
    (c : Cx (n + 1) w A h₀ L) (F : Fr h₀ L hp m) (N : News h₀ L hp news)
    (ho : (KH w.params).lookup f = some ⟨oc, od, .func (fnOf name qual params body scope dV kV doc pm an cdv ct), osl⟩) (hcd : codeIn (KH w.params) cdv qual = true)
    (hbind : BindsTo ⟨hp, gs, dr, tk₀, oo⟩ (fnOf name qual params body scope dV kV doc pm an cdv ct) args binds) (hloc : ∀ y ∈ binds, scope.names.lookup y.1 = some .local)
    (h : ∀ g L' h₁ m', (∀ y, m' y = binds.reverse.lookup y) → Cx n w (A.deeper (envOf qual scope L' f cdv)) g L' → Fr g L' h₁ m' → News g L' h₁ news →
      wpAny (model prog w) (A.deeper (envOf qual scope L' f cdv)) (execs body (envOf qual scope L' f cdv))
        (fun fl s' => LeaveK h₀ L m g R (match fl with | .ret v => v | _ => .none) s') (fun _ _ => False)
        ⟨h₁, gs, dr, tk₀ + nb, oo⟩)
    (hnb : binds.length = nb) (hco : scope.isCoroutine = false) (hgen : scope.isGenerator = false) (hk : scope.kind = .function) (hcell : ∀ x ∈ scope.names, x.2 ≠ .cell) :
    codeAny (model prog w) A (.call (.ref f) args) R ⟨hp, gs, dr, tk₀, oo⟩ := by
  subst hnb
  obtain ⟨loose, mean, mg, mb, T⟩ := c.T
  obtain ⟨A₀, base, outer, env, B, hA, hf, hke⟩ := c.B
  refine code_def B F c.X N T hA hf hke ho hcd (by have := c.dep; exact zq0 this) hbind hloc ?_ hco hgen hk hcell
  intro g L' h₁ FG F' N' B' X' T'
  refine wpAny_mono (h g L' h₁ _ (fun _ => rfl) ⟨X', ⟨_, _, _, _, T'⟩, ⟨_, _, _, envOf qual scope L' f cdv, B', ?_, rfl, hk⟩, c.hh, ?_, ?_⟩ F' N') (fun _ _ x => x) (fun _ _ x => x.elim)
  · show A.frames.map _ = _
    rw [hA]; rfl
  · have := c.dep; show A.depth + 1 + n < _; exact zq1 this
  · have := c.uni; show A.units + 3 + 20 * n < _; exact zq2 this

-- names of the top
inductive GN : Str → Addr → Prop
  | n21 : GN (Str.ofString "heappush") 21
  | n28 : GN (Str.ofString "heappop") 28
  | n35 : GN (Str.ofString "heapreplace") 35
  | n42 : GN (Str.ofString "heapify") 42
  | n49 : GN (Str.ofString "_heapreplace_max") 49
  | n56 : GN (Str.ofString "_heapify_max") 56
  | n63 : GN (Str.ofString "_siftdown") 63
  | n70 : GN (Str.ofString "_siftup") 70
  | n77 : GN (Str.ofString "_siftdown_max") 77
  | n84 : GN (Str.ofString "_siftup_max") 84
  | n90 : GN (Str.ofString "nsmallest") 90
  | n97 : GN (Str.ofString "rgb_to_hls") 97
  | n104 : GN (Str.ofString "hsv_to_rgb") 104
  | n111 : GN (Str.ofString "_law_colour") 111
  | n118 : GN (Str.ofString "_law_hue") 118
  | n123 : GN (Str.ofString "_law_gaps") 123
  | n130 : GN (Str.ofString "_law_table") 130
  | n137 : GN (Str.ofString "_law_parted") 137
inductive FA : Addr → Prop
  | a21 : FA 21
  | a28 : FA 28
  | a35 : FA 35
  | a42 : FA 42
  | a49 : FA 49
  | a56 : FA 56
  | a63 : FA 63
  | a70 : FA 70
  | a77 : FA 77
  | a84 : FA 84
  | a90 : FA 90
  | a97 : FA 97
  | a104 : FA 104
  | a111 : FA 111
  | a118 : FA 118
  | a123 : FA 123
  | a130 : FA 130
  | a137 : FA 137
inductive BN : Str → Value → Prop
  | b_len : BN (Str.ofString "len") (.builtin "len")
  | b_min : BN (Str.ofString "min") (.builtin "min")
  | b_max : BN (Str.ofString "max") (.builtin "max")
  | b_zip : BN (Str.ofString "zip") (.type "zip")
  | b_range : BN (Str.ofString "range") (.type "range")
  | b_reversed : BN (Str.ofString "reversed") (.type "reversed")
  | b_iter : BN (Str.ofString "iter") (.builtin "iter")
  | b_sorted : BN (Str.ofString "sorted") (.builtin "sorted")
  | b_tuple : BN (Str.ofString "tuple") (.type "tuple")
  | b_int : BN (Str.ofString "int") (.type "int")
  | b_TypeError : BN (Str.ofString "TypeError") (.type "TypeError")
  | b_AttributeError : BN (Str.ofString "AttributeError") (.type "AttributeError")
theorem GN.g {x : Str} {a : Addr} (h : GN x a) (P : Params) : nsIn (KH P) mainGlobals x = some (some (.ref a)) := by cases h <;> rfl
theorem GN.d {x : Str} {a : Addr} (h : GN x a) : (x == ("__debug__" : Str)) = false := by cases h <;> decide
theorem FA.k {a : Addr} (h : FA a) (P : Params) : keepIn (KH P) (.ref a) = true := by cases h <;> rfl
theorem BN.n {x : Str} {v : Value} (h : BN x v) (P : Params) : nsIn (KH P) mainGlobals x = some none := by cases h <;> rfl
theorem BN.v {x : Str} {v : Value} (h : BN x v) : bootBuiltins x = some v := by cases h <;> decide +kernel
theorem BN.d {x : Str} {v : Value} (h : BN x v) : x ≠ "__name__" ∧ (x == ("__debug__" : Str)) = false := by cases h <;> exact ⟨by decide, by decide⟩

-- setItem on a list of the ledger
theorem setItemN {prog : Program} {w : World} {A : Around} {E : Value → Shared → Prop} {hp : Heap} {gs : Array GenState} {dr : Drawn} {tk₀ : Nat} {oo : OsState} {h₀ : Heap} {L l : Addr} {m : Str → Option Value} {news : List (Addr × Obj)} {vs : List Value} {n : Nat} {k : Int} {t : Tok} {v : Value} {Q : Unit → Shared → Prop}
    (F : Fr h₀ L hp m) (N : News h₀ L hp ((l, listOf vs.toArray n) :: news)) (hne : ∀ p ∈ news, p.1 ≠ l) (h0 : 0 ≤ k) (h1 : k < vs.length) (hfit : k < 2 ^ 63)
    (h : ∀ h', Fr h₀ L h' m → News h₀ L h' ((l, listOf (vs.set k.toNat v).toArray n) :: news) → Q () ⟨h', gs, dr, tk₀, oo⟩) :
    wpAny (model prog w) A (setItem (.ref l) (.int k t) v) Q E ⟨hp, gs, dr, tk₀, oo⟩ := by
  have z := N (l, listOf vs.toArray n) (.head _)
  refine ki_setAt z.1 h0 hfit (by rw [List.size_toArray]; omega) (h _ (F.change (Heap.SameBut.update ..) z.2.1 z.2.2) (ki_turn (pre := []) _ N (fun _ h => nomatch h) hne ?_ ?_))
  · show vs.toArray.setIfInBounds k.toNat v = (vs.set k.toNat v).toArray
    apply Array.toList_inj.mp
    simp
  · simp

noncomputable def Sq (M : Model) (A : Around) (rest : List Stmt) (env : Env) (Q : Flow → Shared → Prop) (E : Value → Shared → Prop) : Flow → Shared → Prop
  | .next, s => wpAny M A (execs rest env) Q E s
  | .brk, s => Q .brk s
  | .cont, s => Q .cont s
  | .ret v, s => Q (.ret v) s

section
variable {M : Model} {A : Around} {rest : List Stmt} {env : Env} {Q : Flow → Shared → Prop} {E : Value → Shared → Prop} {s : Shared} {hp : Heap} {gs : Array GenState} {dr : Drawn} {tk₀ : Nat} {oo : OsState} {v : Value}
theorem Sq.nx (h : wpAny M A (execs rest env) Q E s) : Sq M A rest env Q E .next s := h
theorem Sq.bk (h : Q .brk s) : Sq M A rest env Q E .brk s := h
theorem Sq.ct (h : Q .cont s) : Sq M A rest env Q E .cont s := h
theorem Sq.rt (h : Q (.ret v) s) : Sq M A rest env Q E (.ret v) s := h
theorem sq {st : Stmt} (h : wpAny M A (exec st env) (Sq M A rest env Q E) E s) : wpAny M A (execs (st :: rest) env) Q E s :=
  wpAny_execs_cons (wpAny_mono h (fun f s' x => by cases f <;> exact x) fun _ _ x => x)
theorem sAssign {x : Str} {p pos : Pos} {value : Expr} (h : wpAny M A (eval value env) (fun v s₁ => wpAny M A (storeName env x v) (fun _ s₂ => wpAny M A (execs rest env) Q E s₂) E s₁) E s)
    (hs : swapsWith value (some (.Name x p)) pos.line env = pure false := by rfl) : wpAny M A (execs (.Assign [.Name x p] value pos :: rest) env) Q E s := sq (wpAny_Assign_Name h hs)
theorem sSet {o i value : Expr} {p pos : Pos} (h : wpAny M A (eval value env) (fun v s₁ => wpAny M A (eval o env) (fun ov s₂ => wpAny M A (eval i env) (fun iv s₃ =>
      wpAny M A (setItem ov iv v) (fun _ s₄ => wpAny M A (execs rest env) Q E s₄) E s₃) E s₂) E s₁) E s)
    (hs : swapsWith value (some (.Subscript o i p)) pos.line env = pure false := by rfl) : wpAny M A (execs (.Assign [.Subscript o i p] value pos :: rest) env) Q E s := sq (wpAny_Assign_Subscript h hs)
theorem sIf {test : Expr} {body orelse : List Stmt} {pos : Pos} (h : wpAny M A (isTrue test env (eval test env))
      (fun b s₂ => if b = true then wpAny M A (execs body env) (Sq M A rest env Q E) E s₂ else wpAny M A (execs orelse env) (Sq M A rest env Q E) E s₂) E s) :
    wpAny M A (execs (.If test body orelse pos :: rest) env) Q E s := sq (wpAny_If h)
theorem sRet {e : Expr} {pos : Pos} (h : wpAny M A (eval e env) (fun v s₁ => Q (.ret v) s₁) E s) : wpAny M A (execs (.Return (some e) pos :: rest) env) Q E s := sq (wpAny_Return_some h)
theorem sBreak {pos : Pos} (h : Q .brk s) : wpAny M A (execs (.Break pos :: rest) env) Q E s := sq (SiftDown.break_ h)
theorem sCont {pos : Pos} (h : Q .cont s) : wpAny M A (execs (.Continue pos :: rest) env) Q E s := sq (SiftDown.continue_ h)
theorem sExpr {e : Expr} {pos : Pos} (h : wpAny M A (eval e env) (fun v s₁ => v = .none ∧ wpAny M A (execs rest env) Q E s₁) E s)
    (hi : interactive env = false := by rfl) (hs : swapsWith e none pos.line env = pure false := by rfl) : wpAny M A (execs (.Expr e pos :: rest) env) Q E s :=
  sq (wpAny_Expr (wpAny_mono h (fun v s' x => by obtain ⟨rfl, x⟩ := x; exact x) fun _ _ x => x) hi hs)
end

section
variable {prog : Program} {w : World} {A : Around} {E : Value → Shared → Prop} {s : Shared} {hp : Heap} {gs : Array GenState} {dr : Drawn} {tk₀ : Nat} {oo : OsState} {env : Env} {Q : Flow → Shared → Prop}
theorem sWhile {test : Expr} {body rest : List Stmt} {pos : Pos} (I : Nat → Shared → Prop) (Z : Shared → Prop)
    (turn : ∀ n s, I n s → wpAny (model prog w) A (isTrue test env (eval test env)) (fun b s₂ =>
        if b = true then wpAny (model prog w) A (execs body env) (fun f s₃ => match f with
            | .next | .cont => ∃ m, m < n ∧ I m s₃
            | .brk => Z s₃
            | .ret v => Q (.ret v) s₃) (fun _ _ => False) s₂ else Z s₂) (fun _ _ => False) s)
    (n : Nat) (h : I n s) (hZ : ∀ s', Z s' → wpAny (model prog w) A (execs rest env) Q E s') : wpAny (model prog w) A (execs (.While test body [] pos :: rest) env) Q E s := by
  refine sq (wpAny_While (codeAny_whileLoop I (fun n s hI => wpAny_mono (turn n s hI) (fun b s₂ h₂ => ?_) (fun _ _ x => x.elim)) n h))
  cases b with
  | true =>
    simp only [if_true] at h₂ ⊢
    refine wpAny_mono h₂ (fun f s₃ h₃ => ?_) (fun _ _ x => x.elim)
    cases f with
    | next => exact h₃
    | cont => exact h₃
    | brk => exact hZ _ h₃
    | ret v => exact h₃
  | false =>
    simp only [Bool.false_eq_true, if_false] at h₂ ⊢
    exact wpAny_execs_nil (hZ _ h₂)
end

-- what a turn of a loop may end in: the rest of the loop, named by two letters
structure LB (gs : Array GenState) (dr : Drawn) (oo : OsState) (I : Nat → Heap → Nat → Prop) (Z : Heap → Nat → Prop) (K : Flow → Shared → Prop) (n : Nat) (B : Flow → Shared → Prop) (Y : Shared → Prop) : Prop where
  next : ∀ {h tk} (m : Nat), m < n → I m h tk → B .next ⟨h, gs, dr, tk, oo⟩
  cont : ∀ {h tk} (m : Nat), m < n → I m h tk → B .cont ⟨h, gs, dr, tk, oo⟩
  brk : ∀ {h tk}, Z h tk → B .brk ⟨h, gs, dr, tk, oo⟩
  ret : ∀ {v s}, K (.ret v) s → B (.ret v) s
  fin : ∀ {h tk}, Z h tk → Y ⟨h, gs, dr, tk, oo⟩
theorem sWhileI {prog : Program} {w : World} {A : Around} {E : Value → Shared → Prop} {hp : Heap} {gs : Array GenState} {dr : Drawn} {tk₀ : Nat} {oo : OsState} {env : Env} {Q : Flow → Shared → Prop} {test : Expr} {body rest : List Stmt} {pos : Pos} (I : Nat → Heap → Nat → Prop) (Z : Heap → Nat → Prop)
    (turn : ∀ n h tk B Y, LB gs dr oo I Z Q n B Y → I n h tk → wpAny (model prog w) A (isTrue test env (eval test env)) (fun b s₂ =>
        if b = true then wpAny (model prog w) A (execs body env) B (fun _ _ => False) s₂ else Y s₂) (fun _ _ => False) ⟨h, gs, dr, tk, oo⟩)
    (n : Nat) (h : I n hp tk₀) (hZ : ∀ h tk, Z h tk → wpAny (model prog w) A (execs rest env) Q E ⟨h, gs, dr, tk, oo⟩) : wpAny (model prog w) A (execs (.While test body [] pos :: rest) env) Q E ⟨hp, gs, dr, tk₀, oo⟩ :=
  sWhile (fun n s => ∃ h tk, s = ⟨h, gs, dr, tk, oo⟩ ∧ I n h tk) (fun s => ∃ h tk, s = ⟨h, gs, dr, tk, oo⟩ ∧ Z h tk)
    (fun n s hI => by
      obtain ⟨h, tk, rfl, hI⟩ := hI
      exact turn n h tk _ _ ⟨fun m hm x => ⟨m, hm, _, _, rfl, x⟩, fun m hm x => ⟨m, hm, _, _, rfl, x⟩, fun x => ⟨_, _, rfl, x⟩, fun x => x, fun x => ⟨_, _, rfl, x⟩⟩ hI)
    n ⟨_, _, rfl, h⟩ (fun s' hs => by obtain ⟨h, tk, rfl, hs⟩ := hs; exact hZ h tk hs)

theorem nsub {h₀ h : Heap} {L : Addr} {news news' : List (Addr × Obj)} (N : News h₀ L h news) (hs : ∀ p ∈ news', p ∈ news) : News h₀ L h news' := fun p hp => N p (hs p hp)

noncomputable def LtOK (prog : Program) (w : World) (news : List (Addr × Obj)) (lt : Value → Value → Bool) (vs : List Value) : Prop :=
  ∀ v ∈ vs, ∀ u ∈ vs, ∀ (A : Around) (h₀ : Heap) (L : Addr) (s : Shared) (Q : Value → Shared → Prop) (E : Value → Shared → Prop), A.units + 10 < cLine → A.handled = none → (KH w.params).In s.heap →
    News h₀ L s.heap news → Q (.bool (lt v u)) s → wpAny (model prog w) A (compareOp .Lt v u) Q E s

theorem rshift1 {prog : Program} {w : World} {A : Around} {E : Value → Shared → Prop} {hp : Heap} {gs : Array GenState} {dr : Drawn} {tk₀ : Nat} {oo : OsState} {Q : Value → Shared → Prop} {k : Nat} {t u : Tok} (hk : 1 ≤ k) (h : Q (.int (((k - 1) / 2 : Nat) : Int) tk₀) ⟨hp, gs, dr, tk₀ + 1, oo⟩) :
    wpAny (model prog w) A (binaryOp .RShift (.int ((k : Int) - 1) t) (.int 1 u)) Q E ⟨hp, gs, dr, tk₀, oo⟩ := by
  refine rshift_int (by decide) ?_
  have e : ((k : Int) - 1).fdiv (2 ^ (1 : Int).toNat) = (((k - 1) / 2 : Nat) : Int) := by
    rw [Int.fdiv_eq_ediv_of_nonneg _ (by decide)]
    show ((k : Int) - 1) / 2 = _
    exact zq3 hk
  rw [e]; exact h
theorem getD_get {vs : List Value} {i : Nat} (h : i < vs.length) : vs[i]? = some (vs.getD i .none) := by
  rw [List.getD_eq_getElem?_getD, List.getElem?_eq_getElem h]; rfl
theorem getD_mem {vs : List Value} {i : Nat} (h : i < vs.length) : vs.getD i .none ∈ vs := by
  rw [List.getD_eq_getElem?_getD, List.getElem?_eq_getElem h]; exact List.getElem_mem h
theorem itemN {prog : Program} {w : World} {A : Around} {E : Value → Shared → Prop} {s : Shared} {Q : Value → Shared → Prop} {h₀ : Heap} {L l : Addr} {news : List (Addr × Obj)} {value slice : Expr} {vs : List Value} {k : Nat} {e : Nat} {u : Tok}
    (N : News h₀ L s.heap news) (hm : (l, listOf vs.toArray e) ∈ news) (hk : k < vs.length) (hb : vs.length < 1000) (h : Q (vs.getD k .none) s)
    (hs : subscripted slice false (.ref l) (.int (k : Int) u) = operate [.ref l, .int (k : Int) u] (getItem (.ref l) (.int (k : Int) u))) (hg : ∀ r, letTemporaryGo value (.ref l) r = pure ()) :
    wpAny (model prog w) A (subscriptTail value slice (.ref l) (.int (k : Int) u)) Q E s :=
  item_listL (N.isList hm) (by exact zq4) (by exact zq5 hk hb) (by rw [Int.toNat_natCast]; exact getD_get hk) h hs hg
theorem setN {prog : Program} {w : World} {A : Around} {E : Value → Shared → Prop} {hp : Heap} {gs : Array GenState} {dr : Drawn} {tk₀ : Nat} {oo : OsState} {h₀ : Heap} {L l : Addr} {m : Str → Option Value} {news : List (Addr × Obj)} {vs : List Value} {n : Nat} {k : Nat} {t : Tok} {v : Value} {Q : Unit → Shared → Prop}
    (F : Fr h₀ L hp m) (N : News h₀ L hp ((l, listOf vs.toArray n) :: news)) (hne : ∀ p ∈ news, p.1 ≠ l) (h1 : k < vs.length) (hb : vs.length < 1000)
    (h : ∀ h', Fr h₀ L h' m → News h₀ L h' ((l, listOf (vs.set k v).toArray n) :: news) → Q () ⟨h', gs, dr, tk₀, oo⟩) :
    wpAny (model prog w) A (setItem (.ref l) (.int (k : Int) t) v) Q E ⟨hp, gs, dr, tk₀, oo⟩ :=
  setItemN F N hne (by exact zq4) (by exact zq6 h1) (by exact zq5 h1 hb) (by rw [Int.toNat_natCast]; exact h)
theorem LtOK.use {prog : Program} {w : World} {news news' : List (Addr × Obj)} {lt : Value → Value → Bool} {vs : List Value} {n : Nat} {A : Around} {h₀ : Heap} {L : Addr} {m : Str → Option Value} {s : Shared} {Q : Value → Shared → Prop} {E : Value → Shared → Prop} {v u : Value}
    (hl : LtOK prog w news lt vs) (c : Cx n w A h₀ L) (F : Fr h₀ L s.heap m) (N : News h₀ L s.heap news') (hs : ∀ p ∈ news, p ∈ news') (hv : v ∈ vs) (hu : u ∈ vs) (h : Q (.bool (lt v u)) s) (hn : 1 ≤ n) : wpAny (model prog w) A (compareOp .Lt v u) Q E s :=
  hl v hv u hu A h₀ L s Q E (by have := c.uni; exact zq7 hn this) c.hh (c.X.keeps F.keep) (nsub N hs) h

section
variable {n : Nat} {M : Model} {w : World} {A A' : Around} {E : Value → Shared → Prop} {s : Shared} {hp : Heap} {gs : Array GenState} {dr : Drawn} {tk₀ : Nat} {oo : OsState} {h₀ : Heap} {L : Addr} {m : Str → Option Value} {env : Env} {pos : Pos} {Q : Value → Shared → Prop}
theorem callKF {f : Addr} {e : Expr} {rest : List Expr} (c : Cx n w A' h₀ L) (hk : FA f)
    (h : wpAny M A (spliced (backTo pos (starEach (e :: rest) env))) (fun vs s₁ => (KH w.params).In s₁.heap ∧ wpAny M A (call (.ref f) vs) Q E s₁) E s)
    (he : starEach (e :: rest) env = (false, eval e env) :: starEach rest env := by rfl) (hplain : (backTo pos (starEach rest env)).any (·.1) = false := by rfl) :
    wpAny M A (callWith pos (.ref f) [] (backTo pos (starEach (e :: rest) env)) []) Q E s := callWith_K c.X (hk.k _) h he hplain
theorem kin (c : Cx n w A' h₀ L) (F : Fr h₀ L s.heap m) {P : Prop} (h : P) : (KH w.params).In s.heap ∧ P := ⟨c.X.keeps F.keep, h⟩
theorem lenN {prog : Program} {l : Addr} {vs : List Value} {e : Nat} {news : List (Addr × Obj)} (N : News h₀ L hp news) (hm : (l, listOf vs.toArray e) ∈ news) (hb : vs.length < 1000) (h : Q (.int (vs.length : Int) (tk₀ + 1)) ⟨hp, gs, dr, tk₀ + 1 + 1, oo⟩) :
    wpAny (model prog w) A (call (.builtin "len") [.ref l]) Q E ⟨hp, gs, dr, tk₀, oo⟩ := len_list (N.isList hm) (by rw [List.size_toArray]; exact zq8 hb) (by rw [List.size_toArray]; exact h)
end

-- names, in any frame
section
variable {M : Model} {A : Around} {E : Value → Shared → Prop} {s : Shared} {hp : Heap} {gs : Array GenState} {dr : Drawn} {tk₀ : Nat} {oo : OsState} {env : Env} {L : Addr} {h₀ : Heap} {m : Str → Option Value} {news : List (Addr × Obj)}
theorem ldL {x : Str} {pos : Pos} {v : Value} {Q : Value → Shared → Prop} (hl : env.kindOf x = some .local) (F : Fr h₀ L s.heap m) (hL : env.locals = L) (hv : m x = some v) (h : Q v s)
    (hk : env.scope.kind = .function) (hd : (x == ("__debug__" : Str)) = false) : wpAny M A (eval (.Name x pos) env) Q E s := by
  subst hL; exact wpAny_Name (wpAny_loadName_local hk hl F.ns hv h) hd
theorem stL {x : Str} {v : Value} {Q : Unit → Shared → Prop} (hl : env.kindOf x = some .local) (F : Fr h₀ L hp m) (N : News h₀ L hp news) (hL : env.locals = L)
    (h : ∀ h', Fr h₀ L h' (fun y => if y = x then some v else m y) → News h₀ L h' news → Q () ⟨h', gs, dr, tk₀ + 1, oo⟩)
    (hk : env.scope.kind = .function) : wpAny M A (storeName env x v) Q E ⟨hp, gs, dr, tk₀, oo⟩ := by
  subst hL
  exact wpAny_storeName_local hl F.ns (fun h' hn hs => h h' (F.set hn hs) (N.set hs)) (by rw [hk]; rfl)
structure St (m m' : Str → Option Value) (x : Str) (v : Value) : Prop where
  hit : m' x = some v
  skip : ∀ y, y ≠ x → m' y = m y
theorem stS {x : Str} {v : Value} {Q : Unit → Shared → Prop} (hl : env.kindOf x = some .local) (F : Fr h₀ L hp m) (N : News h₀ L hp news) (hL : env.locals = L)
    (h : ∀ h' m', St m m' x v → Fr h₀ L h' m' → News h₀ L h' news → Q () ⟨h', gs, dr, tk₀ + 1, oo⟩)
    (hk : env.scope.kind = .function) : wpAny M A (storeName env x v) Q E ⟨hp, gs, dr, tk₀, oo⟩ :=
  stL hl F N hL (fun h' F' N' => h h' _ ⟨if_pos rfl, fun _ h => if_neg h⟩ F' N') hk
theorem St.get {m m' : Str → Option Value} {x y : Str} {v : Value} {r : Option Value} (s : St m m' x v) (h : y ≠ x) (e : m y = r) : m' y = r := (s.skip y h).trans e
theorem nameGL {n : Nat} {w : World} {A' : Around} {x : Str} {pos : Pos} {v : Addr} {Q : Value → Shared → Prop} (hx : env.kindOf x = some .globalImplicit) (e : GN x v) (c : Cx n w A' h₀ L) (F : Fr h₀ L s.heap m) (h : Q (.ref v) s)
    (hk : env.scope.kind = .function) (hg : env.globals = mainGlobals) : wpAny M A (eval (.Name x pos) env) Q E s := by
  obtain ⟨loose, mean, mg, mb, T⟩ := c.T
  exact nameG_K F c.X (topRead_of T) (e.g _) h hg hk hx e.d
theorem nameBL {n : Nat} {w : World} {A' : Around} {x : Str} {pos : Pos} {v : Value} {Q : Value → Shared → Prop} (hx : env.kindOf x = some .globalImplicit) (e : BN x v) (c : Cx n w A' h₀ L) (F : Fr h₀ L s.heap m) (h : Q v s)
    (hk : env.scope.kind = .function) (hg : env.globals = mainGlobals) (hb : env.builtins = builtinsNs) : wpAny M A (eval (.Name x pos) env) Q E s := by
  obtain ⟨loose, mean, mg, mb, T⟩ := c.T
  exact Calls.Name_function_global hk hx (Calls.loadGlobal_builtin (by rw [hg]; exact T.g.keeps F.keep) (mg_none_of c.X T.g (e.n _)) (by rw [hb]; exact T.b.keeps F.keep) ((T.builtins x e.d.1).trans e.v) h) e.d.2
end

theorem iteT {P Q : Prop} (h : P) : if true = true then P else Q := by rw [if_pos rfl]; exact h
theorem iteF {P Q : Prop} (h : Q) : if false = true then P else Q := by rw [if_neg (by decide)]; exact h
theorem iteB {b : Bool} {P Q : Prop} (h1 : b = true → P) (h2 : b = false → Q) : if b = true then P else Q := by
  cases b
  · rw [if_neg (by decide)]; exact h2 rfl
  · rw [if_pos rfl]; exact h1 rfl
theorem iteD {c : Prop} [Decidable c] {P Q : Prop} (h1 : c → P) (h2 : ¬ c → Q) : if decide c = true then P else Q := by
  by_cases h : c
  · rw [if_pos (by simpa using h)]; exact h1 h
  · rw [if_neg (by simpa using h)]; exact h2 h

-- for loops
noncomputable def ForL (prog : Program) (w : World) (A : Around) (target : Expr) (it : Value) (body : List Stmt) (env : Env) (K : Flow → Shared → Prop) (s : Shared) : Prop :=
  codeAny (model prog w) A (.forLoop target it body [] env) (fun r s' => match r with | .ok f => K f s' | .error _ => False) s
section
variable {prog : Program} {w : World} {A : Around} {E : Value → Shared → Prop} {s : Shared} {hp : Heap} {gs : Array GenState} {dr : Drawn} {tk₀ : Nat} {oo : OsState} {env : Env} {Q : Flow → Shared → Prop}
theorem sFor {target iter : Expr} {body rest : List Stmt} {pos : Pos}
    (h : wpAny (model prog w) A (eval iter env) (fun x s₁ => wpAny (model prog w) A (pyIter x) (fun it s₂ => ForL prog w A target it body env (Sq (model prog w) A rest env Q E) s₂) E s₁) E s)
    (hs : ∀ x, foldedSetIterable iter env x = pure x) : wpAny (model prog w) A (execs (.For target iter body [] pos :: rest) env) Q E s :=
  sq (wpAny_For (wpAny_mono h (fun _ _ h₁ => wpAny_mono h₁ (fun _ _ h₂ => codeAny_mono h₂ fun r s' hr => by
    cases r with
    | ok f => exact hr
    | error e => exact hr.elim) fun _ _ x => x) fun _ _ x => x) hs)
theorem forL {target : Expr} {it : Value} {body : List Stmt} {K : Flow → Shared → Prop} (I : Nat → Shared → Prop) (Z : Shared → Prop)
    (turn : ∀ n s, I n s → wpAny (model prog w) A (pyNext it) (fun r s₁ => match r with
      | none => Z s₁
      | some v => wpAny (model prog w) A (letOwnedTupleGo target it v) (fun _ s₁' => wpAny (model prog w) A (assign target env v) (fun _ s₂ => wpAny (model prog w) A (execs body env) (fun f s₃ => match f with
            | .next | .cont => ∃ m, m < n ∧ I m s₃
            | .brk => Z s₃
            | .ret v => K (.ret v) s₃) (fun _ _ => False) s₂) (fun _ _ => False) s₁') (fun _ _ => False) s₁) (fun _ _ => False) s)
    (n : Nat) (h : I n s) (hZ : ∀ s', Z s' → K .next s') : ForL prog w A target it body env K s := by
  refine codeAny_forLoop_any I (fun n s hI => wpAny_mono (turn n s hI) (fun r s₁ h₁ => ?_) (fun _ _ x => x.elim)) n h
  cases r with
  | none => exact wpAny_execs_nil (hZ _ h₁)
  | some v =>
    refine wpAny_mono h₁ (fun _ s₁' h₁' => wpAny_mono h₁' (fun _ s₂ h₂ => wpAny_mono h₂ (fun f s₃ h₃ => ?_) (fun _ _ x => x.elim)) (fun _ _ x => x.elim)) (fun _ _ x => x.elim)
    cases f with
    | next => exact h₃
    | cont => exact h₃
    | brk => exact hZ _ h₃
    | ret v => exact h₃
end

theorem forLI {prog : Program} {w : World} {A : Around} {hp : Heap} {gs : Array GenState} {dr : Drawn} {tk₀ : Nat} {oo : OsState} {env : Env} {target : Expr} {it : Value} {body : List Stmt} {K : Flow → Shared → Prop} (I : Nat → Heap → Nat → Prop) (Z : Heap → Nat → Prop)
    (turn : ∀ n h tk B Y, LB gs dr oo I Z K n B Y → I n h tk → wpAny (model prog w) A (pyNext it) (fun r s₁ => match r with
      | none => Y s₁
      | some v => wpAny (model prog w) A (letOwnedTupleGo target it v) (fun _ s₁' => wpAny (model prog w) A (assign target env v) (fun _ s₂ => wpAny (model prog w) A (execs body env) B (fun _ _ => False) s₂) (fun _ _ => False) s₁') (fun _ _ => False) s₁) (fun _ _ => False) ⟨h, gs, dr, tk, oo⟩)
    (n : Nat) (h : I n hp tk₀) (hZ : ∀ h tk, Z h tk → K .next ⟨h, gs, dr, tk, oo⟩) : ForL prog w A target it body env K ⟨hp, gs, dr, tk₀, oo⟩ :=
  forL (fun n s => ∃ h tk, s = ⟨h, gs, dr, tk, oo⟩ ∧ I n h tk) (fun s => ∃ h tk, s = ⟨h, gs, dr, tk, oo⟩ ∧ Z h tk)
    (fun n s hI => by
      obtain ⟨h, tk, rfl, hI⟩ := hI
      exact turn n h tk _ _ ⟨fun m hm x => ⟨m, hm, _, _, rfl, x⟩, fun m hm x => ⟨m, hm, _, _, rfl, x⟩, fun x => ⟨_, _, rfl, x⟩, fun x => x, fun x => ⟨_, _, rfl, x⟩⟩ hI)
    n ⟨_, _, rfl, h⟩ (fun s' hs => by obtain ⟨h, tk, rfl, hs⟩ := hs; exact hZ h tk hs)

-- objects of the ledger
noncomputable abbrev tupO (vs : List Value) : Obj := { cls := .type "tuple", data := .seq vs.toArray }
noncomputable def LI (o : Obj) (l : Addr) (i : Nat) : Prop := o.cls = .type "list_iterator" ∧ o.data = .fields #[.ref l, .int i 0]
noncomputable abbrev riO (x left step : Int) : Obj := { cls := .type "range_iterator", data := .fields #[rawInt x, rawInt left, rawInt step] }
theorem nset {h₀ h h' : Heap} {L a : Addr} {o o' : Obj} {news : List (Addr × Obj)} (N : News h₀ L h ((a, o) :: news)) (hne : ∀ p ∈ news, p.1 ≠ a) (hs : Heap.SameBut a h h') (ho : h'.get? a = some o') : News h₀ L h' ((a, o') :: news) :=
  news_set (pre := []) N (fun _ x => nomatch x) hne hs ho
theorem fset {h₀ h h' : Heap} {L a : Addr} {o : Obj} {m : Str → Option Value} {news : List (Addr × Obj)} (F : Fr h₀ L h m) (N : News h₀ L h ((a, o) :: news)) (hs : Heap.SameBut a h h') : Fr h₀ L h' m :=
  F.change hs (N _ (.head _)).2.1 (N _ (.head _)).2.2
theorem fext {h₀ h h' : Heap} {L a : Addr} {o : Obj} {m : Str → Option Value} {news : List (Addr × Obj)} (F : Fr h₀ L h m) (N : News h₀ L h ((a, o) :: news)) (hs : Heap.ExtBut a h h') : Fr h₀ L h' m := by
  obtain ⟨oL, a1, a2, hL, a3⟩ := F.ns
  refine ⟨⟨oL, a1, a2, hs _ _ (fun e => (N _ (.head _)).2.1 e.symm) hL, a3⟩, fun b o' e => hs _ _ (fun q => ?_) (F.keep _ _ e), F.above⟩
  subst q; rw [(N _ (.head _)).2.2] at e; cases e
theorem next {h₀ h h' : Heap} {L a : Addr} {o : Obj} {news : List (Addr × Obj)} (N : News h₀ L h ((a, o) :: news)) (hne : ∀ p ∈ news, p.1 ≠ a) (hs : Heap.ExtBut a h h') : News h₀ L h' news :=
  fun p hp => ⟨hs _ _ (hne p hp) (N p (.tail _ hp)).1, (N p (.tail _ hp)).2⟩
theorem npush {h₀ h : Heap} {L : Addr} {m : Str → Option Value} {news : List (Addr × Obj)} (F : Fr h₀ L h m) (N : News h₀ L h news) (o : Obj) (hf : o.isFreed = false) :
    News h₀ L (h.push o) ((h.objs.size, o) :: news) ∧ ∀ p ∈ news, p.1 ≠ h.objs.size := ⟨N.push F o hf, fun p hp => Nat.ne_of_lt (Heap.lt_size (N p hp).1)⟩

section
variable {prog : Program} {w : World} {A : Around} {E : Value → Shared → Prop} {s : Shared} {hp : Heap} {gs : Array GenState} {dr : Drawn} {tk₀ : Nat} {oo : OsState} {h₀ : Heap} {L : Addr} {m : Str → Option Value} {news : List (Addr × Obj)}
theorem iterList {l : Addr} {vs : List Value} {e : Nat} {Q : Value → Shared → Prop} (F : Fr h₀ L hp m) (N : News h₀ L hp news) (hm : (l, listOf vs.toArray e) ∈ news)
    (h : ∀ I o h', Fr h₀ L h' m → News h₀ L h' ((I, o) :: news) → LI o l 0 → (∀ p ∈ news, p.1 ≠ I) → Q (.ref I) ⟨h', gs, dr, tk₀, oo⟩) : wpAny (model prog w) A (pyIter (.ref l)) Q E ⟨hp, gs, dr, tk₀, oo⟩ :=
  wpAny_pyIter_list (N.isList hm) (h _ _ _ (F.push _) (N.push F _) ⟨rfl, rfl⟩ fun p hp => Nat.ne_of_lt (Heap.lt_size (N p hp).1))
theorem nextList {I l : Addr} {i : Nat} {vs : List Value} {e : Nat} {o : Obj} {Q : Option Value → Shared → Prop} (hh : A.handled = none) (F : Fr h₀ L hp m) (N : News h₀ L hp ((I, o) :: news)) (ho : LI o l i) (hne : ∀ p ∈ news, p.1 ≠ I) (hm : (l, listOf vs.toArray e) ∈ news)
    (h1 : ∀ o' h', i < vs.length → Fr h₀ L h' m → News h₀ L h' ((I, o') :: news) → LI o' l (i + 1) → Q (some (vs.getD i .none)) ⟨h', gs, dr, tk₀, oo⟩)
    (h2 : ∀ h', vs.length ≤ i → Fr h₀ L h' m → News h₀ L h' news → Q none ⟨h', gs, dr, tk₀, oo⟩) : wpAny (model prog w) A (pyNext (.ref I)) Q E ⟨hp, gs, dr, tk₀, oo⟩ := by
  have hit : hp.IsListIter I l i := ⟨o, (N _ (.head _)).1, ho.1, ho.2⟩
  by_cases hi : i < vs.length
  · refine wpAny_pyNext_list_item hit (N.isList (.tail _ hm)) (x := vs.getD i .none) (by rw [List.getElem?_toArray]; exact getD_get hi) fun h' hit' hs => ?_
    obtain ⟨o', ho', hc, hd⟩ := hit'
    exact h1 o' h' hi (fset F N hs) (nset N hne hs ho') ⟨hc, hd⟩
  · exact wpAny_pyNext_list_end hh hit (N.isList (.tail _ hm)) (by simp; exact zq9 hi) fun h' hs => h2 h' (by exact zq9 hi) (fext F N hs) (next N hne hs)
theorem nextRange {I : Addr} {x left step : Int} {Q : Option Value → Shared → Prop} (hh : A.handled = none) (F : Fr h₀ L hp m) (N : News h₀ L hp ((I, riO x left step) :: news)) (hne : ∀ p ∈ news, p.1 ≠ I)
    (h1 : ∀ h', 0 < left → Fr h₀ L h' m → News h₀ L h' ((I, riO (x + step) (left - 1) step) :: news) → Q (some (.int x tk₀)) ⟨h', gs, dr, tk₀ + 1, oo⟩)
    (h2 : ∀ h', left ≤ 0 → Fr h₀ L h' m → News h₀ L h' news → Q none ⟨h', gs, dr, tk₀, oo⟩) : wpAny (model prog w) A (pyNext (.ref I)) Q E ⟨hp, gs, dr, tk₀, oo⟩ := by
  have hit : IsRangeIter hp I x left step := (N _ (.head _)).1
  by_cases hi : 0 < left
  · exact wpAny_pyNext_range_item hit hi fun h' hit' hs => h1 h' hi (fset F N hs) (nset N hne hs hit')
  · exact wpAny_pyNext_range_end hh hit (by exact zq10 hi) fun h' hs => h2 h' (by exact zq10 hi) (fext F N hs) (next N hne hs)
theorem callRange {n : Int} {t : Tok} {Q : Value → Shared → Prop} (F : Fr h₀ L hp m) (N : News h₀ L hp news)
    (h : ∀ D h' u v tk, Fr h₀ L h' m → News h₀ L h' ((D, { cls := .type "range", data := .fields #[.int 0 u, .int n t, .int 1 v] }) :: news) → (∀ p ∈ news, p.1 ≠ D) → tk₀ ≤ tk → Q (.ref D) ⟨h', gs, dr, tk, oo⟩) :
    wpAny (model prog w) A (call (.type "range") [.int n t]) Q E ⟨hp, gs, dr, tk₀, oo⟩ :=
  call_range_1 (h _ _ _ _ _ (F.push _) (N.push F _) (fun p hp => Nat.ne_of_lt (Heap.lt_size (N p hp).1)) (by simp only; exact zq11))
theorem iterRange {D : Addr} {n : Nat} {t u v : Tok} {Q : Value → Shared → Prop} (hn : n < 1000) (F : Fr h₀ L hp m) (N : News h₀ L hp news) (hm : (D, ({ cls := .type "range", data := .fields #[.int 0 u, .int (n : Int) t, .int 1 v] } : Obj)) ∈ news)
    (h : ∀ I h', Fr h₀ L h' m → News h₀ L h' ((I, riO 0 n 1) :: news) → (∀ p ∈ news, p.1 ≠ I) → Q (.ref I) ⟨h', gs, dr, tk₀, oo⟩) : wpAny (model prog w) A (pyIter (.ref D)) Q E ⟨hp, gs, dr, tk₀, oo⟩ := by
  refine wpAny_pyIter_range (N _ hm).1 (small_one (by decide) (by decide) (by exact zq12 hn) (by exact zq13 hn)) ?_
  have e : Builtin.Range.rangeSize 0 (n : Int) 1 = n := by rw [rangeSize_one]; split <;> (first | exact zq14 | exact zq15 hn (by assumption))
  rw [e]
  exact h _ _ (F.push _) (N.push F _) fun p hp => Nat.ne_of_lt (Heap.lt_size (N p hp).1)
theorem iterRI {I : Addr} {x left step : Int} {Q : Value → Shared → Prop} (N : News h₀ L s.heap news) (hm : (I, riO x left step) ∈ news) (h : Q (.ref I) s) : wpAny (model prog w) A (pyIter (.ref I)) Q E s := by
  have hT : s.TypeIs (.ref I) "range_iterator" := ⟨_, (N _ hm).1, rfl⟩
  refine wpAny_pyIter_slot hT PySem.F.slot_range_iterator_iter (wpAny_call_entry PySem.F.slot_range_iterator_iter hT PySem.F.entry_range_iterator_iter ?_ (PySem.F.args_range_iterator_iter_1 _))
  show wpAny _ _ (ret (.ref I)) _ _ s
  exact wpAny_pure ⟨_, rfl, "range_iterator", _, hT, PySem.F.slot_range_iterator_next.lookup, h⟩

-- reversed(range(n))
theorem rangeFields_at {r : Addr} {a b c : Int} {t u v : Tok} {Q : Int × Int × Int → Shared → Prop} (hr : IsRange s.heap r a b c t u v) (h : Q (a, b, c) s) : wpAny (model prog w) A (Builtin.Range.rangeFields (.ref r)) Q E s := by
  unfold Builtin.Range.rangeFields
  refine wpAny_bind (wpAny_field hr rfl (x := .int a t) rfl ?_)
  refine wpAny_bind (wpAny_of_eq (a := some a) rfl ?_)
  refine wpAny_bind (wpAny_field hr rfl (x := .int b u) rfl ?_)
  refine wpAny_bind (wpAny_of_eq (a := some b) rfl ?_)
  refine wpAny_bind (wpAny_field hr rfl (x := .int c v) rfl ?_)
  refine wpAny_bind (wpAny_of_eq (a := some c) rfl ?_)
  exact wpAny_pure h
theorem call_range_reversed {r : Addr} {n : Nat} {t u v : Tok} {Q : Value → Shared → Prop} (hn : n < 1000) (hr : IsRange s.heap r 0 n 1 u t v)
    (h : Q (.ref s.heap.objs.size) { s with heap := s.heap.push (riO ((n : Int) - 1) n (-1)) }) : wpAny (model prog w) A (call (.builtin "range.__reversed__") [.ref r]) Q E s := by
  have hT : s.TypeIs (.ref r) "range" := ⟨_, hr, rfl⟩
  refine wpAny_call_entry PySem.F.slot_range_reversed hT PySem.F.entry_range_reversed ?_ (PySem.F.args_range_reversed_1 _)
  have e : Builtin.Range.rangeSize 0 (n : Int) 1 = n := by rw [rangeSize_one]; split <;> (first | exact zq14 | exact zq15 hn (by assumption))
  unfold Builtin.«range.__reversed__»
  refine wpAny_bind (wpAny_of_eq (a := Value.ref r) rfl ?_)
  refine wpAny_bind ?_
  refine rangeFields_at hr ?_
  have sm : (Builtin.Range.rangeFitsLong 0 && Builtin.Range.rangeFitsLong (n : Int) && Builtin.Range.rangeFitsLong 1 && Builtin.Range.rangeFitsLong (-1) && Builtin.Range.rangeFitsLong (0 - 1) && Builtin.Range.rangeFitsLong (n : Int)) = true := by
    simp only [Builtin.Range.rangeFitsLong, Bool.and_eq_true, decide_eq_true_eq]; exact zq16 hn e
  dsimp only
  rw [e, sm]
  simp only [Bool.not_true, Bool.false_eq_true, if_false, if_true]
  refine wpAny_bind (wpAny_newObj_type (wpAny_pure ⟨_, rfl, ?_⟩))
  have e2 : (0 : Int) + (n - 1) * 1 = n - 1 := by exact zq18
  rw [e2]
  exact h
theorem code_reversed_range {r : Addr} {n : Nat} {t u v : Tok} {Q₁ : Value → Shared → Prop} (hn : n < 1000) (hr : IsRange s.heap r 0 n 1 u t v)
    (h : Q₁ (.ref s.heap.objs.size) { s with heap := s.heap.push (riO ((n : Int) - 1) n (-1)) }) :
    codeAny (model prog w) A (.call (.builtin "reversed.__new__") ⟨[.type "reversed", .ref r], []⟩) (wants Q₁ E) s := by
  have hT : s.TypeIs (.ref r) "range" := ⟨_, hr, rfl⟩
  refine codeAny_of_tree ?_
  show wpAny _ A.in1 (do checkBuiltinCall "reversed.__new__" ⟨[.type "reversed", .ref r], []⟩; again (.builtin "reversed.__new__" ⟨[.type "reversed", .ref r], []⟩)) _ _ s
  refine wpAny_bind (wpAny_of_eq (PySem.F.newCall_reversed_1 _) (wpAny_pure ⟨plainId_quiet PySem.F.plain_reversed_new _, codeAny_builtin PySem.F.entry_reversed_new ?_⟩))
  rw [Around.under_plainId PySem.F.plain_reversed_new _]
  unfold Builtin.«reversed.__new__»
  refine wpAny_bind (wpAny_of_eq (newClass_reversed _) ?_)
  refine wpAny_bind (wpAny_of_eq (a := ()) (by first | rfl | kernel_rfl) ?_)
  refine wpAny_bind (wpAny_of_eq (a := ()) (by first | rfl | kernel_rfl) ?_)
  try dsimp only
  refine wpAny_bind (wpAny_specialOf hT PySem.F.slot_range_reversed.lookup ?_)
  try dsimp only
  refine wpAny_bind (wpAny_of_eq (PySem.F.slot_range_reversed.bind _) ?_)
  try dsimp only
  first
  | rw [if_neg (show ¬ ((Value.builtin "range.__reversed__" == Value.none) = true) from Bool.false_ne_true)]
  | (show wpAny _ _ (if (Value.builtin "range.__reversed__" == Value.none) = true then _ else _) _ _ _; rw [if_neg (show ¬ ((Value.builtin "range.__reversed__" == Value.none) = true) from Bool.false_ne_true)])
  refine wpAny_bind (wpAny_rule ?_)
  refine wpAny_bind (m := runValue (.call (.builtin "range.__reversed__") ⟨[.ref r], []⟩)) (show wpAny _ _ (call (.builtin "range.__reversed__") [.ref r]) _ _ _ from call_range_reversed hn hr ?_)
  first
  | exact wpAny_pure h
  | exact wpAny_bind (wpAny_pure (wpAny_pure h))
theorem sub_ri_reversed : isSubtype (.type "range_iterator") (.type "reversed") = pure false := by rw [isSubtype_type]; kernel_rfl
theorem callReversed {D : Addr} {n : Nat} {t u v : Tok} {Q : Value → Shared → Prop} (hn : n < 1000) (F : Fr h₀ L hp m) (N : News h₀ L hp news) (hm : (D, ({ cls := .type "range", data := .fields #[.int 0 u, .int (n : Int) t, .int 1 v] } : Obj)) ∈ news)
    (h : ∀ I h', Fr h₀ L h' m → News h₀ L h' ((I, riO ((n : Int) - 1) n (-1)) :: news) → (∀ p ∈ news, p.1 ≠ I) → Q (.ref I) ⟨h', gs, dr, tk₀, oo⟩) : wpAny (model prog w) A (call (.type "reversed") [.ref D]) Q E ⟨hp, gs, dr, tk₀, oo⟩ := by
  refine callType_other (U := "range_iterator") (Q₁ := fun obj s₁ => obj = .ref hp.objs.size ∧ s₁ = ⟨hp.push (riO ((n : Int) - 1) n (-1)), gs, dr, tk₀, oo⟩) (by decide +kernel) PySem.F.create_reversed ⟨_, _, PySem.F.mro_reversed⟩ PySem.F.made_reversed sub_ri_reversed (PySem.F.typeCall_reversed_1 _) (code_reversed_range hn (N _ hm).1 ⟨rfl, rfl⟩) ?_
  rintro obj s₁ ⟨rfl, rfl⟩
  exact ⟨⟨_, Heap.get?_push_size _ rfl, rfl⟩, h _ _ (F.push _) (N.push F _) fun p hp => Nat.ne_of_lt (Heap.lt_size (N p hp).1)⟩
end

-- the library's steps, the state written out
section
variable {prog : Program} {w : World} {M : Model} {A : Around} {E : Value → Shared → Prop} {hp : Heap} {gs : Array GenState} {dr : Drawn} {tk₀ : Nat} {oo : OsState} {env : Env} {Q : Value → Shared → Prop} {a b : Int} {t u : Tok}
theorem cInt {i : Int} {k : Nat} {pos : Pos} (h : Q (.int i tk₀) ⟨hp, gs, dr, tk₀ + 1, oo⟩) : wpAny M A (eval (.Constant (.int i) k pos) env) Q E ⟨hp, gs, dr, tk₀, oo⟩ := wpAny_Constant_int h
theorem iAdd (h : Q (.int (a + b) tk₀) ⟨hp, gs, dr, tk₀ + 1, oo⟩) : wpAny (model prog w) A (binaryOp .Add (.int a t) (.int b u)) Q E ⟨hp, gs, dr, tk₀, oo⟩ := add_int h
theorem iSub (h : Q (.int (a - b) tk₀) ⟨hp, gs, dr, tk₀ + 1, oo⟩) : wpAny (model prog w) A (binaryOp .Sub (.int a t) (.int b u)) Q E ⟨hp, gs, dr, tk₀, oo⟩ := sub_int h
theorem iMul (h : Q (.int (a * b) tk₀) ⟨hp, gs, dr, tk₀ + 1, oo⟩) (hm : IntMulOk a b) : wpAny (model prog w) A (binaryOp .Mult (.int a t) (.int b u)) Q E ⟨hp, gs, dr, tk₀, oo⟩ := mul_int h hm
theorem iiAdd (h : Q (.int (a + b) tk₀) ⟨hp, gs, dr, tk₀ + 1, oo⟩) : wpAny (model prog w) A (inplaceOp .Add (.int a t) (.int b u)) Q E ⟨hp, gs, dr, tk₀, oo⟩ := iadd_int h
theorem iNeg (h : Q (.int (-a) tk₀) ⟨hp, gs, dr, tk₀ + 1, oo⟩) : wpAny (model prog w) A (unaryOp .USub (.int a t)) Q E ⟨hp, gs, dr, tk₀, oo⟩ := neg_int h
end

theorem nrot2 {h₀ h : Heap} {L : Addr} {a b : Addr × Obj} {r : List (Addr × Obj)} (N : News h₀ L h (a :: b :: r)) : News h₀ L h (b :: a :: r) := fun p hp => by
  rcases List.mem_cons.mp hp with rfl | hp
  · exact N _ (.tail _ (.head _))
  · rcases List.mem_cons.mp hp with rfl | hp
    · exact N _ (.head _)
    · exact N _ (.tail _ (.tail _ hp))
theorem nrot3 {h₀ h : Heap} {L : Addr} {a b c : Addr × Obj} {r : List (Addr × Obj)} (N : News h₀ L h (a :: b :: c :: r)) : News h₀ L h (c :: a :: b :: r) := fun p hp => by
  rcases List.mem_cons.mp hp with rfl | hp
  · exact N _ (.tail _ (.tail _ (.head _)))
  · rcases List.mem_cons.mp hp with rfl | hp
    · exact N _ (.head _)
    · rcases List.mem_cons.mp hp with rfl | hp
      · exact N _ (.tail _ (.head _))
      · exact N _ (.tail _ (.tail _ (.tail _ hp)))
theorem nback3 {h₀ h : Heap} {L : Addr} {a b c : Addr × Obj} {r : List (Addr × Obj)} (N : News h₀ L h (c :: a :: b :: r)) : News h₀ L h (a :: b :: c :: r) := nrot3 (nrot3 N)
theorem ntail {h₀ h : Heap} {L : Addr} {a : Addr × Obj} {r : List (Addr × Obj)} (N : News h₀ L h (a :: r)) : News h₀ L h r := fun p hp => N p (.tail _ hp)
section
variable {prog : Program} {w : World} {A : Around} {E : Value → Shared → Prop} {hp : Heap} {gs : Array GenState} {dr : Drawn} {tk₀ : Nat} {oo : OsState} {h₀ : Heap} {L l : Addr} {m : Str → Option Value} {news : List (Addr × Obj)} {vs : List Value} {e : Nat} {Q : Value → Shared → Prop}
theorem methN {name : Str} {id : String} {pl : Sem Bool} {Q : Value × List Value → Shared → Prop} (slot : Slot "list" name id) (hty : typeOf (.builtin id) = pure (.type "method_descriptor")) (N : News h₀ L hp news) (hm : (l, listOf vs.toArray e) ∈ news)
    (h : Q (.builtin id, [.ref l]) ⟨hp, gs, dr, tk₀, oo⟩) : wpAny (model prog w) A (getMethod (.ref l) name pl) Q E ⟨hp, gs, dr, tk₀, oo⟩ := kl_method N hm slot hty h
theorem appendN {x : Value} (F : Fr h₀ L hp m) (N : News h₀ L hp ((l, listOf vs.toArray e) :: news)) (hne : ∀ p ∈ news, p.1 ≠ l) (hb : vs.length < 1000)
    (h : ∀ h', Fr h₀ L h' m → News h₀ L h' ((l, listOf (vs ++ [x]).toArray (e + 1)) :: news) → Q .none ⟨h', gs, dr, tk₀, oo⟩) : wpAny (model prog w) A (call (.builtin "list.append") [.ref l, x]) Q E ⟨hp, gs, dr, tk₀, oo⟩ := by
  refine append_at (N _ (.head _)).1 (fun h' hs ho => h h' (fset F N hs) (nset N hne hs ?_)) (by rw [List.size_toArray, sizeLine_eq]; exact zq19 hb)
  rw [List.push_toArray] at ho; exact ho
theorem popN {x : Value} (F : Fr h₀ L hp m) (N : News h₀ L hp ((l, listOf (vs ++ [x]).toArray e) :: news)) (hne : ∀ p ∈ news, p.1 ≠ l) (hb : vs.length < 1000)
    (h : ∀ h', Fr h₀ L h' m → News h₀ L h' ((l, listOf vs.toArray (e + 1)) :: news) → Q x ⟨h', gs, dr, tk₀, oo⟩) : wpAny (model prog w) A (call (.builtin "list.pop") [.ref l]) Q E ⟨hp, gs, dr, tk₀, oo⟩ :=
  kl_pop F N (kpa_last x vs) (.head hne) (by show (vs ++ [x]).length ≤ _; rw [List.length_append, List.length_singleton, sizeLine_eq]; exact zq20 hb) h
theorem truthyN {Q : Bool → Shared → Prop} (N : News h₀ L hp news) (hm : (l, listOf vs.toArray e) ∈ news) (hb : vs.length < 1000) (h : Q (!vs.isEmpty) ⟨hp, gs, dr, tk₀ + 1 + 1, oo⟩) : wpAny (model prog w) A (truthy (.ref l)) Q E ⟨hp, gs, dr, tk₀, oo⟩ :=
  wpAny_truthy_list (N.isList hm) (by rw [List.size_toArray]; exact zq8 hb) (by rw [List.isEmpty_toArray]; exact h)
theorem div2 {k : Nat} {t u : Tok} (h : Q (.int ((k / 2 : Nat) : Int) tk₀) ⟨hp, gs, dr, tk₀ + 1, oo⟩) : wpAny (model prog w) A (binaryOp .FloorDiv (.int (k : Int) t) (.int 2 u)) Q E ⟨hp, gs, dr, tk₀, oo⟩ := by
  refine floordiv_int (by decide) ?_
  have e : (k : Int).fdiv 2 = ((k / 2 : Nat) : Int) := by rw [Int.fdiv_eq_ediv_of_nonneg _ (by decide)]; exact zq21
  rw [e]; exact h
theorem itemN0 {value slice : Expr} {u : Tok} (N : News h₀ L hp news) (hm : (l, listOf vs.toArray e) ∈ news) (hk : 0 < vs.length) (hb : vs.length < 1000) (h : Q (vs.getD 0 .none) ⟨hp, gs, dr, tk₀, oo⟩)
    (hs : subscripted slice false (.ref l) (.int 0 u) = operate [.ref l, .int 0 u] (getItem (.ref l) (.int 0 u))) (hg : ∀ r, letTemporaryGo value (.ref l) r = pure ()) :
    wpAny (model prog w) A (subscriptTail value slice (.ref l) (.int 0 u)) Q E ⟨hp, gs, dr, tk₀, oo⟩ := itemN (k := 0) N hm hk hb h hs hg
theorem setN0 {t : Tok} {v : Value} {Q : Unit → Shared → Prop} (F : Fr h₀ L hp m) (N : News h₀ L hp ((l, listOf vs.toArray e) :: news)) (hne : ∀ p ∈ news, p.1 ≠ l) (h1 : 0 < vs.length) (hb : vs.length < 1000)
    (h : ∀ h', Fr h₀ L h' m → News h₀ L h' ((l, listOf (vs.set 0 v).toArray e) :: news) → Q () ⟨h', gs, dr, tk₀, oo⟩) : wpAny (model prog w) A (setItem (.ref l) (.int 0 t) v) Q E ⟨hp, gs, dr, tk₀, oo⟩ := setN (k := 0) F N hne h1 hb h
theorem sub1 {k : Nat} {t u : Tok} (hk : 1 ≤ k) (h : Q (.int ((k - 1 : Nat) : Int) tk₀) ⟨hp, gs, dr, tk₀ + 1, oo⟩) : wpAny (model prog w) A (binaryOp .Sub (.int (k : Int) t) (.int 1 u)) Q E ⟨hp, gs, dr, tk₀, oo⟩ := by
  refine sub_int ?_
  have e : (k : Int) - 1 = ((k - 1 : Nat) : Int) := by exact zq22 hk
  rw [e]; exact h
end

section
variable {prog : Program} {w : World} {M : Model} {A : Around} {E : Value → Shared → Prop} {hp : Heap} {gs : Array GenState} {dr : Drawn} {tk₀ : Nat} {oo : OsState} {h₀ : Heap} {L : Addr} {m : Str → Option Value} {news : List (Addr × Obj)} {vs : List Value}
theorem tupN {Q : Value → Shared → Prop} (F : Fr h₀ L hp m) (N : News h₀ L hp news) (hz : vs.length < 1000) (h : ∀ D h', Fr h₀ L h' m → News h₀ L h' ((D, tupO vs) :: news) → (∀ p ∈ news, p.1 ≠ D) → Q (.ref D) ⟨h', gs, dr, tk₀, oo⟩) :
    wpAny M A (newTuple vs) Q E ⟨hp, gs, dr, tk₀, oo⟩ := kup_newTuple F N (fun D h' F' N' l => h D h' F' N' fun p hp => Nat.ne_of_lt (l p hp)) (by rw [sizeLine_eq]; exact zq19 hz)
theorem listN {Q : Value → Shared → Prop} (F : Fr h₀ L hp m) (N : News h₀ L hp news) (hz : vs.length < 1000) (h : ∀ D h', Fr h₀ L h' m → News h₀ L h' ((D, listOf vs.toArray 0) :: news) → (∀ p ∈ news, p.1 ≠ D) → Q (.ref D) ⟨h', gs, dr, tk₀, oo⟩) :
    wpAny M A (newList vs) Q E ⟨hp, gs, dr, tk₀, oo⟩ := newList_N F N (fun h' F' N' => h _ h' F' N' fun p hp => Nat.ne_of_lt (Heap.lt_size (N p hp).1)) (by rw [sizeLine_eq]; exact zq19 hz)
end
section
variable {M : Model} {A : Around} {rest : List Stmt} {env : Env} {Q : Flow → Shared → Prop} {E : Value → Shared → Prop} {s : Shared}
theorem sIfJ {test : Expr} {body orelse : List Stmt} {pos : Pos} (J : Shared → Prop) (h : wpAny M A (isTrue test env (eval test env))
      (fun b s₂ => if b = true then wpAny M A (execs body env) (fun f s' => f = .next ∧ J s') E s₂ else wpAny M A (execs orelse env) (fun f s' => f = .next ∧ J s') E s₂) E s) (hJ : ∀ s', J s' → wpAny M A (execs rest env) Q E s') :
    wpAny M A (execs (.If test body orelse pos :: rest) env) Q E s := by
  refine sIf (wpAny_mono h (fun b s₂ h₂ => ?_) fun _ _ x => x)
  cases b with
  | true => simp only [if_true] at h₂ ⊢; exact wpAny_mono h₂ (fun f s' q => by obtain ⟨rfl, q⟩ := q; exact hJ _ q) fun _ _ x => x
  | false => simp only [Bool.false_eq_true, if_false] at h₂ ⊢; exact wpAny_mono h₂ (fun f s' q => by obtain ⟨rfl, q⟩ := q; exact hJ _ q) fun _ _ x => x
theorem Sq.nil {v : Flow} (h : Q v s) : Sq M A [] env Q E v s := by cases v with
  | next => exact wpAny_execs_nil h
  | _ => exact h
end

-- steps on floats
theorem c0 : (0 : UInt64) = fl 0 := by decide +kernel
theorem cHalf : (4602678819172646912 : UInt64) = fl 536870912 := by decide +kernel
theorem c1 : (4607182418800017408 : UInt64) = fl 1073741824 := by decide +kernel
theorem c2 : (4611686018427387904 : UInt64) = fl 2147483648 := by decide +kernel
theorem c4 : (4616189618054758400 : UInt64) = fl 4294967296 := by decide +kernel
theorem c6 : (4618441417868443648 : UInt64) = fl 6442450944 := by decide +kernel
section
variable {prog : Program} {w : World} {M : Model} {A : Around} {E : Value → Shared → Prop} {hp : Heap} {gs : Array GenState} {dr : Drawn} {tk₀ : Nat} {oo : OsState} {env : Env} {Q : Value → Shared → Prop} {a b c : Int} {t u x : Tok} {k : Nat} {pos : Pos}
theorem fC0 (h : Q (.float (fl 0) tk₀) ⟨hp, gs, dr, tk₀ + 1, oo⟩) : wpAny M A (eval (.Constant (.float 0) k pos) env) Q E ⟨hp, gs, dr, tk₀, oo⟩ := by rw [← c0] at h; exact wpAny_Constant_float h
theorem fCh (h : Q (.float (fl 536870912) tk₀) ⟨hp, gs, dr, tk₀ + 1, oo⟩) : wpAny M A (eval (.Constant (.float 4602678819172646912) k pos) env) Q E ⟨hp, gs, dr, tk₀, oo⟩ := by rw [← cHalf] at h; exact wpAny_Constant_float h
theorem fC1 (h : Q (.float (fl 1073741824) tk₀) ⟨hp, gs, dr, tk₀ + 1, oo⟩) : wpAny M A (eval (.Constant (.float 4607182418800017408) k pos) env) Q E ⟨hp, gs, dr, tk₀, oo⟩ := by rw [← c1] at h; exact wpAny_Constant_float h
theorem fC2 (h : Q (.float (fl 2147483648) tk₀) ⟨hp, gs, dr, tk₀ + 1, oo⟩) : wpAny M A (eval (.Constant (.float 4611686018427387904) k pos) env) Q E ⟨hp, gs, dr, tk₀, oo⟩ := by rw [← c2] at h; exact wpAny_Constant_float h
theorem fC4 (h : Q (.float (fl 4294967296) tk₀) ⟨hp, gs, dr, tk₀ + 1, oo⟩) : wpAny M A (eval (.Constant (.float 4616189618054758400) k pos) env) Q E ⟨hp, gs, dr, tk₀, oo⟩ := by rw [← c4] at h; exact wpAny_Constant_float h
theorem fC6 (h : Q (.float (fl 6442450944) tk₀) ⟨hp, gs, dr, tk₀ + 1, oo⟩) : wpAny M A (eval (.Constant (.float 4618441417868443648) k pos) env) Q E ⟨hp, gs, dr, tk₀, oo⟩ := by rw [← c6] at h; exact wpAny_Constant_float h
theorem fAdd (ha : a.natAbs < 2 ^ 50) (hb : b.natAbs < 2 ^ 50) (h : Q (.float (fl (a + b)) tk₀) ⟨hp, gs, dr, tk₀ + 1, oo⟩) : wpAny (model prog w) A (binaryOp .Add (.float (fl a) t) (.float (fl b) u)) Q E ⟨hp, gs, dr, tk₀, oo⟩ := by
  rw [← add_fl (by exact zq23 ha) (by exact zq23 hb) (by exact zq24 ha hb)] at h; exact add_float h
theorem fSub (ha : a.natAbs < 2 ^ 50) (hb : b.natAbs < 2 ^ 50) (h : Q (.float (fl (a - b)) tk₀) ⟨hp, gs, dr, tk₀ + 1, oo⟩) : wpAny (model prog w) A (binaryOp .Sub (.float (fl a) t) (.float (fl b) u)) Q E ⟨hp, gs, dr, tk₀, oo⟩ := by
  rw [← sub_fl (by exact zq23 ha) (by exact zq23 hb) (by exact zq25 ha hb)] at h; exact sub_float h
theorem fMul (c : Int) (ha : a.natAbs < 2 ^ 53) (hb : b.natAbs < 2 ^ 53) (hc : c.natAbs < 2 ^ 53) (he : a * b = c * 2 ^ 30) (hs : (decide (a < 0) != decide (b < 0)) = decide (c < 0)) (h : Q (.float (fl c) tk₀) ⟨hp, gs, dr, tk₀ + 1, oo⟩) : wpAny (model prog w) A (binaryOp .Mult (.float (fl a) t) (.float (fl b) u)) Q E ⟨hp, gs, dr, tk₀, oo⟩ := by
  rw [← mul_fl ha hb hc he hs] at h; exact mul_float h
theorem fDiv (c : Int) (hh : A.handled = none) (ha : a.natAbs < 2 ^ 53) (hb : b.natAbs < 2 ^ 53) (hc : c.natAbs < 2 ^ 53) (hb0 : b ≠ 0) (he : a * 2 ^ 30 = b * c) (hs : (decide (a < 0) != decide (b < 0)) = decide (c < 0)) (h : Q (.float (fl c) tk₀) ⟨hp, gs, dr, tk₀ + 1, oo⟩) : wpAny (model prog w) A (binaryOp .Div (.float (fl a) t) (.float (fl b) u)) Q E ⟨hp, gs, dr, tk₀, oo⟩ := by
  rw [← div_fl ha hb hc hb0 he hs] at h
  exact truediv_float_or hh (fun hz => absurd hz (by rw [isZero_fl hb, decide_eq_false hb0]; simp)) fun _ => h
theorem fDivAny (hh : A.handled = none) (hb : b.natAbs < 2 ^ 53) (hb0 : b ≠ 0) (h : ∀ y, Q (.float y tk₀) ⟨hp, gs, dr, tk₀ + 1, oo⟩) : wpAny (model prog w) A (binaryOp .Div (.float (fl a) t) (.float (fl b) u)) Q E ⟨hp, gs, dr, tk₀, oo⟩ :=
  truediv_float_or hh (fun hz => absurd hz (by rw [isZero_fl hb, decide_eq_false hb0]; simp)) fun _ => h _
theorem fMod1 (hh : A.handled = none) (ha : a.natAbs < 2 ^ 52) (h : Q (.float (fl (a % 1073741824)) tk₀) ⟨hp, gs, dr, tk₀ + 1, oo⟩) : wpAny (model prog w) A (binaryOp .Mod (.float (fl a) t) (.float (fl 1073741824) u)) Q E ⟨hp, gs, dr, tk₀, oo⟩ := by
  refine Flt.mod_ff hh (fun hz => absurd hz (by rw [isZero_fl (by decide)]; decide)) fun _ => ?_
  have e := mod1_fl ha
  rw [show (2 : Int) ^ 30 = 1073741824 by decide] at e
  rw [e]; exact h
theorem iDivF (c : Int) (hh : A.handled = none) (ha : a.natAbs < 2 ^ 60) (hb : 0 < b) (hc : c.natAbs < 2 ^ 53) (he : a * 2 ^ 30 = b * c) (h : Q (.float (fl c) tk₀) ⟨hp, gs, dr, tk₀ + 1, oo⟩) : wpAny (model prog w) A (binaryOp .Div (.int a t) (.int b u)) Q E ⟨hp, gs, dr, tk₀, oo⟩ := by
  refine Flt.div_ii_fits hh (Nat.lt_of_lt_of_le ha (Nat.pow_le_pow_right (by decide) (by decide))) (fun hz => by exact (zq26 hb hz).elim) fun _ _ => ?_
  have hsg : (decide (a < 0) != decide (b < 0)) = decide (c < 0) := by
    rw [decide_eq_false (show ¬ b < 0 by exact zq27 hb)]
    have : a < 0 ↔ c < 0 := by
      constructor
      · intro q
        by_cases q2 : c < 0
        · exact q2
        · have := Int.mul_nonneg (show 0 ≤ b by exact zq28 hb) (show 0 ≤ c by exact zq29 q2); exact zq30 he q this
      · intro q
        have := Int.mul_neg_of_pos_of_neg hb q; exact zq31 he this
    by_cases q : a < 0
    · rw [decide_eq_true q, decide_eq_true (this.mp q)]; rfl
    · rw [decide_eq_false q, decide_eq_false (fun z => q (this.mpr z))]; rfl
  rw [frac_fl (c := c) (by exact zq32 hb) hc ?_ hsg]
  · exact h
  · have := congrArg Int.natAbs he
    rw [Int.natAbs_mul, Int.natAbs_mul] at this; exact this
theorem fDivI2 (hh : A.handled = none) (ha : a.natAbs < 2 ^ 50) (he : a = 2 * c) (h : Q (.float (fl c) tk₀) ⟨hp, gs, dr, tk₀ + 1, oo⟩) : wpAny (model prog w) A (binaryOp .Div (.float (fl a) t) (.int 2 u)) Q E ⟨hp, gs, dr, tk₀, oo⟩ := by
  refine Flt.truediv_fi hh (fun hz => absurd hz (by unfold Flt.Over; decide +kernel)) (fun hz => absurd hz (by decide)) fun _ _ => ?_
  rw [ofInt_fl (by decide), div_fl (c := c) (by exact zq23 ha) (by decide) (by exact zq33 ha he (by assumption)) (by decide) (by exact zq34 he)]
  · exact h
  · rw [decide_eq_false (show ¬ (2 : Int) * 2 ^ 30 < 0 by decide)]
    by_cases q : a < 0
    · rw [decide_eq_true q, decide_eq_true (show c < 0 by exact zq35 he q)]; rfl
    · rw [decide_eq_false q, decide_eq_false (show ¬ c < 0 by exact zq36 he q)]; rfl
theorem fSubI (hh : A.handled = none) (ha : a.natAbs < 2 ^ 50) (hb : b.natAbs < 2 ^ 19) (h : Q (.float (fl (a - b * 1073741824)) tk₀) ⟨hp, gs, dr, tk₀ + 1, oo⟩) : wpAny (model prog w) A (binaryOp .Sub (.float (fl a) t) (.int b u)) Q E ⟨hp, gs, dr, tk₀, oo⟩ := by
  have hlt : b.natAbs < 2 ^ 1024 - 2 ^ 970 := Nat.lt_of_lt_of_le hb (by decide +kernel)
  refine sub_fi_sharp hh (fun hz => absurd hz (Nat.not_le.mpr hlt)) fun _ => ?_
  have e : b * 2 ^ 30 = b * 1073741824 := by exact zq37
  rw [ofInt_fl (by exact zq38 hb), sub_fl (by exact zq23 ha) (by exact zq39 hb) (by exact zq40 ha hb), e]; exact h
theorem fEq (ha : a.natAbs < 2 ^ 53) (hb : b.natAbs < 2 ^ 53) (h : Q (.bool (decide (a = b))) ⟨hp, gs, dr, tk₀, oo⟩) : wpAny (model prog w) A (compareOp .Eq (.float (fl a) t) (.float (fl b) u)) Q E ⟨hp, gs, dr, tk₀, oo⟩ := by
  rw [← eq_fl ha hb] at h; exact AutoFloatOps.eq_0 h
theorem fNe (ha : a.natAbs < 2 ^ 53) (hb : b.natAbs < 2 ^ 53) (h : Q (.bool (!decide (a = b))) ⟨hp, gs, dr, tk₀, oo⟩) : wpAny (model prog w) A (compareOp .NotEq (.float (fl a) t) (.float (fl b) u)) Q E ⟨hp, gs, dr, tk₀, oo⟩ := by
  rw [← eq_fl ha hb] at h; exact AutoFloatOps.ne_0 h
theorem fLeAny {y z : UInt64} (h : ∀ r, Q (.bool r) ⟨hp, gs, dr, tk₀, oo⟩) : wpAny (model prog w) A (compareOp .LtE (.float y t) (.float z u)) Q E ⟨hp, gs, dr, tk₀, oo⟩ := AutoFloatOps.le_0 (h _)
theorem fInt (hh : A.handled = none) (h0 : 0 ≤ a) (ha : a.natAbs < 2 ^ 53) (h : Q (.int (a / 1073741824) tk₀) ⟨hp, gs, dr, tk₀ + 1, oo⟩) : wpAny (model prog w) A (call (.type "int") [.float (fl a) t]) Q E ⟨hp, gs, dr, tk₀, oo⟩ := by
  have hf := finite_fl ha
  refine Flt.call_int_float3 hh (fun q => absurd q (by rw [notNaN_fl ha]; simp)) (fun q => absurd q ?_) fun _ => ?_
  · obtain ⟨m, e, hd, _⟩ := fl_dec ha
    unfold Float64.isInf; rw [hd]; simp
  · rw [toInt_fl h0 ha, show (2 : Int) ^ 30 = 1073741824 by decide]; exact h
end
theorem CmpOf.fl_gt {prog : Program} {w : World} {A : Around} {P : Nat → Value → Prop} (val : Nat → Int) (hval : ∀ i v, P i v → (val i).natAbs < 2 ^ 53 ∧ ∃ t, v = .float (fl (val i)) t) : CmpOf prog w A .Gt P (fun i j => decide (val j < val i)) := fun i j vi vj s Q E hi hj h => by
  obtain ⟨b1, t, rfl⟩ := hval i vi hi
  obtain ⟨b2, u, rfl⟩ := hval j vj hj
  dsimp only at h
  rw [← gt_fl b1 b2] at h
  exact AutoFloatOps.gt_0 (A := A) (Q := Q) (E := E) (s := s) h
theorem CmpOf.fl_lt {prog : Program} {w : World} {A : Around} {P : Nat → Value → Prop} (val : Nat → Int) (hval : ∀ i v, P i v → (val i).natAbs < 2 ^ 53 ∧ ∃ t, v = .float (fl (val i)) t) : CmpOf prog w A .Lt P (fun i j => decide (val i < val j)) := fun i j vi vj s Q E hi hj h => by
  obtain ⟨b1, t, rfl⟩ := hval i vi hi
  obtain ⟨b2, u, rfl⟩ := hval j vj hj
  dsimp only at h
  rw [← lt_fl b1 b2] at h
  exact AutoFloatOps.lt_0 (A := A) (Q := Q) (E := E) (s := s) h
noncomputable def at3 (a b c : Int) : Nat → Int
  | 0 => a
  | 1 => b
  | _ => c
theorem at3_of {a b c : Int} {t u x : Tok} (ha : a.natAbs < 2 ^ 53) (hb : b.natAbs < 2 ^ 53) (hc : c.natAbs < 2 ^ 53) (i : Nat) (v : Value) (h : (#[Value.float (fl a) t, .float (fl b) u, .float (fl c) x] : Array Value)[i]? = some v) : (at3 a b c i).natAbs < 2 ^ 53 ∧ ∃ t', v = .float (fl (at3 a b c i)) t' := by
  match i, h with
  | 0, h => exact ⟨ha, t, (Option.some.inj h).symm⟩
  | 1, h => exact ⟨hb, u, (Option.some.inj h).symm⟩
  | 2, h => exact ⟨hc, x, (Option.some.inj h).symm⟩
  | n + 3, h => simp at h
theorem best_max (a b c : Int) : at3 a b c (argBest (fun i j => decide (at3 a b c j < at3 a b c i)) 2) = max (max a b) c := by
  have e1 : argBest (fun i j => decide (at3 a b c j < at3 a b c i)) 1 = if a < b then 1 else 0 := by simp [argBest, at3]
  show at3 a b c (if (fun i j => decide (at3 a b c j < at3 a b c i)) 2 (argBest (fun i j => decide (at3 a b c j < at3 a b c i)) 1) = true then 2 else argBest (fun i j => decide (at3 a b c j < at3 a b c i)) 1) = _
  rw [e1]
  by_cases h1 : a < b
  · rw [if_pos h1]
    by_cases h2 : b < c
    · rw [if_pos (by simpa [at3] using h2)]; show c = _; exact zq41 h1 h2
    · rw [if_neg (by simpa [at3] using h2)]; show b = _; exact zq42 h1 h2
  · rw [if_neg h1]
    by_cases h2 : a < c
    · rw [if_pos (by simpa [at3] using h2)]; show c = _; exact zq43 h1 h2
    · rw [if_neg (by simpa [at3] using h2)]; show a = _; exact zq44 h1 h2
theorem best_min (a b c : Int) : at3 a b c (argBest (fun i j => decide (at3 a b c i < at3 a b c j)) 2) = min (min a b) c := by
  have e1 : argBest (fun i j => decide (at3 a b c i < at3 a b c j)) 1 = if b < a then 1 else 0 := by simp [argBest, at3]
  show at3 a b c (if (fun i j => decide (at3 a b c i < at3 a b c j)) 2 (argBest (fun i j => decide (at3 a b c i < at3 a b c j)) 1) = true then 2 else argBest (fun i j => decide (at3 a b c i < at3 a b c j)) 1) = _
  rw [e1]
  by_cases h1 : b < a
  · rw [if_pos h1]
    by_cases h2 : c < b
    · rw [if_pos (by simpa [at3] using h2)]; show c = _; exact zq45 h1 h2
    · rw [if_neg (by simpa [at3] using h2)]; show b = _; exact zq46 h1 h2
  · rw [if_neg h1]
    by_cases h2 : c < a
    · rw [if_pos (by simpa [at3] using h2)]; show c = _; exact zq47 h1 h2
    · rw [if_neg (by simpa [at3] using h2)]; show a = _; exact zq48 h1 h2
section
variable {prog : Program} {w : World} {A : Around} {E : Value → Shared → Prop} {hp : Heap} {gs : Array GenState} {dr : Drawn} {tk₀ : Nat} {oo : OsState} {Q : Value → Shared → Prop} {a b c : Int} {t u x : Tok} {h₀ : Heap} {L : Addr} {m : Str → Option Value} {news : List (Addr × Obj)}
theorem max3 (hh : A.handled = none) (ha : a.natAbs < 2 ^ 53) (hb : b.natAbs < 2 ^ 53) (hc : c.natAbs < 2 ^ 53) (F : Fr h₀ L hp m) (N : News h₀ L hp news)
    (h : ∀ h' tk t', Fr h₀ L h' m → News h₀ L h' news → tk₀ ≤ tk → Q (.float (fl (max (max a b) c)) t') ⟨h', gs, dr, tk, oo⟩) :
    wpAny (model prog w) A (call (.builtin "max") [.float (fl a) t, .float (fl b) u, .float (fl c) x]) Q E ⟨hp, gs, dr, tk₀, oo⟩ := by
  refine wpAny_mt ?_
  have hT : (hp.push { cls := .type "tuple", data := .seq #[.float (fl a) t, .float (fl b) u, .float (fl c) x] }).IsTuple hp.objs.size #[.float (fl a) t, .float (fl b) u, .float (fl c) x] := ⟨_, Heap.get?_push_size _ rfl, rfl, 0, rfl⟩
  have hsz : (hp.push { cls := .type "tuple", data := .seq #[.float (fl a) t, .float (fl b) u, .float (fl c) x] }).objs.size = hp.objs.size + 1 := Heap.size_push ..
  refine call_max_three (wpAny_pyIter_tuple hT ?_)
  refine ⟨_, [_, hp.objs.size], [_], _, _, _, _, rfl, Walks.tuple (A := A.in1) hh _ hp.objs.size (by show _ ≠ (hp.push _).objs.size; rw [hsz]; exact Nat.ne_of_lt (Nat.lt_succ_self _)) #[.float (fl a) t, .float (fl b) u, .float (fl c) x],
    ⟨⟨_, Heap.get?_push_size _ rfl, rfl, rfl⟩, hT.push _⟩, fun d hd => ?_, by simp, CmpOf.fl_gt (at3 a b c) (at3_of ha hb hc), fun v h' tk hP hk => ?_⟩
  · show d < ((hp.push _).push _).objs.size
    rw [Heap.size_push, hsz]
    rcases List.mem_cons.mp hd with rfl | hd
    · show (hp.push _).objs.size < _; rw [hsz]; exact Nat.lt_succ_self _
    · rcases List.mem_cons.mp hd with rfl | hd
      · exact Nat.lt_succ_of_lt (Nat.lt_succ_self _)
      · cases hd
  · have hold : ∀ d o, hp.get? d = some o → h'.get? d = some o := fun d o e => by
      refine hk d o (fun hm => ?_) (Heap.get?_push_of_some _ (Heap.get?_push_of_some _ e))
      rcases List.mem_cons.mp hm with e1 | hm
      · have := Heap.lt_size e; rw [e1] at this; have h2 : (hp.push _).objs.size < hp.objs.size := this; rw [hsz] at h2; exact zq49 h2
      · cases hm
    intro htk
    obtain ⟨_, t', rfl⟩ := at3_of ha hb hc _ _ hP
    have e := best_max a b c
    have := h h' tk t' (F.kept hold) (N.grown hold) htk
    rw [← e] at this
    exact this
theorem min3 (hh : A.handled = none) (ha : a.natAbs < 2 ^ 53) (hb : b.natAbs < 2 ^ 53) (hc : c.natAbs < 2 ^ 53) (F : Fr h₀ L hp m) (N : News h₀ L hp news)
    (h : ∀ h' tk t', Fr h₀ L h' m → News h₀ L h' news → tk₀ ≤ tk → Q (.float (fl (min (min a b) c)) t') ⟨h', gs, dr, tk, oo⟩) :
    wpAny (model prog w) A (call (.builtin "min") [.float (fl a) t, .float (fl b) u, .float (fl c) x]) Q E ⟨hp, gs, dr, tk₀, oo⟩ := by
  refine wpAny_mt ?_
  have hT : (hp.push { cls := .type "tuple", data := .seq #[.float (fl a) t, .float (fl b) u, .float (fl c) x] }).IsTuple hp.objs.size #[.float (fl a) t, .float (fl b) u, .float (fl c) x] := ⟨_, Heap.get?_push_size _ rfl, rfl, 0, rfl⟩
  have hsz : (hp.push { cls := .type "tuple", data := .seq #[.float (fl a) t, .float (fl b) u, .float (fl c) x] }).objs.size = hp.objs.size + 1 := Heap.size_push ..
  refine call_min_three (wpAny_pyIter_tuple hT ?_)
  refine ⟨_, [_, hp.objs.size], [_], _, _, _, _, rfl, Walks.tuple (A := A.in1) hh _ hp.objs.size (by show _ ≠ (hp.push _).objs.size; rw [hsz]; exact Nat.ne_of_lt (Nat.lt_succ_self _)) #[.float (fl a) t, .float (fl b) u, .float (fl c) x],
    ⟨⟨_, Heap.get?_push_size _ rfl, rfl, rfl⟩, hT.push _⟩, fun d hd => ?_, by simp, CmpOf.fl_lt (at3 a b c) (at3_of ha hb hc), fun v h' tk hP hk => ?_⟩
  · show d < ((hp.push _).push _).objs.size
    rw [Heap.size_push, hsz]
    rcases List.mem_cons.mp hd with rfl | hd
    · show (hp.push _).objs.size < _; rw [hsz]; exact Nat.lt_succ_self _
    · rcases List.mem_cons.mp hd with rfl | hd
      · exact Nat.lt_succ_of_lt (Nat.lt_succ_self _)
      · cases hd
  · have hold : ∀ d o, hp.get? d = some o → h'.get? d = some o := fun d o e => by
      refine hk d o (fun hm => ?_) (Heap.get?_push_of_some _ (Heap.get?_push_of_some _ e))
      rcases List.mem_cons.mp hm with e1 | hm
      · have := Heap.lt_size e; rw [e1] at this; have h2 : (hp.push _).objs.size < hp.objs.size := this; rw [hsz] at h2; exact zq49 h2
      · cases hm
    intro htk
    obtain ⟨_, t', rfl⟩ := at3_of ha hb hc _ _ hP
    have e := best_min a b c
    have := h h' tk t' (F.kept hold) (N.grown hold) htk
    rw [← e] at this
    exact this
end

theorem mulOk {a b : Int} (h : a.natAbs < 2 ^ 60) : IntMulOk a b := by
  refine IntMulOk.of_left ?_
  unfold Builtin.Int.intBits
  split
  · decide
  · rename_i h0
    have h1 : a.natAbs ≠ 0 := by intro q; exact h0 (by simp; exact zq50 q)
    have := (Nat.log2_lt h1).mpr h
    exact zq51 this
theorem mulB {a b A B : Int} (h0 : 0 ≤ a) (h1 : a ≤ A) (h2 : 0 ≤ b) (h3 : b ≤ B) : 0 ≤ a * b ∧ a * b ≤ A * B := ⟨Int.mul_nonneg h0 h2, Int.mul_le_mul h1 h3 h2 (by exact zq52 h0 h1)⟩
noncomputable def TI (o : Obj) (l : Addr) (i : Nat) : Prop := o.cls = .type "tuple_iterator" ∧ o.data = .fields #[.ref l, .int i 0]
section
variable {prog : Program} {w : World} {M : Model} {A : Around} {E : Value → Shared → Prop} {hp : Heap} {gs : Array GenState} {dr : Drawn} {tk₀ : Nat} {oo : OsState} {h₀ : Heap} {L : Addr} {m : Str → Option Value} {news : List (Addr × Obj)} {vs : List Value} {Q : Value → Shared → Prop} {a b : Int} {t u : Tok}
theorem iMod (hb : 0 < b) (h : Q (.int (a % b) tk₀) ⟨hp, gs, dr, tk₀ + 1, oo⟩) : wpAny (model prog w) A (binaryOp .Mod (.int a t) (.int b u)) Q E ⟨hp, gs, dr, tk₀, oo⟩ :=
  mod_int (by exact zq53 hb) (by rw [Int.fmod_eq_emod_of_nonneg _ (by exact zq28 hb)]; exact h)
theorem iFloor (hb : 0 < b) (hs : b.natAbs < 1073741824) (h : Q (.int (a / b) tk₀) ⟨hp, gs, dr, tk₀ + 1, oo⟩) : wpAny (model prog w) A (binaryOp .FloorDiv (.int a t) (.int b u)) Q E ⟨hp, gs, dr, tk₀, oo⟩ :=
  floordiv_int (by exact zq53 hb) (by rw [Int.fdiv_eq_ediv_of_nonneg _ (by exact zq28 hb)]; exact h) (.inl (PyProof.noPylong_small hs))
theorem iMin (hh : A.handled = none) (F : Fr h₀ L hp m) (N : News h₀ L hp news) (h : ∀ h' tk t', Fr h₀ L h' m → News h₀ L h' news → tk₀ ≤ tk → Q (.int (min a b) t') ⟨h', gs, dr, tk, oo⟩) : wpAny (model prog w) A (call (.builtin "min") [.int a t, .int b u]) Q E ⟨hp, gs, dr, tk₀, oo⟩ := by
  refine wpAny_mt (min_two_N hh F N fun h' tk F' N' htk => ?_)
  have e : (if b < a then b else a) = min a b := by split <;> (first | exact zq54 (by assumption) | exact zq55 (by assumption))
  rw [e]; exact h _ _ _ F' N' htk
theorem iMax (hh : A.handled = none) (F : Fr h₀ L hp m) (N : News h₀ L hp news) (h : ∀ h' tk t', Fr h₀ L h' m → News h₀ L h' news → tk₀ ≤ tk → Q (.int (max a b) t') ⟨h', gs, dr, tk, oo⟩) : wpAny (model prog w) A (call (.builtin "max") [.int a t, .int b u]) Q E ⟨hp, gs, dr, tk₀, oo⟩ := by
  refine wpAny_mt (max_two_N hh F N fun h' tk F' N' htk => ?_)
  have e : (if b > a then b else a) = max a b := by split <;> (first | exact zq56 (by assumption) | exact zq57 (by assumption))
  rw [e]; exact h _ _ _ F' N' htk
theorem tupleOf {l : Addr} {e : Nat} (F : Fr h₀ L hp m) (N : News h₀ L hp news) (hm : (l, listOf vs.toArray e) ∈ news) (hb : vs.length < 1000)
    (h : ∀ D h', Fr h₀ L h' m → News h₀ L h' ((D, tupO vs) :: news) → (∀ p ∈ news, p.1 ≠ D) → Q (.ref D) ⟨h', gs, dr, tk₀, oo⟩) : wpAny (model prog w) A (call (.type "tuple") [.ref l]) Q E ⟨hp, gs, dr, tk₀, oo⟩ :=
  kde_tupleOf F N (N.isList hm) (by rw [List.size_toArray]; exact zq58 hb) rfl fun D h' F' N' l => h D h' F' N' fun p hp => Nat.ne_of_lt (l p hp)
theorem iterTup {l : Addr} {vs : List Value} (F : Fr h₀ L hp m) (N : News h₀ L hp news) (hm : (l, tupO vs) ∈ news)
    (h : ∀ I o h', Fr h₀ L h' m → News h₀ L h' ((I, o) :: news) → TI o l 0 → (∀ p ∈ news, p.1 ≠ I) → Q (.ref I) ⟨h', gs, dr, tk₀, oo⟩) : wpAny (model prog w) A (pyIter (.ref l)) Q E ⟨hp, gs, dr, tk₀, oo⟩ :=
  wpAny_pyIter_tuple ⟨_, (N _ hm).1, rfl, _, rfl⟩ (h _ _ _ (F.push _) (N.push F _) ⟨rfl, rfl⟩ fun p hp => Nat.ne_of_lt (Heap.lt_size (N p hp).1))
theorem nextTup {I l : Addr} {i : Nat} {o : Obj} {Q : Option Value → Shared → Prop} (hh : A.handled = none) (F : Fr h₀ L hp m) (N : News h₀ L hp ((I, o) :: news)) (ho : TI o l i) (hne : ∀ p ∈ news, p.1 ≠ I) (hm : (l, tupO vs) ∈ news)
    (h1 : ∀ o' h', i < vs.length → Fr h₀ L h' m → News h₀ L h' ((I, o') :: news) → TI o' l (i + 1) → Q (some (vs.getD i .none)) ⟨h', gs, dr, tk₀, oo⟩)
    (h2 : ∀ h', vs.length ≤ i → Fr h₀ L h' m → News h₀ L h' news → Q none ⟨h', gs, dr, tk₀, oo⟩) : wpAny (model prog w) A (pyNext (.ref I)) Q E ⟨hp, gs, dr, tk₀, oo⟩ := by
  have hit : hp.IsTupleIter I l i := ⟨o, (N _ (.head _)).1, ho.1, ho.2⟩
  have ht : hp.IsTuple l vs.toArray := ⟨_, (N _ (.tail _ hm)).1, rfl, _, rfl⟩
  by_cases hi : i < vs.length
  · refine wpAny_pyNext_tuple_item hit ht (x := vs.getD i .none) (by rw [List.getElem?_toArray]; exact getD_get hi) fun h' hit' hs => ?_
    obtain ⟨o', ho', hc, hd⟩ := hit'
    exact h1 o' h' hi (fset F N hs) (nset N hne hs ho') ⟨hc, hd⟩
  · exact wpAny_pyNext_tuple_end hh hit ht (by simp; exact zq9 hi) fun h' hs => h2 h' (by exact zq9 hi) (fext F N hs) (next N hne hs)
theorem iMulS (ha : a.natAbs < 2 ^ 60) (h : Q (.int (a * b) tk₀) ⟨hp, gs, dr, tk₀ + 1, oo⟩) : wpAny (model prog w) A (binaryOp .Mult (.int a t) (.int b u)) Q E ⟨hp, gs, dr, tk₀, oo⟩ := iMul h (mulOk ha)
end
noncomputable def fall (spot corner : Int) : Int := min (max (min ((6 * spot - corner) % 6144) (6144 - (6 * spot - corner) % 6144) - 1024) 0) 1024
noncomputable def col (spot share level corner : Int) : Int := level * (8192 - share * fall spot corner) * 16384
theorem fall_b (spot corner : Int) : 0 ≤ fall spot corner ∧ fall spot corner ≤ 1024 := by unfold fall; exact zq59
theorem col_b {spot share level corner : Int} (hs : 1 ≤ share ∧ share ≤ 8) (hl : 1 ≤ level ∧ level ≤ 8) : 0 ≤ col spot share level corner ∧ col spot share level corner ≤ 1073741824 := by
  have h1 := fall_b spot corner
  have h2 := mulB (a := share) (b := fall spot corner) (A := 8) (B := 1024) (by exact zq60 hs) (by exact zq61 hs) h1.1 h1.2
  have h3 := mulB (a := level) (b := 8192 - share * fall spot corner) (A := 8) (B := 8192) (by exact zq60 hl) (by exact zq61 hl) (by exact zq62 h2) (by exact zq63 h2)
  unfold col; exact zq64 h3

local macro_rules | `(tactic| kt_at_method) => `(tactic| with_unfolding_all rfl)
local macro_rules | `(tactic| kt_at_in) => `(tactic| first | with_reducible assumption | with_reducible exact St.hit (by assumption) | ((with_reducible refine St.get (by assumption) (by decide) ?_); kt_at_in) | exact St.hit (by assumption) | exact if_pos rfl | (refine (if_neg (by decide)).trans ?_; kt_at_in))
local macro_rules | `(tactic| kt_at_item) => `(tactic| with_reducible first
  | refine ldL (by kt_at_method) (by assumption) (by kt_at_method) (by kt_at_in) ?_ (by kt_at_method) (by decide)
  | refine wpAny_BinOp ?_
  | refine Subscript_ ?_
  | refine cInt ?_
  | refine fC1 ?_
  | refine fC0 ?_
  | refine fC2 ?_
  | refine fC6 ?_
  | refine fCh ?_
  | refine fC4 ?_
  | refine Tuple_ ?_
  | refine List_ ?_
  | (refine stS (by kt_at_method) (by assumption) (by assumption) (by kt_at_method) ?_ (by kt_at_method); intro _ _ _ _ _)
  | refine iteT ?_
  | refine iteF ?_
  | refine sAssign ?_ (by kt_at_method)
  | refine iSub ?_
  | refine iAdd ?_
  | refine wpAny_isTrue_Compare1 ?_ (by kt_at_method)
  | refine wpAny_Compare1 ?_ (by kt_at_method)
  | refine gt_int ?_
  | refine lt_int ?_
  | refine eq_int ?_
  | refine wpAny_truthy_bool ?_
  | refine sSet ?_ (by kt_at_method)
  | refine sRet ?_
  | refine sExpr ?_ (by kt_at_method) (by kt_at_method)
  | refine sCont ?_
  | refine sBreak ?_
  | refine nameGL (by kt_at_method) (by constructor) (by assumption) (by assumption) ?_ (by kt_at_method) (by kt_at_method)
  | refine nameBL (by kt_at_method) (by constructor) (by assumption) (by assumption) ?_ (by kt_at_method) (by kt_at_method) (by kt_at_method)
  | refine MethodCall_ ?_ (by kt_at_method)
  | refine callWith_method0 ?_
  | refine callWith_method1 ?_ (by kt_at_method) (by kt_at_method)
  | refine PyProof.Rows.callWith_type1 ?_ (by kt_at_method) (by kt_at_method)
  | refine sFor ?_ (by intro _; with_unfolding_all rfl)
  | refine PyProof.Rows.assign_Name ?_
  | refine isTrue_plain ?_ (by kt_at_method)
  | refine Call_ ?_ (by kt_at_method)
  | refine callKF (by assumption) (by constructor) ?_ (by kt_at_method) (by kt_at_method)
  | refine PyProof.Rows.callWith_builtin1 ?_ (by kt_at_method) (by kt_at_method)
  | refine spliced_more ?_ (by kt_at_method)
  | refine spliced_none ?_
  | refine kin (by assumption) (by assumption) ?_
  | refine wpAny_isTrue_BoolOp ?_
  | refine wpAny_allTrue_And_cons ?_
  | refine wpAny_allTrue_And_nil ?_
  | refine wpAny_isTrue_Not ?_
  | refine wpAny_execs_nil ?_
  | refine Sq.nx ?_
  | refine Sq.bk ?_
  | refine Sq.ct ?_
  | refine Sq.rt ?_)
local macro_rules | `(tactic| kt_at_get) => `(tactic| first | kt_at_item | with_reducible refine sIf ?_)
local macro_rules | `(tactic| kt_ors) => `(tactic| first | with_reducible exact List.mem_cons_self | with_reducible assumption | (with_reducible refine List.mem_cons_of_mem _ ?_; kt_ors) | (with_reducible refine List.mem_append_left _ ?_; kt_ors) | (with_reducible refine List.mem_append_right _ ?_; kt_ors) | exact List.Mem.head _)
local macro_rules | `(tactic| lcg_sub) => `(tactic| first | exact List.forall_mem_nil _ | exact fun _ h9 => h9 | (with_reducible refine List.forall_mem_cons.mpr (And.intro ?_ ?_); (· kt_ors); (· lcg_sub)) | (with_reducible refine List.forall_mem_append.mpr (And.intro ?_ ?_); (· lcg_sub); (· lcg_sub)) | (intro _ _; kt_ors))
-- pure sift down (towards the root)
noncomputable def sdLoop (lt : Value → Value → Bool) (start : Nat) (x : Value) (vs : List Value) (pos : Nat) : List Value × Nat :=
  if h : start < pos then
    if lt x (vs.getD ((pos - 1) / 2) .none) then sdLoop lt start x (vs.set pos (vs.getD ((pos - 1) / 2) .none)) ((pos - 1) / 2) else (vs, pos)
  else (vs, pos)
termination_by pos
decreasing_by exact zq121 h
noncomputable def sdown (lt : Value → Value → Bool) (vs : List Value) (start pos : Nat) : List Value :=
  let r := sdLoop lt start (vs.getD pos .none) vs pos
  r.1.set r.2 (vs.getD pos .none)

theorem LtOK.mono {prog : Program} {w : World} {news : List (Addr × Obj)} {lt : Value → Value → Bool} {vs vs' : List Value} (h : LtOK prog w news lt vs) (hs : ∀ v ∈ vs', v ∈ vs) : LtOK prog w news lt vs' :=
  fun v hv u hu => h v (hs v hv) u (hs u hu)
theorem sdLoop_step {lt : Value → Value → Bool} {start : Nat} {x : Value} {vs : List Value} {pos : Nat} (h : start < pos) (h2 : lt x (vs.getD ((pos - 1) / 2) .none) = true) :
    sdLoop lt start x vs pos = sdLoop lt start x (vs.set pos (vs.getD ((pos - 1) / 2) .none)) ((pos - 1) / 2) := by
  rw [sdLoop, dif_pos h, if_pos h2]
theorem sdLoop_stop {lt : Value → Value → Bool} {start : Nat} {x : Value} {vs : List Value} {pos : Nat} (h : start < pos → lt x (vs.getD ((pos - 1) / 2) .none) = false) :
    sdLoop lt start x vs pos = (vs, pos) := by
  rw [sdLoop]
  split
  · rename_i q; rw [if_neg (by rw [h q]; simp)]
  · rfl

theorem ltq {a b c : Nat} (h : a = b) (h2 : b < c) : a < c := h ▸ h2
theorem set_sub {vs vs' : List Value} {k : Nat} {v : Value} (h : ∀ u ∈ vs', u ∈ vs) (hv : v ∈ vs) : ∀ u ∈ vs'.set k v, u ∈ vs := fun u hu =>
  (List.mem_or_eq_of_mem_set hu).elim (h u) fun e => e ▸ hv
structure SdD (lt : Value → Value → Bool) (start : Nat) (x : Value) (vs vs' : List Value) (pos k : Nat) : Prop where
  len : vs'.length = vs.length
  lt' : k < vs.length
  sub : ∀ v ∈ vs', v ∈ vs
  eq : sdLoop lt start x vs' k = sdLoop lt start x vs pos
theorem SdD.par {lt : Value → Value → Bool} {start : Nat} {x : Value} {vs vs' : List Value} {pos k : Nat} (d : SdD lt start x vs vs' pos k) : (k - 1) / 2 < vs'.length := by have := d.len; have := d.lt'; exact zq122 (by assumption) this
theorem SdD.step {lt : Value → Value → Bool} {start : Nat} {x : Value} {vs vs' : List Value} {pos k : Nat} (d : SdD lt start x vs vs' pos k) (h : start < k) (h2 : lt x (vs'.getD ((k - 1) / 2) .none) = true) :
    SdD lt start x vs (vs'.set k (vs'.getD ((k - 1) / 2) .none)) pos ((k - 1) / 2) :=
  ⟨(List.length_set ..).trans d.len, ltq rfl (d.len ▸ d.par), set_sub d.sub (d.sub _ (getD_mem d.par)), (sdLoop_step h h2).symm.trans d.eq⟩
theorem half_lt {start k : Nat} (h : start < k) : (k - 1) / 2 < k := by exact zq121 h
inductive SdI (g : Heap) (L' l : Addr) (e : Nat) (news : List (Addr × Obj)) (x : Value) (t1 : Tok) (lt : Value → Value → Bool) (start : Nat) (vs : List Value) (pos k : Nat) (h' : Heap) (tk : Nat) : Prop
  | mk (m₂ : Str → Option Value) (vs' : List Value) (t : Tok) (F : Fr g L' h' m₂) (N : News g L' h' ((l, listOf vs'.toArray e) :: news)) (d : SdD lt start x vs vs' pos k)
    (q1 : m₂ (Str.ofString "heap") = some (.ref l)) (q2 : m₂ (Str.ofString "startpos") = some (.int start t1)) (q3 : m₂ (Str.ofString "pos") = some (.int k t)) (q4 : m₂ (Str.ofString "newitem") = some x) : SdI g L' l e news x t1 lt start vs pos k h' tk
inductive SdZ (g : Heap) (L' l : Addr) (e : Nat) (news : List (Addr × Obj)) (x : Value) (lt : Value → Value → Bool) (start : Nat) (vs : List Value) (pos : Nat) (h' : Heap) (tk : Nat) : Prop
  | mk (m₂ : Str → Option Value) (vs' : List Value) (k : Nat) (t : Tok) (F : Fr g L' h' m₂) (N : News g L' h' ((l, listOf vs'.toArray e) :: news)) (hk : k < vs'.length) (hb : vs'.length < 1000)
    (q1 : m₂ (Str.ofString "heap") = some (.ref l)) (q3 : m₂ (Str.ofString "pos") = some (.int k t)) (q4 : m₂ (Str.ofString "newitem") = some x) (q5 : sdLoop lt start x vs pos = (vs', k)) : SdZ g L' l e news x lt start vs pos h' tk
theorem siftdown_call {prog : Program} {w : World} {n : Nat} {A : Around} {h₀ : Heap} {L l : Addr} {m : Str → Option Value} {news : List (Addr × Obj)} {hp : Heap} {gs : Array GenState} {dr : Drawn} {tk₀ : Nat} {oo : OsState} {R : Result → Shared → Prop} {vs : List Value} {e : Nat} {start pos : Nat} {t1 t2 : Tok} {lt : Value → Value → Bool}
    (c : Cx (n + 2) w A h₀ L) (F : Fr h₀ L hp m) (N : News h₀ L hp ((l, listOf vs.toArray e) :: news)) (hne : ∀ p ∈ news, p.1 ≠ l) (hlt : LtOK prog w news lt vs) (hpos : pos < vs.length) (hb : vs.length < 1000)
    (post : ∀ h' tk, Fr h₀ L h' m → News h₀ L h' ((l, listOf (sdown lt vs start pos).toArray e) :: news) → tk₀ ≤ tk → R (.ok (.ret .none)) ⟨h', gs, dr, tk, oo⟩) :
    codeAny (model prog w) A (.call (.ref 63) ⟨[.ref l, .int start t1, .int pos t2], []⟩) R ⟨hp, gs, dr, tk₀, oo⟩ := by
  refine codeAny_mt ?_
  refine c.call F N (f := 63) (binds := [(Str.ofString "heap", .ref l), (Str.ofString "startpos", .int start t1), (Str.ofString "pos", .int pos t2)]) (ho := rfl) (hcd := rfl) (BindsTo.of_eq rfl) (locs rfl) ?_ rfl rfl rfl rfl (by decide)
  clear F N c
  intro g L' h₁ m' hm c' F' N'
  have k1 : m' (Str.ofString "heap") = some (.ref l) := (hm _).trans rfl
  have k2 : m' (Str.ofString "startpos") = some (.int start t1) := (hm _).trans rfl
  have k3 : m' (Str.ofString "pos") = some (.int pos t2) := (hm _).trans rfl
  clear hm
  repeat kt_at_get
  refine itemN (by assumption) (.head _) hpos hb ?_ (by with_unfolding_all rfl) (by intro _; with_unfolding_all rfl)
  have hxm := getD_mem hpos
  obtain ⟨x, hx⟩ : ∃ x, x = vs.getD pos .none := ⟨_, rfl⟩
  rw [← hx] at hxm ⊢
  repeat kt_at_get
  refine sWhileI (SdI g L' l e news x t1 lt start vs pos) (SdZ g L' l e news x lt start vs pos) ?turn pos ?init ?exit
  case init => exact ⟨_, vs, t2, by assumption, by assumption, ⟨rfl, hpos, fun _ h => h, rfl⟩, by kt_at_in, by kt_at_in, by kt_at_in, by kt_at_in⟩
  case turn =>
    clear F' N' k1 k2 k3 post
    rintro k h' tk B Y hB ⟨m₂, vs', t, F3, N3, d, q1, q2, q3, q4⟩
    have hk := ltq rfl (d.len.symm ▸ d.lt')
    have hb' := ltq d.len hb
    repeat kt_at_get
    refine iteD (fun hd => ?_) (fun hd => ?_)
    · have hd : start < k := Int.ofNat_lt.mp hd
      repeat kt_at_get
      refine rshift1 (Nat.lt_of_le_of_lt (Nat.zero_le _) hd) ?_
      repeat kt_at_get
      refine itemN (by assumption) (.head _) d.par hb' ?_ (by with_unfolding_all rfl) (by intro _; with_unfolding_all rfl)
      repeat kt_at_get
      refine hlt.use c' (by assumption) (by assumption) (fun _ h => .tail _ h) hxm (d.sub _ (getD_mem d.par)) ?_ (Nat.le_add_left 1 n)
      repeat kt_at_get
      refine iteB (fun h2 => ?_) (fun h2 => ?_)
      · repeat kt_at_get
        refine setN (by assumption) (by assumption) hne hk hb' ?_
        intro _ _ _
        repeat kt_at_get
        exact hB.cont _ (half_lt hd) ⟨_, _, _, by assumption, by assumption, d.step hd h2, by kt_at_in, by kt_at_in, by kt_at_in, by kt_at_in⟩
      · repeat kt_at_get
        exact hB.brk ⟨_, vs', k, _, by assumption, by assumption, hk, hb', by kt_at_in, by kt_at_in, by kt_at_in, d.eq.symm.trans (sdLoop_stop fun _ => h2)⟩
    · exact hB.fin ⟨_, vs', k, _, by assumption, by assumption, hk, hb', by kt_at_in, by kt_at_in, by kt_at_in, d.eq.symm.trans (sdLoop_stop fun h => absurd (Int.ofNat_lt.mpr h) hd)⟩
  case exit =>
    clear F' N' k1 k2 k3
    rintro h' tk ⟨m₂, vs', k, t, F3, N3, hk, hb', q1, q3, q4, q5⟩
    repeat kt_at_get
    refine setN (by assumption) (by assumption) hne hk hb' ?_
    intro h5 F5 N5
    repeat kt_at_get
    refine leaveK_ F5 N5 fun F6 N6 => ?_
    intro htok
    refine post _ _ F6 ?_ htok
    unfold sdown
    rw [← hx, q5]; exact N6
theorem siftdown_max_call {prog : Program} {w : World} {n : Nat} {A : Around} {h₀ : Heap} {L l : Addr} {m : Str → Option Value} {news : List (Addr × Obj)} {hp : Heap} {gs : Array GenState} {dr : Drawn} {tk₀ : Nat} {oo : OsState} {R : Result → Shared → Prop} {vs : List Value} {e : Nat} {start pos : Nat} {t1 t2 : Tok} {lt : Value → Value → Bool}
    (c : Cx (n + 2) w A h₀ L) (F : Fr h₀ L hp m) (N : News h₀ L hp ((l, listOf vs.toArray e) :: news)) (hne : ∀ p ∈ news, p.1 ≠ l) (hlt : LtOK prog w news lt vs) (hpos : pos < vs.length) (hb : vs.length < 1000)
    (post : ∀ h' tk, Fr h₀ L h' m → News h₀ L h' ((l, listOf (sdown (fun a b => lt b a) vs start pos).toArray e) :: news) → tk₀ ≤ tk → R (.ok (.ret .none)) ⟨h', gs, dr, tk, oo⟩) :
    codeAny (model prog w) A (.call (.ref 77) ⟨[.ref l, .int start t1, .int pos t2], []⟩) R ⟨hp, gs, dr, tk₀, oo⟩ := by
  refine codeAny_mt ?_
  refine c.call F N (f := 77) (binds := [(Str.ofString "heap", .ref l), (Str.ofString "startpos", .int start t1), (Str.ofString "pos", .int pos t2)]) (ho := rfl) (hcd := rfl) (BindsTo.of_eq rfl) (locs rfl) ?_ rfl rfl rfl rfl (by decide)
  clear F N c
  intro g L' h₁ m' hm c' F' N'
  have k1 : m' (Str.ofString "heap") = some (.ref l) := (hm _).trans rfl
  have k2 : m' (Str.ofString "startpos") = some (.int start t1) := (hm _).trans rfl
  have k3 : m' (Str.ofString "pos") = some (.int pos t2) := (hm _).trans rfl
  clear hm
  repeat kt_at_get
  refine itemN (by assumption) (.head _) hpos hb ?_ (by with_unfolding_all rfl) (by intro _; with_unfolding_all rfl)
  have hxm := getD_mem hpos
  obtain ⟨x, hx⟩ : ∃ x, x = vs.getD pos .none := ⟨_, rfl⟩
  rw [← hx] at hxm ⊢
  repeat kt_at_get
  refine sWhileI (SdI g L' l e news x t1 (fun a b => lt b a) start vs pos) (SdZ g L' l e news x (fun a b => lt b a) start vs pos) ?turn pos ?init ?exit
  case init => exact ⟨_, vs, t2, by assumption, by assumption, ⟨rfl, hpos, fun _ h => h, rfl⟩, by kt_at_in, by kt_at_in, by kt_at_in, by kt_at_in⟩
  case turn =>
    clear F' N' k1 k2 k3 post
    rintro k h' tk B Y hB ⟨m₂, vs', t, F3, N3, d, q1, q2, q3, q4⟩
    have hk := ltq rfl (d.len.symm ▸ d.lt')
    have hb' := ltq d.len hb
    repeat kt_at_get
    refine iteD (fun hd => ?_) (fun hd => ?_)
    · have hd : start < k := Int.ofNat_lt.mp hd
      repeat kt_at_get
      refine rshift1 (Nat.lt_of_le_of_lt (Nat.zero_le _) hd) ?_
      repeat kt_at_get
      refine itemN (by assumption) (.head _) d.par hb' ?_ (by with_unfolding_all rfl) (by intro _; with_unfolding_all rfl)
      repeat kt_at_get
      refine hlt.use c' (by assumption) (by assumption) (fun _ h => .tail _ h) (d.sub _ (getD_mem d.par)) hxm ?_ (Nat.le_add_left 1 n)
      repeat kt_at_get
      refine iteB (fun h2 => ?_) (fun h2 => ?_)
      · repeat kt_at_get
        refine setN (by assumption) (by assumption) hne hk hb' ?_
        intro _ _ _
        repeat kt_at_get
        exact hB.cont _ (half_lt hd) ⟨_, _, _, by assumption, by assumption, d.step hd h2, by kt_at_in, by kt_at_in, by kt_at_in, by kt_at_in⟩
      · repeat kt_at_get
        exact hB.brk ⟨_, vs', k, _, by assumption, by assumption, hk, hb', by kt_at_in, by kt_at_in, by kt_at_in, d.eq.symm.trans (sdLoop_stop fun _ => h2)⟩
    · exact hB.fin ⟨_, vs', k, _, by assumption, by assumption, hk, hb', by kt_at_in, by kt_at_in, by kt_at_in, d.eq.symm.trans (sdLoop_stop fun h => absurd (Int.ofNat_lt.mpr h) hd)⟩
  case exit =>
    clear F' N' k1 k2 k3
    rintro h' tk ⟨m₂, vs', k, t, F3, N3, hk, hb', q1, q3, q4, q5⟩
    repeat kt_at_get
    refine setN (by assumption) (by assumption) hne hk hb' ?_
    intro h5 F5 N5
    repeat kt_at_get
    refine leaveK_ F5 N5 fun F6 N6 => ?_
    intro htok
    refine post _ _ F6 ?_ htok
    unfold sdown
    rw [← hx, q5]; exact N6
-- sift up: the hole goes down to a leaf, then the item rises
noncomputable def suLoop (lt : Value → Value → Bool) (vs : List Value) (pos : Nat) : List Value × Nat :=
  if h : 2 * pos + 1 < vs.length then
    if 2 * pos + 2 < vs.length ∧ lt (vs.getD (2 * pos + 1) .none) (vs.getD (2 * pos + 2) .none) = false then suLoop lt (vs.set pos (vs.getD (2 * pos + 2) .none)) (2 * pos + 2)
    else suLoop lt (vs.set pos (vs.getD (2 * pos + 1) .none)) (2 * pos + 1)
  else (vs, pos)
termination_by vs.length - pos
decreasing_by all_goals (rw [List.length_set]; (first | exact zq124 h | omega))
noncomputable def sup (lt : Value → Value → Bool) (vs : List Value) (pos : Nat) : List Value :=
  let r := suLoop lt vs pos
  sdown lt (r.1.set r.2 (vs.getD pos .none)) pos r.2
theorem suLoop_right {lt : Value → Value → Bool} {vs : List Value} {pos : Nat} (h : 2 * pos + 2 < vs.length) (h2 : lt (vs.getD (2 * pos + 1) .none) (vs.getD (2 * pos + 2) .none) = false) :
    suLoop lt vs pos = suLoop lt (vs.set pos (vs.getD (2 * pos + 2) .none)) (2 * pos + 2) := by
  rw [suLoop, dif_pos (by exact zq125 h), if_pos ⟨h, h2⟩]
theorem suLoop_left {lt : Value → Value → Bool} {vs : List Value} {pos : Nat} (h : 2 * pos + 1 < vs.length) (h2 : 2 * pos + 2 < vs.length → lt (vs.getD (2 * pos + 1) .none) (vs.getD (2 * pos + 2) .none) = true) :
    suLoop lt vs pos = suLoop lt (vs.set pos (vs.getD (2 * pos + 1) .none)) (2 * pos + 1) := by
  rw [suLoop, dif_pos h, if_neg (by rintro ⟨a, b⟩; rw [h2 a] at b; cases b)]
theorem suLoop_stop {lt : Value → Value → Bool} {vs : List Value} {pos : Nat} (h : vs.length ≤ 2 * pos + 1) : suLoop lt vs pos = (vs, pos) := by
  rw [suLoop, dif_neg (by exact zq126 h)]
theorem mul2 {prog : Program} {w : World} {A : Around} {E : Value → Shared → Prop} {hp : Heap} {gs : Array GenState} {dr : Drawn} {tk₀ : Nat} {oo : OsState} {Q : Value → Shared → Prop} {k : Nat} {t u : Tok} (hk : k < 1000) (h : Q (.int (((2 * k : Nat)) : Int) tk₀) ⟨hp, gs, dr, tk₀ + 1, oo⟩) :
    wpAny (model prog w) A (binaryOp .Mult (.int 2 t) (.int (k : Int) u)) Q E ⟨hp, gs, dr, tk₀, oo⟩ := by
  refine mul_int ?_ (IntMulOk.of_left (by decide))
  rw [show (2 : Int) * (k : Int) = ((2 * k : Nat) : Int) by exact zq127]; exact h
structure SuD (lt : Value → Value → Bool) (vs vs' : List Value) (pos p : Nat) : Prop where
  len : vs'.length = vs.length
  lt' : p < vs.length
  sub : ∀ v ∈ vs', v ∈ vs
  eq : suLoop lt vs' p = suLoop lt vs pos
theorem SuD.left {lt : Value → Value → Bool} {vs vs' : List Value} {pos p : Nat} (d : SuD lt vs vs' pos p) (h : 2 * p + 1 < vs'.length) (h2 : 2 * p + 2 < vs'.length → lt (vs'.getD (2 * p + 1) .none) (vs'.getD (2 * p + 2) .none) = true) :
    SuD lt vs (vs'.set p (vs'.getD (2 * p + 1) .none)) pos (2 * p + 1) := ⟨(List.length_set ..).trans d.len, d.len ▸ h, set_sub d.sub (d.sub _ (getD_mem h)), (suLoop_left h h2).symm.trans d.eq⟩
theorem SuD.right {lt : Value → Value → Bool} {vs vs' : List Value} {pos p : Nat} (d : SuD lt vs vs' pos p) (h : 2 * p + 2 < vs'.length) (h2 : lt (vs'.getD (2 * p + 1) .none) (vs'.getD (2 * p + 2) .none) = false) :
    SuD lt vs (vs'.set p (vs'.getD (2 * p + 2) .none)) pos (2 * p + 2) := ⟨(List.length_set ..).trans d.len, d.len ▸ h, set_sub d.sub (d.sub _ (getD_mem h)), (suLoop_right h h2).symm.trans d.eq⟩
theorem su_int1 (p : Nat) : ((2 * p : Nat) : Int) + 1 = ((2 * p + 1 : Nat) : Int) := rfl
theorem su_int2 (p : Nat) : ((2 * p + 1 : Nat) : Int) + 1 = ((2 * p + 2 : Nat) : Int) := rfl
theorem su_mu1 {k p n : Nat} (h : k + p = n) (h2 : 2 * p + 1 < n) : n - (2 * p + 1) < k ∧ n - (2 * p + 1) + (2 * p + 1) = n := by exact zq128 h h2
theorem su_mu2 {k p n : Nat} (h : k + p = n) (h2 : 2 * p + 2 < n) : n - (2 * p + 2) < k ∧ n - (2 * p + 2) + (2 * p + 2) = n := by exact zq129 h h2
theorem su_lt {a b c : Nat} (e : b = c) (h : (a : Int) < ((c : Nat) : Int)) : a < b := e ▸ Int.ofNat_lt.mp h
theorem su_b1 {p n : Nat} (h : p < n) (h2 : n < 1000) : p < 1000 := Nat.lt_trans h h2
inductive SuI (g : Heap) (L' l : Addr) (e : Nat) (news : List (Addr × Obj)) (x : Value) (lt : Value → Value → Bool) (vs : List Value) (pos k : Nat) (h' : Heap) (tk : Nat) : Prop
  | mk (m₂ : Str → Option Value) (vs' : List Value) (p : Nat) (t te tc ts : Tok) (F : Fr g L' h' m₂) (N : News g L' h' ((l, listOf vs'.toArray e) :: news)) (d : SuD lt vs vs' pos p) (hkp : k + p = vs.length)
    (q1 : m₂ (Str.ofString "heap") = some (.ref l)) (q2 : m₂ (Str.ofString "endpos") = some (.int (vs.length : Int) te)) (q3 : m₂ (Str.ofString "startpos") = some (.int (pos : Int) ts)) (q4 : m₂ (Str.ofString "pos") = some (.int (p : Int) t))
    (q5 : m₂ (Str.ofString "childpos") = some (.int ((2 * p + 1 : Nat) : Int) tc)) (q6 : m₂ (Str.ofString "newitem") = some x) : SuI g L' l e news x lt vs pos k h' tk
inductive SuZ (g : Heap) (L' l : Addr) (e : Nat) (news : List (Addr × Obj)) (x : Value) (lt : Value → Value → Bool) (vs : List Value) (pos : Nat) (h' : Heap) (tk : Nat) : Prop
  | mk (m₂ : Str → Option Value) (vs' : List Value) (p : Nat) (t ts : Tok) (F : Fr g L' h' m₂) (N : News g L' h' ((l, listOf vs'.toArray e) :: news)) (hk : p < vs'.length) (hb : vs'.length < 1000) (hsub : ∀ v ∈ vs', v ∈ vs)
    (q1 : m₂ (Str.ofString "heap") = some (.ref l)) (q3 : m₂ (Str.ofString "startpos") = some (.int (pos : Int) ts)) (q4 : m₂ (Str.ofString "pos") = some (.int (p : Int) t)) (q6 : m₂ (Str.ofString "newitem") = some x) (q7 : suLoop lt vs pos = (vs', p)) : SuZ g L' l e news x lt vs pos h' tk
theorem siftup_call {prog : Program} {w : World} {n : Nat} {A : Around} {h₀ : Heap} {L l : Addr} {m : Str → Option Value} {news : List (Addr × Obj)} {hp : Heap} {gs : Array GenState} {dr : Drawn} {tk₀ : Nat} {oo : OsState} {R : Result → Shared → Prop} {vs : List Value} {e : Nat} {pos : Nat} {t2 : Tok} {lt : Value → Value → Bool}
    (c : Cx (n + 3) w A h₀ L) (F : Fr h₀ L hp m) (N : News h₀ L hp ((l, listOf vs.toArray e) :: news)) (hne : ∀ p ∈ news, p.1 ≠ l) (hlt : LtOK prog w news lt vs) (hpos : pos < vs.length) (hb : vs.length < 1000)
    (post : ∀ h' tk, Fr h₀ L h' m → News h₀ L h' ((l, listOf (sup lt vs pos).toArray e) :: news) → tk₀ ≤ tk → R (.ok (.ret .none)) ⟨h', gs, dr, tk, oo⟩) :
    codeAny (model prog w) A (.call (.ref 70) ⟨[.ref l, .int pos t2], []⟩) R ⟨hp, gs, dr, tk₀, oo⟩ := by
  refine codeAny_mt ?_
  refine c.call F N (f := 70) (binds := [(Str.ofString "heap", .ref l), (Str.ofString "pos", .int pos t2)]) (ho := rfl) (hcd := rfl) (BindsTo.of_eq rfl) (locs rfl) ?_ rfl rfl rfl rfl (by decide)
  clear F N c
  intro g L' h₁ m' hm c' F' N'
  have k1 : m' (Str.ofString "heap") = some (.ref l) := (hm _).trans rfl
  have k3 : m' (Str.ofString "pos") = some (.int pos t2) := (hm _).trans rfl
  clear hm
  repeat kt_at_get
  refine lenN (by assumption) (.head _) hb ?_
  repeat kt_at_get
  refine itemN (by assumption) (.head _) hpos hb ?_ (by with_unfolding_all rfl) (by intro _; with_unfolding_all rfl)
  have hxm := getD_mem hpos
  obtain ⟨x, hx⟩ : ∃ x, x = vs.getD pos .none := ⟨_, rfl⟩
  rw [← hx] at hxm ⊢
  repeat kt_at_get
  refine mul2 (su_b1 hpos hb) ?_
  repeat kt_at_get
  refine sWhileI (SuI g L' l e news x lt vs pos) (SuZ g L' l e news x lt vs pos) ?turn (vs.length - pos) ?init ?exit
  case init => exact ⟨_, vs, pos, _, _, _, _, by assumption, by assumption, ⟨rfl, hpos, fun _ h => h, rfl⟩, Nat.sub_add_cancel (Nat.le_of_lt hpos), by kt_at_in, by kt_at_in, by kt_at_in, by kt_at_in, by kt_at_in, by kt_at_in⟩
  case turn =>
    clear F' N' k1 k3 post
    rintro k h' tk B Y hB ⟨m₂, vs', p, t, te, tc, ts, F3, N3, d, hkp, q1, q2, q3, q4, q5, q6⟩
    have hp' : p < vs'.length := d.len.symm ▸ d.lt'
    have hb' := ltq d.len hb
    repeat kt_at_get
    refine iteD (fun hd => ?_) (fun hd => ?_)
    · have hd : 2 * p + 1 < vs'.length := su_lt d.len hd
      repeat kt_at_get
      refine iteD (fun hr => ?_) (fun hr => ?_)
      · have hr : 2 * p + 2 < vs'.length := su_lt d.len hr
        repeat kt_at_get
        refine itemN (k := 2 * p + 1) (by assumption) (.head _) hd hb' ?_ (by with_unfolding_all rfl) (by intro _; with_unfolding_all rfl)
        repeat kt_at_get
        refine itemN (k := 2 * p + 2) (by assumption) (.head _) hr hb' ?_ (by with_unfolding_all rfl) (by intro _; with_unfolding_all rfl)
        repeat kt_at_get
        refine hlt.use c' (by assumption) (by assumption) (fun _ h => .tail _ h) (d.sub _ (getD_mem hd)) (d.sub _ (getD_mem hr)) ?_ (Nat.le_add_left 1 (n + 1))
        repeat kt_at_get
        refine iteB (fun h2 => ?_) (fun h2 => ?_)
        · have h2 := (Bool.not_eq_true' _).mp h2
          repeat kt_at_get
          refine itemN (k := 2 * p + 2) (by assumption) (.head _) hr hb' ?_ (by with_unfolding_all rfl) (by intro _; with_unfolding_all rfl)
          repeat kt_at_get
          refine setN (by assumption) (by assumption) hne hp' hb' ?_
          intro _ _ _
          repeat kt_at_get
          refine mul2 (su_b1 (d.right hr h2).lt' hb) ?_
          repeat kt_at_get
          exact hB.next _ (su_mu2 hkp (d.right hr h2).lt').1 ⟨_, _, 2 * p + 2, _, _, _, _, by assumption, by assumption, d.right hr h2, (su_mu2 hkp (d.right hr h2).lt').2, by kt_at_in, by kt_at_in, by kt_at_in, by kt_at_in, by kt_at_in, by kt_at_in⟩
        · have h2 := (Bool.not_eq_false' _).mp h2
          repeat kt_at_get
          refine itemN (k := 2 * p + 1) (by assumption) (.head _) hd hb' ?_ (by with_unfolding_all rfl) (by intro _; with_unfolding_all rfl)
          repeat kt_at_get
          refine setN (by assumption) (by assumption) hne hp' hb' ?_
          intro _ _ _
          repeat kt_at_get
          refine mul2 (su_b1 (d.left hd fun _ => h2).lt' hb) ?_
          repeat kt_at_get
          exact hB.next _ (su_mu1 hkp (d.left hd fun _ => h2).lt').1 ⟨_, _, 2 * p + 1, _, _, _, _, by assumption, by assumption, d.left hd fun _ => h2, (su_mu1 hkp (d.left hd fun _ => h2).lt').2, by kt_at_in, by kt_at_in, by kt_at_in, by kt_at_in, by kt_at_in, by kt_at_in⟩
      · have hr : ¬ 2 * p + 2 < vs'.length := fun h => hr (Int.ofNat_lt.mpr (d.len ▸ h))
        repeat kt_at_get
        refine itemN (k := 2 * p + 1) (by assumption) (.head _) hd hb' ?_ (by with_unfolding_all rfl) (by intro _; with_unfolding_all rfl)
        repeat kt_at_get
        refine setN (by assumption) (by assumption) hne hp' hb' ?_
        intro _ _ _
        repeat kt_at_get
        refine mul2 (su_b1 (d.left hd fun h => absurd h hr).lt' hb) ?_
        repeat kt_at_get
        exact hB.next _ (su_mu1 hkp (d.left hd fun h => absurd h hr).lt').1 ⟨_, _, 2 * p + 1, _, _, _, _, by assumption, by assumption, d.left hd fun h => absurd h hr, (su_mu1 hkp (d.left hd fun h => absurd h hr).lt').2, by kt_at_in, by kt_at_in, by kt_at_in, by kt_at_in, by kt_at_in, by kt_at_in⟩
    · exact hB.fin ⟨_, vs', p, _, _, by assumption, by assumption, hp', hb', d.sub, by kt_at_in, by kt_at_in, by kt_at_in, by kt_at_in, d.eq.symm.trans (suLoop_stop (Nat.not_lt.mp fun h => hd (Int.ofNat_lt.mpr (d.len ▸ h))))⟩
  case exit =>
    clear F' N' k1 k3
    rintro h' tk ⟨m₂, vs', p, t, ts, F3, N3, hk, hb', hsub, q1, q3, q4, q6, q7⟩
    repeat kt_at_get
    refine setN (by assumption) (by assumption) hne hk hb' ?_
    intro h5 F5 N5
    repeat kt_at_get
    refine wpAny_call (siftdown_call c' F5 N5 hne (hlt.mono (set_sub hsub hxm)) (ltq rfl ((List.length_set ..).symm ▸ hk)) (ltq (List.length_set ..) hb') fun h6 tk6 F6 N6 _ => ⟨rfl, ?_⟩)
    repeat kt_at_get
    refine leaveK_ F6 N6 fun F7 N7 => ?_
    intro htok
    refine post _ _ F7 ?_ htok
    unfold sup
    rw [← hx, q7]; exact N7
theorem siftup_max_call {prog : Program} {w : World} {n : Nat} {A : Around} {h₀ : Heap} {L l : Addr} {m : Str → Option Value} {news : List (Addr × Obj)} {hp : Heap} {gs : Array GenState} {dr : Drawn} {tk₀ : Nat} {oo : OsState} {R : Result → Shared → Prop} {vs : List Value} {e : Nat} {pos : Nat} {t2 : Tok} {lt : Value → Value → Bool}
    (c : Cx (n + 3) w A h₀ L) (F : Fr h₀ L hp m) (N : News h₀ L hp ((l, listOf vs.toArray e) :: news)) (hne : ∀ p ∈ news, p.1 ≠ l) (hlt : LtOK prog w news lt vs) (hpos : pos < vs.length) (hb : vs.length < 1000)
    (post : ∀ h' tk, Fr h₀ L h' m → News h₀ L h' ((l, listOf (sup (fun a b => lt b a) vs pos).toArray e) :: news) → tk₀ ≤ tk → R (.ok (.ret .none)) ⟨h', gs, dr, tk, oo⟩) :
    codeAny (model prog w) A (.call (.ref 84) ⟨[.ref l, .int pos t2], []⟩) R ⟨hp, gs, dr, tk₀, oo⟩ := by
  refine codeAny_mt ?_
  refine c.call F N (f := 84) (binds := [(Str.ofString "heap", .ref l), (Str.ofString "pos", .int pos t2)]) (ho := rfl) (hcd := rfl) (BindsTo.of_eq rfl) (locs rfl) ?_ rfl rfl rfl rfl (by decide)
  clear F N c
  intro g L' h₁ m' hm c' F' N'
  have k1 : m' (Str.ofString "heap") = some (.ref l) := (hm _).trans rfl
  have k3 : m' (Str.ofString "pos") = some (.int pos t2) := (hm _).trans rfl
  clear hm
  repeat kt_at_get
  refine lenN (by assumption) (.head _) hb ?_
  repeat kt_at_get
  refine itemN (by assumption) (.head _) hpos hb ?_ (by with_unfolding_all rfl) (by intro _; with_unfolding_all rfl)
  have hxm := getD_mem hpos
  obtain ⟨x, hx⟩ : ∃ x, x = vs.getD pos .none := ⟨_, rfl⟩
  rw [← hx] at hxm ⊢
  repeat kt_at_get
  refine mul2 (su_b1 hpos hb) ?_
  repeat kt_at_get
  refine sWhileI (SuI g L' l e news x (fun a b => lt b a) vs pos) (SuZ g L' l e news x (fun a b => lt b a) vs pos) ?turn (vs.length - pos) ?init ?exit
  case init => exact ⟨_, vs, pos, _, _, _, _, by assumption, by assumption, ⟨rfl, hpos, fun _ h => h, rfl⟩, Nat.sub_add_cancel (Nat.le_of_lt hpos), by kt_at_in, by kt_at_in, by kt_at_in, by kt_at_in, by kt_at_in, by kt_at_in⟩
  case turn =>
    clear F' N' k1 k3 post
    rintro k h' tk B Y hB ⟨m₂, vs', p, t, te, tc, ts, F3, N3, d, hkp, q1, q2, q3, q4, q5, q6⟩
    have hp' : p < vs'.length := d.len.symm ▸ d.lt'
    have hb' := ltq d.len hb
    repeat kt_at_get
    refine iteD (fun hd => ?_) (fun hd => ?_)
    · have hd : 2 * p + 1 < vs'.length := su_lt d.len hd
      repeat kt_at_get
      refine iteD (fun hr => ?_) (fun hr => ?_)
      · have hr : 2 * p + 2 < vs'.length := su_lt d.len hr
        repeat kt_at_get
        refine itemN (k := 2 * p + 2) (by assumption) (.head _) hr hb' ?_ (by with_unfolding_all rfl) (by intro _; with_unfolding_all rfl)
        repeat kt_at_get
        refine itemN (k := 2 * p + 1) (by assumption) (.head _) hd hb' ?_ (by with_unfolding_all rfl) (by intro _; with_unfolding_all rfl)
        repeat kt_at_get
        refine hlt.use c' (by assumption) (by assumption) (fun _ h => .tail _ h) (d.sub _ (getD_mem hr)) (d.sub _ (getD_mem hd)) ?_ (Nat.le_add_left 1 (n + 1))
        repeat kt_at_get
        refine iteB (fun h2 => ?_) (fun h2 => ?_)
        · have h2 := (Bool.not_eq_true' _).mp h2
          repeat kt_at_get
          refine itemN (k := 2 * p + 2) (by assumption) (.head _) hr hb' ?_ (by with_unfolding_all rfl) (by intro _; with_unfolding_all rfl)
          repeat kt_at_get
          refine setN (by assumption) (by assumption) hne hp' hb' ?_
          intro _ _ _
          repeat kt_at_get
          refine mul2 (su_b1 (d.right hr h2).lt' hb) ?_
          repeat kt_at_get
          exact hB.next _ (su_mu2 hkp (d.right hr h2).lt').1 ⟨_, _, 2 * p + 2, _, _, _, _, by assumption, by assumption, d.right hr h2, (su_mu2 hkp (d.right hr h2).lt').2, by kt_at_in, by kt_at_in, by kt_at_in, by kt_at_in, by kt_at_in, by kt_at_in⟩
        · have h2 := (Bool.not_eq_false' _).mp h2
          repeat kt_at_get
          refine itemN (k := 2 * p + 1) (by assumption) (.head _) hd hb' ?_ (by with_unfolding_all rfl) (by intro _; with_unfolding_all rfl)
          repeat kt_at_get
          refine setN (by assumption) (by assumption) hne hp' hb' ?_
          intro _ _ _
          repeat kt_at_get
          refine mul2 (su_b1 (d.left hd fun _ => h2).lt' hb) ?_
          repeat kt_at_get
          exact hB.next _ (su_mu1 hkp (d.left hd fun _ => h2).lt').1 ⟨_, _, 2 * p + 1, _, _, _, _, by assumption, by assumption, d.left hd fun _ => h2, (su_mu1 hkp (d.left hd fun _ => h2).lt').2, by kt_at_in, by kt_at_in, by kt_at_in, by kt_at_in, by kt_at_in, by kt_at_in⟩
      · have hr : ¬ 2 * p + 2 < vs'.length := fun h => hr (Int.ofNat_lt.mpr (d.len ▸ h))
        repeat kt_at_get
        refine itemN (k := 2 * p + 1) (by assumption) (.head _) hd hb' ?_ (by with_unfolding_all rfl) (by intro _; with_unfolding_all rfl)
        repeat kt_at_get
        refine setN (by assumption) (by assumption) hne hp' hb' ?_
        intro _ _ _
        repeat kt_at_get
        refine mul2 (su_b1 (d.left hd fun h => absurd h hr).lt' hb) ?_
        repeat kt_at_get
        exact hB.next _ (su_mu1 hkp (d.left hd fun h => absurd h hr).lt').1 ⟨_, _, 2 * p + 1, _, _, _, _, by assumption, by assumption, d.left hd fun h => absurd h hr, (su_mu1 hkp (d.left hd fun h => absurd h hr).lt').2, by kt_at_in, by kt_at_in, by kt_at_in, by kt_at_in, by kt_at_in, by kt_at_in⟩
    · exact hB.fin ⟨_, vs', p, _, _, by assumption, by assumption, hp', hb', d.sub, by kt_at_in, by kt_at_in, by kt_at_in, by kt_at_in, d.eq.symm.trans (suLoop_stop (Nat.not_lt.mp fun h => hd (Int.ofNat_lt.mpr (d.len ▸ h))))⟩
  case exit =>
    clear F' N' k1 k3
    rintro h' tk ⟨m₂, vs', p, t, ts, F3, N3, hk, hb', hsub, q1, q3, q4, q6, q7⟩
    repeat kt_at_get
    refine setN (by assumption) (by assumption) hne hk hb' ?_
    intro h5 F5 N5
    repeat kt_at_get
    refine wpAny_call (siftdown_max_call c' F5 N5 hne (hlt.mono (set_sub hsub hxm)) (ltq rfl ((List.length_set ..).symm ▸ hk)) (ltq (List.length_set ..) hb') fun h6 tk6 F6 N6 _ => ⟨rfl, ?_⟩)
    repeat kt_at_get
    refine leaveK_ F6 N6 fun F7 N7 => ?_
    intro htok
    refine post _ _ F7 ?_ htok
    unfold sup
    rw [← hx, q7]; exact N7

-- pure: lengths, permutations, heap order
structure SWO (lt : Value → Value → Bool) : Prop where
  asym : ∀ a b, lt a b = true → lt b a = false
  trans : ∀ a b c, lt b a = false → lt c b = false → lt c a = false
theorem SWO.flip {lt : Value → Value → Bool} (h : SWO lt) : SWO (fun a b => lt b a) := ⟨fun a b => h.asym b a, fun a b c h1 h2 => h.trans c b a h2 h1⟩

theorem getD_set {vs : List Value} {i j : Nat} {a : Value} (h : i < vs.length) : (vs.set i a).getD j .none = if i = j then a else vs.getD j .none := by
  simp only [List.getD_eq_getElem?_getD, List.getElem?_set]
  by_cases e : i = j
  · subst e; simp [h]
  · simp [e]
theorem getD_set_self {vs : List Value} {i : Nat} {a : Value} (h : i < vs.length) : (vs.set i a).getD i .none = a := by rw [getD_set h, if_pos rfl]
theorem getD_set_ne {vs : List Value} {i j : Nat} {a : Value} (h : i < vs.length) (hn : i ≠ j) : (vs.set i a).getD j .none = vs.getD j .none := by rw [getD_set h, if_neg hn]
theorem set_getD {vs : List Value} {i : Nat} (h : i < vs.length) : vs.set i (vs.getD i .none) = vs := by
  rw [List.getD_eq_getElem?_getD, List.getElem?_eq_getElem h]; exact List.set_getElem_self h
theorem swap_perm {vs : List Value} {i j : Nat} {x : Value} (hi : i < vs.length) (hj : j < vs.length) (hn : i ≠ j) : ((vs.set i (vs.getD j .none)).set j x).Perm (vs.set i x) := by
  have h := List.set_set_perm (as := vs.set i x) (i := i) (j := j) (by simpa using hi) (by simpa using hj)
  have e1 : (vs.set i x)[j]'(by simpa using hj) = vs.getD j .none := by
    rw [List.getElem_set_ne hn, List.getD_eq_getElem?_getD, List.getElem?_eq_getElem hj]; rfl
  have e2 : (vs.set i x)[i]'(by simpa using hi) = x := List.getElem_set_self _
  rw [e1, e2, List.set_set] at h
  exact h

theorem sdLoop_perm {lt : Value → Value → Bool} {start : Nat} {x : Value} : ∀ (pos : Nat) (vs : List Value), pos < vs.length →
    (sdLoop lt start x vs pos).2 < vs.length ∧ (sdLoop lt start x vs pos).1.length = vs.length ∧ ((sdLoop lt start x vs pos).1.set (sdLoop lt start x vs pos).2 x).Perm (vs.set pos x) := by
  intro pos
  induction pos using Nat.strongRecOn with
  | ind pos ih =>
    intro vs hp
    by_cases h1 : start < pos ∧ lt x (vs.getD ((pos - 1) / 2) .none) = true
    · rw [sdLoop_step h1.1 h1.2]
      have hq : (pos - 1) / 2 < pos := by omega
      obtain ⟨a, b, c⟩ := ih _ hq (vs.set pos (vs.getD ((pos - 1) / 2) .none)) (by rw [List.length_set]; exact zq66 hp hq)
      rw [List.length_set] at a b
      exact ⟨a, b, c.trans (swap_perm hp (by exact zq67 hp hq b) (by exact zq68 hq))⟩
    · rw [sdLoop_stop (fun h => by by_cases h2 : lt x (vs.getD ((pos - 1) / 2) .none) = true; exact absurd ⟨h, h2⟩ h1; simpa using h2)]
      exact ⟨hp, rfl, .refl _⟩
theorem sdown_perm {lt : Value → Value → Bool} {start pos : Nat} {vs : List Value} (hp : pos < vs.length) : (sdown lt vs start pos).Perm vs := by
  have h := (sdLoop_perm (lt := lt) (start := start) (x := vs.getD pos .none) pos vs hp).2.2
  rw [set_getD hp] at h
  exact h
theorem sdown_length {lt : Value → Value → Bool} {start pos : Nat} {vs : List Value} (hp : pos < vs.length) : (sdown lt vs start pos).length = vs.length := (sdown_perm hp).length_eq

theorem suLoop_perm {lt : Value → Value → Bool} {x : Value} : ∀ (n : Nat) (vs : List Value) (pos : Nat), vs.length - pos = n → pos < vs.length →
    (suLoop lt vs pos).2 < vs.length ∧ (suLoop lt vs pos).1.length = vs.length ∧ ((suLoop lt vs pos).1.set (suLoop lt vs pos).2 x).Perm (vs.set pos x) := by
  intro n
  induction n using Nat.strongRecOn with
  | ind n ih =>
    intro vs pos hn hp
    by_cases h1 : 2 * pos + 1 < vs.length
    · by_cases h2 : 2 * pos + 2 < vs.length ∧ lt (vs.getD (2 * pos + 1) .none) (vs.getD (2 * pos + 2) .none) = false
      · rw [suLoop_right h2.1 h2.2]
        obtain ⟨a, b, c⟩ := ih (vs.length - (2 * pos + 2)) (by exact zq69 hn hp) (vs.set pos (vs.getD (2 * pos + 2) .none)) (2 * pos + 2) (by rw [List.length_set]) (by rw [List.length_set]; omega)
        rw [List.length_set] at a b
        exact ⟨a, b, c.trans (swap_perm hp (by omega) (by exact zq72))⟩
      · rw [suLoop_left h1 (fun h => by by_cases h3 : lt (vs.getD (2 * pos + 1) .none) (vs.getD (2 * pos + 2) .none) = true; exact h3; exact absurd ⟨h, by simpa using h3⟩ h2)]
        obtain ⟨a, b, c⟩ := ih (vs.length - (2 * pos + 1)) (by exact zq73 hn hp h1) (vs.set pos (vs.getD (2 * pos + 1) .none)) (2 * pos + 1) (by rw [List.length_set]) (by rw [List.length_set]; omega)
        rw [List.length_set] at a b
        exact ⟨a, b, c.trans (swap_perm hp (by omega) (by exact zq74))⟩
    · rw [suLoop_stop (by exact zq75 h1)]
      exact ⟨hp, rfl, .refl _⟩
theorem sup_perm {lt : Value → Value → Bool} {vs : List Value} {pos : Nat} (hp : pos < vs.length) : (sup lt vs pos).Perm vs := by
  obtain ⟨a, b, c⟩ := suLoop_perm (lt := lt) (x := vs.getD pos .none) _ vs pos rfl hp
  rw [set_getD hp] at c
  exact (sdown_perm (by rw [List.length_set]; exact zq76 a b)).trans c
theorem sup_length {lt : Value → Value → Bool} {vs : List Value} {pos : Nat} (hp : pos < vs.length) : (sup lt vs pos).length = vs.length := (sup_perm hp).length_eq

-- heap order from a place on
noncomputable def HeapFrom (lt : Value → Value → Bool) (k : Nat) (vs : List Value) : Prop := ∀ i, 0 < i → i < vs.length → k ≤ (i - 1) / 2 → lt (vs.getD i .none) (vs.getD ((i - 1) / 2) .none) = false
inductive Dsc (s : Nat) : Nat → Prop
  | refl : Dsc s s
  | step {p : Nat} : 0 < p → Dsc s ((p - 1) / 2) → Dsc s p
theorem Dsc.le {s p : Nat} (h : Dsc s p) : s ≤ p := by
  induction h with
  | refl => exact Nat.le_refl _
  | step hp _ ih => exact zq77 hp ih
theorem Dsc.up {s p : Nat} (h : Dsc s p) (hn : s < p) : Dsc s ((p - 1) / 2) := by
  cases h with
  | refl => exact (zq78 hn).elim
  | step _ h => exact h

structure Hole (lt : Value → Value → Bool) (s : Nat) (vs : List Value) (p : Nat) : Prop where
  rel : ∀ i, 0 < i → i < vs.length → s ≤ (i - 1) / 2 → i ≠ p → (i - 1) / 2 ≠ p → lt (vs.getD i .none) (vs.getD ((i - 1) / 2) .none) = false
  over : s < p → ∀ i, 0 < i → i < vs.length → (i - 1) / 2 = p → lt (vs.getD i .none) (vs.getD ((p - 1) / 2) .none) = false

theorem sdLoop_heap {lt : Value → Value → Bool} (O : SWO lt) {start : Nat} {x : Value} : ∀ (pos : Nat) (vs : List Value), pos < vs.length → Dsc start pos → Hole lt start vs pos →
    (∀ i, 0 < i → i < vs.length → (i - 1) / 2 = pos → lt (vs.getD i .none) x = false) →
    HeapFrom lt start ((sdLoop lt start x vs pos).1.set (sdLoop lt start x vs pos).2 x) := by
  intro pos
  induction pos using Nat.strongRecOn with
  | ind pos ih =>
    intro vs hp hd H hx
    by_cases h1 : start < pos ∧ lt x (vs.getD ((pos - 1) / 2) .none) = true
    · rw [sdLoop_step h1.1 h1.2]
      have hq : (pos - 1) / 2 < pos := by omega
      have hq2 : (pos - 1) / 2 < vs.length := by exact zq66 hp hq
      have hs := (hd.up h1.1).le
      have sib : ∀ i, 0 < i → i < vs.length → i ≠ pos → (i - 1) / 2 = (pos - 1) / 2 → lt (vs.getD i .none) (vs.getD ((pos - 1) / 2) .none) = false := fun i i0 il ip ie => by
        have := H.rel i i0 il (by exact zq79 hs ie) ip (by exact zq80 hq ie); rw [ie] at this; exact this
      refine ih _ hq _ (by rw [List.length_set]; exact hq2) (hd.up h1.1) ⟨?_, ?_⟩ ?_
      · intro i i0 il is ip iq
        rw [List.length_set] at il
        by_cases e1 : (i - 1) / 2 = pos
        · rw [e1, getD_set_self hp, getD_set_ne hp (by exact zq81 hq i0 ip iq e1)]
          exact H.over h1.1 i i0 il e1
        · by_cases e2 : i = pos
          · subst e2; exact absurd rfl iq
          · rw [getD_set_ne hp (by exact zq82 e2), getD_set_ne hp (by exact zq83 e1 e2)]
            exact H.rel i i0 il is e2 e1
      · intro hpp i i0 il ie
        rw [List.length_set] at il
        rw [getD_set_ne (j := ((pos - 1) / 2 - 1) / 2) hp (by exact zq84 hq ie)]
        have hup : lt (vs.getD ((pos - 1) / 2) .none) (vs.getD (((pos - 1) / 2 - 1) / 2) .none) = false := H.rel _ (by exact zq85 hpp ie) hq2 ((hd.up h1.1).up hpp).le (by exact zq86 hq ie) (by exact zq87 hq ie)
        by_cases e2 : i = pos
        · subst e2; rw [getD_set_self hp]; exact hup
        · rw [getD_set_ne hp (by exact zq82 e2)]
          exact O.trans _ _ _ hup (sib i i0 il e2 ie)
      · intro i i0 il ie
        rw [List.length_set] at il
        have hxx := O.asym _ _ h1.2
        by_cases e2 : i = pos
        · subst e2; rw [getD_set_self hp]; exact hxx
        · rw [getD_set_ne hp (by exact zq82 e2)]
          exact O.trans _ _ _ hxx (sib i i0 il e2 ie)
    · have hst : start < pos → lt x (vs.getD ((pos - 1) / 2) .none) = false := fun h => by
        by_cases h2 : lt x (vs.getD ((pos - 1) / 2) .none) = true; exact absurd ⟨h, h2⟩ h1; simpa using h2
      rw [sdLoop_stop hst]
      intro i i0 il is
      rw [List.length_set] at il
      by_cases e2 : i = pos
      · subst e2
        have := hd.le
        rw [getD_set_self hp, getD_set_ne hp (by exact zq88 i0 this)]
        exact hst (by exact zq89 i0 is this)
      · by_cases e1 : (i - 1) / 2 = pos
        · rw [e1, getD_set_self hp, getD_set_ne hp (by exact zq90 e2 e1)]
          exact hx i i0 il e1
        · rw [getD_set_ne hp (by exact zq91 e2 e1), getD_set_ne hp (by exact zq92 e1)]
          exact H.rel i i0 il is e2 e1

theorem suLoop_hole {lt : Value → Value → Bool} (O : SWO lt) {s : Nat} : ∀ (n : Nat) (vs : List Value) (pos : Nat), vs.length - pos = n → pos < vs.length → Dsc s pos → Hole lt s vs pos →
    Dsc s (suLoop lt vs pos).2 ∧ Hole lt s (suLoop lt vs pos).1 (suLoop lt vs pos).2 ∧ (suLoop lt vs pos).1.length ≤ 2 * (suLoop lt vs pos).2 + 1 := by
  intro n
  induction n using Nat.strongRecOn with
  | ind n ih =>
    intro vs pos hn hp hd H
    have go : ∀ c, c < vs.length → (c - 1) / 2 = pos → 0 < c → (∀ i, 0 < i → i < vs.length → (i - 1) / 2 = pos → lt (vs.getD i .none) (vs.getD c .none) = false) →
        Dsc s c ∧ Hole lt s (vs.set pos (vs.getD c .none)) c := by
      intro c hc hcp c0 hmin
      refine ⟨.step c0 (by rw [hcp]; exact hd), ⟨?_, ?_⟩⟩
      · intro i i0 il is ic ip
        rw [List.length_set] at il
        by_cases e2 : i = pos
        · subst e2
          rw [getD_set_self hp, getD_set_ne hp (by exact zq93 c0 i0 il ic ip hcp)]
          have := hd.le
          exact H.over (by exact zq94 c0 i0 il is ic ip hcp this) c c0 hc hcp
        · by_cases e1 : (i - 1) / 2 = pos
          · rw [e1, getD_set_self hp, getD_set_ne hp (by exact zq95 hcp e2 e1)]
            exact hmin i i0 il e1
          · rw [getD_set_ne hp (by exact zq96 hcp e2 e1), getD_set_ne hp (by exact zq97 hcp e1)]
            exact H.rel i i0 il is e2 e1
      · intro hsc i i0 il ie
        rw [List.length_set] at il
        have := hd.le
        rw [hcp, getD_set_self hp, getD_set_ne hp (by exact zq98 hcp c0 i0 ie)]
        have h := H.rel i i0 il (by exact zq99 hsc ie) (by exact zq100 hcp c0 i0 ie) (by exact zq101 hcp c0 i0 ie)
        rw [ie] at h; exact h
    by_cases h1 : 2 * pos + 1 < vs.length
    · by_cases h2 : 2 * pos + 2 < vs.length ∧ lt (vs.getD (2 * pos + 1) .none) (vs.getD (2 * pos + 2) .none) = false
      · rw [suLoop_right h2.1 h2.2]
        obtain ⟨a, b⟩ := go (2 * pos + 2) h2.1 (by exact zq102) (by exact zq103) (fun i i0 il ie => by
          have : i = 2 * pos + 1 ∨ i = 2 * pos + 2 := by exact zq104 i0 ie
          rcases this with rfl | rfl
          · exact h2.2
          · exact O.trans _ _ _ (by cases h : lt (vs.getD (2 * pos + 2) .none) (vs.getD (2 * pos + 2) .none); rfl; exact absurd h (by rw [O.asym _ _ h]; simp)) (by cases h : lt (vs.getD (2 * pos + 2) .none) (vs.getD (2 * pos + 2) .none); rfl; exact absurd h (by rw [O.asym _ _ h]; simp)))
        exact ih (vs.length - (2 * pos + 2)) (by exact zq69 hn hp) (vs.set pos (vs.getD (2 * pos + 2) .none)) (2 * pos + 2) (by rw [List.length_set]) (by rw [List.length_set]; omega) a b
      · have h3 : 2 * pos + 2 < vs.length → lt (vs.getD (2 * pos + 1) .none) (vs.getD (2 * pos + 2) .none) = true := fun h => by
          by_cases h3 : lt (vs.getD (2 * pos + 1) .none) (vs.getD (2 * pos + 2) .none) = true; exact h3; exact absurd ⟨h, by simpa using h3⟩ h2
        rw [suLoop_left h1 h3]
        obtain ⟨a, b⟩ := go (2 * pos + 1) h1 (by exact zq105) (by exact zq106) (fun i i0 il ie => by
          have : i = 2 * pos + 1 ∨ i = 2 * pos + 2 := by exact zq104 i0 ie
          rcases this with rfl | rfl
          · cases h : lt (vs.getD (2 * pos + 1) .none) (vs.getD (2 * pos + 1) .none); rfl; exact absurd h (by rw [O.asym _ _ h]; simp)
          · exact O.asym _ _ (h3 il))
        exact ih (vs.length - (2 * pos + 1)) (by exact zq73 hn hp h1) (vs.set pos (vs.getD (2 * pos + 1) .none)) (2 * pos + 1) (by rw [List.length_set]) (by rw [List.length_set]; omega) a b
    · rw [suLoop_stop (by exact zq75 h1)]
      exact ⟨hd, H, by show vs.length ≤ 2 * pos + 1; exact zq75 h1⟩

theorem sup_heap {lt : Value → Value → Bool} (O : SWO lt) {vs : List Value} {k : Nat} (hk : k < vs.length) (h : HeapFrom lt (k + 1) vs) : HeapFrom lt k (sup lt vs k) := by
  have H : Hole lt k vs k := ⟨fun i i0 il is _ ip => h i i0 il (by exact zq107 is ip), fun hkk => absurd hkk (Nat.lt_irrefl _)⟩
  obtain ⟨a, b, c⟩ := suLoop_hole O _ vs k rfl hk .refl H
  obtain ⟨d, e, f⟩ := suLoop_perm (lt := lt) (x := vs.getD k .none) _ vs k rfl hk
  unfold sup sdown
  have hl : (suLoop lt vs k).2 < (suLoop lt vs k).1.length := by rw [e]; exact d
  simp only
  rw [getD_set_self hl]
  refine sdLoop_heap O _ _ (by rw [List.length_set]; exact hl) a ⟨?_, ?_⟩ ?_
  · intro i i0 il is ip iq
    rw [List.length_set] at il
    rw [getD_set_ne hl (by exact zq108 ip iq), getD_set_ne hl (by exact zq109 iq)]
    exact b.rel i i0 il is ip iq
  · intro hs i i0 il ie
    rw [List.length_set] at il
    exact (zq110 c i0 il ie).elim
  · intro i i0 il ie
    rw [List.length_set] at il
    exact (zq110 c i0 il ie).elim
theorem push_heap {lt : Value → Value → Bool} (O : SWO lt) {vs : List Value} {x : Value} (h : HeapFrom lt 0 vs) : HeapFrom lt 0 (sdown lt (vs ++ [x]) 0 vs.length) := by
  have hl : vs.length < (vs ++ [x]).length := by simp
  have hd : ∀ p, Dsc 0 p := by
    intro p
    induction p using Nat.strongRecOn with
    | ind p ih => by_cases h : p = 0; subst h; exact .refl; exact .step (by exact zq111 h) (ih _ (by exact zq112 h))
  have e : ∀ i, i < vs.length → (vs ++ [x]).getD i .none = vs.getD i .none := fun i hi => by
    simp only [List.getD_eq_getElem?_getD]; rw [List.getElem?_append_left hi]
  unfold sdown
  simp only
  refine sdLoop_heap O _ _ hl (hd _) ⟨?_, ?_⟩ ?_
  · intro i i0 il is ip iq
    rw [List.length_append, List.length_singleton] at il
    rw [e i (by exact zq113 il ip iq), e _ (by exact zq114 i0 il ip iq)]
    exact h i i0 (by exact zq113 il ip iq) (by omega)
  · intro hs i i0 il ie
    rw [List.length_append, List.length_singleton] at il
    exact (zq115 i0 il ie).elim
  · intro i i0 il ie
    rw [List.length_append, List.length_singleton] at il
    exact (zq115 i0 il ie).elim
theorem heap_root {lt : Value → Value → Bool} (O : SWO lt) {vs : List Value} (h : HeapFrom lt 0 vs) : ∀ i, i < vs.length → lt (vs.getD i .none) (vs.getD 0 .none) = false := by
  intro i
  induction i using Nat.strongRecOn with
  | ind i ih =>
    intro hi
    by_cases h0 : i = 0
    · subst h0; cases h : lt (vs.getD 0 .none) (vs.getD 0 .none); rfl; exact absurd h (by rw [O.asym _ _ h]; simp)
    · exact O.trans _ _ _ (ih ((i - 1) / 2) (by exact zq112 h0) (by exact zq116 hi)) (h i (by exact zq111 h0) hi (by exact zq117))
noncomputable def hfy (lt : Value → Value → Bool) : Nat → List Value → List Value
  | 0, vs => vs
  | k + 1, vs => hfy lt k (sup lt vs k)
theorem hfy_perm {lt : Value → Value → Bool} : ∀ (k : Nat) (vs : List Value), k ≤ vs.length → (hfy lt k vs).Perm vs
  | 0, _, _ => .refl _
  | k + 1, vs, h => (hfy_perm k (sup lt vs k) (by rw [sup_length (by exact zq118 h)]; exact zq119 h)).trans (sup_perm (by exact zq118 h))
theorem hfy_heap {lt : Value → Value → Bool} (O : SWO lt) : ∀ (k : Nat) (vs : List Value), k ≤ vs.length → HeapFrom lt k vs → HeapFrom lt 0 (hfy lt k vs)
  | 0, _, _, h => h
  | k + 1, vs, hk, h => hfy_heap O k (sup lt vs k) (by rw [sup_length (by exact zq118 hk)]; exact zq119 hk) (sup_heap O (by exact zq118 hk) h)
theorem heapFrom_half {lt : Value → Value → Bool} (vs : List Value) : HeapFrom lt (vs.length / 2) vs := fun i i0 il is => by exact (zq120 i0 il is).elim

theorem LtOK.weak {prog : Program} {w : World} {news news' : List (Addr × Obj)} {lt : Value → Value → Bool} {vs : List Value} (h : LtOK prog w news lt vs) (hs : ∀ p ∈ news, p ∈ news') : LtOK prog w news' lt vs :=
  fun v hv u hu A h₀ L s Q E a b c N q => h v hv u hu A h₀ L s Q E a b c (nsub N hs) q
theorem b900 {a n : Nat} (h : n < 900) (e : a = n) : a < 1000 := e ▸ Nat.lt_trans h (by decide)
theorem b900s {a n : Nat} (h : n < 900) (e : a = n + 1) : a < 1000 := by exact zq130 h e
theorem half900 {n : Nat} (h : n < 900) : n / 2 < 1000 := by exact zq131 h
theorem half_le {k n : Nat} (h : k + 1 ≤ n / 2) : k < n ∧ k ≤ n / 2 := by exact zq132 h
theorem int_s1 (j : Nat) : ((j + 1 : Nat) : Int) - 1 = (j : Int) := by exact zq133
theorem int_s2 (j : Nat) : ((j + 1 : Nat) : Int) - 1 + -1 = (j : Int) - 1 := by exact zq134
theorem pos_succ {k : Nat} (h : (0 : Int) < (k : Int)) : ∃ j, k = j + 1 := ⟨k - 1, by exact zq135 h⟩
theorem le_zero {k : Nat} (h : (k : Int) ≤ 0) : k = 0 := by exact zq136 h
inductive HfI (g : Heap) (L' I l : Addr) (e : Nat) (news : List (Addr × Obj)) (lt : Value → Value → Bool) (vs : List Value) (k : Nat) (h' : Heap) (tk : Nat) : Prop
  | mk (m₂ : Str → Option Value) (vs' : List Value) (F : Fr g L' h' m₂) (N : News g L' h' ((I, riO ((k : Int) - 1) k (-1)) :: (l, listOf vs'.toArray e) :: news)) (hp : vs'.Perm vs) (hk : k ≤ vs.length / 2)
    (q1 : m₂ (Str.ofString "x") = some (.ref l)) (q2 : hfy lt k vs' = hfy lt (vs.length / 2) vs) : HfI g L' I l e news lt vs k h' tk
inductive HfZ (g : Heap) (L' l : Addr) (e : Nat) (news : List (Addr × Obj)) (vs : List Value) (h' : Heap) (tk : Nat) : Prop
  | mk (m₂ : Str → Option Value) (F : Fr g L' h' m₂) (N : News g L' h' ((l, listOf vs.toArray e) :: news)) : HfZ g L' l e news vs h' tk
theorem nswap {h₀ h : Heap} {L : Addr} {a b : Addr × Obj} {news : List (Addr × Obj)} (N : News h₀ L h (a :: b :: news)) : News h₀ L h (b :: a :: news) := nsub N (List.forall_mem_cons.mpr ⟨.tail _ (.head _), List.forall_mem_cons.mpr ⟨.head _, fun _ h => .tail _ (.tail _ h)⟩⟩)
section
variable {prog : Program} {w : World} {n : Nat} {A : Around} {h₀ : Heap} {L l : Addr} {m : Str → Option Value} {news : List (Addr × Obj)} {hp : Heap} {gs : Array GenState} {dr : Drawn} {tk₀ : Nat} {oo : OsState} {R : Result → Shared → Prop} {vs : List Value} {e : Nat} {lt : Value → Value → Bool}
theorem heappush_call {x : Value} (c : Cx (n + 3) w A h₀ L) (F : Fr h₀ L hp m) (N : News h₀ L hp ((l, listOf vs.toArray e) :: news)) (hne : ∀ p ∈ news, p.1 ≠ l) (hlt : LtOK prog w news lt (vs ++ [x])) (hb : vs.length < 900)
    (post : ∀ h' tk, Fr h₀ L h' m → News h₀ L h' ((l, listOf (sdown lt (vs ++ [x]) 0 vs.length).toArray (e + 1)) :: news) → tk₀ ≤ tk → R (.ok (.ret .none)) ⟨h', gs, dr, tk, oo⟩) :
    codeAny (model prog w) A (.call (.ref 21) ⟨[.ref l, x], []⟩) R ⟨hp, gs, dr, tk₀, oo⟩ := by
  refine codeAny_mt ?_
  refine c.call F N (f := 21) (binds := [(Str.ofString "heap", .ref l), (Str.ofString "item", x)]) (ho := rfl) (hcd := rfl) (BindsTo.of_eq rfl) (locs rfl) ?_ rfl rfl rfl rfl (by decide)
  clear F N c
  intro g L' h₁ m' hm c' F' N'
  have k1 : m' (Str.ofString "heap") = some (.ref l) := (hm _).trans rfl
  have k2 : m' (Str.ofString "item") = some x := (hm _).trans rfl
  clear hm
  have hl1 : (vs ++ [x]).length = vs.length + 1 := List.length_append
  have hl2 := b900s hb hl1
  repeat kt_at_get
  refine methN PySem.F.slot_list_append PySem.F.type_list_append (by assumption) (.head _) ?_
  repeat kt_at_get
  refine appendN (by assumption) (by assumption) hne (b900 hb rfl) ?_
  intro _ _ _
  refine ⟨rfl, ?_⟩
  repeat kt_at_get
  refine lenN (by assumption) (.head _) hl2 ?_
  repeat kt_at_get
  rw [hl1, int_s1]
  refine wpAny_call (siftdown_call (start := 0) c' (by assumption) (by assumption) hne hlt (hl1 ▸ Nat.lt_succ_self _) hl2 fun h6 tk6 F6 N6 htk6 => ⟨rfl, ?_⟩)
  repeat kt_at_get
  exact leaveK_ F6 N6 fun F7 N7 htok => post _ _ F7 N7 htok
theorem heapreplace_call {x : Value} (c : Cx (n + 4) w A h₀ L) (F : Fr h₀ L hp m) (N : News h₀ L hp ((l, listOf vs.toArray e) :: news)) (hne : ∀ p ∈ news, p.1 ≠ l) (hlt : LtOK prog w news lt (x :: vs)) (h0 : 0 < vs.length) (hb : vs.length < 900)
    (post : ∀ h' tk, Fr h₀ L h' m → News h₀ L h' ((l, listOf (sup lt (vs.set 0 x) 0).toArray e) :: news) → tk₀ ≤ tk → R (.ok (.ret (vs.getD 0 .none))) ⟨h', gs, dr, tk, oo⟩) :
    codeAny (model prog w) A (.call (.ref 35) ⟨[.ref l, x], []⟩) R ⟨hp, gs, dr, tk₀, oo⟩ := by
  refine codeAny_mt ?_
  refine c.call F N (f := 35) (binds := [(Str.ofString "heap", .ref l), (Str.ofString "item", x)]) (ho := rfl) (hcd := rfl) (BindsTo.of_eq rfl) (locs rfl) ?_ rfl rfl rfl rfl (by decide)
  clear F N c
  intro g L' h₁ m' hm c' F' N'
  have k1 : m' (Str.ofString "heap") = some (.ref l) := (hm _).trans rfl
  have k2 : m' (Str.ofString "item") = some x := (hm _).trans rfl
  clear hm
  have hl1 : (vs.set 0 x).length = vs.length := List.length_set
  repeat kt_at_get
  refine itemN0 (by assumption) (.head _) h0 (b900 hb rfl) ?_ (by with_unfolding_all rfl) (by intro _; with_unfolding_all rfl)
  repeat kt_at_get
  refine setN0 (by assumption) (by assumption) hne h0 (b900 hb rfl) ?_
  intro _ _ _
  repeat kt_at_get
  refine wpAny_call (siftup_call (pos := 0) c' (by assumption) (by assumption) hne (hlt.mono (set_sub (fun _ h => .tail _ h) (.head _))) (hl1 ▸ h0) (b900 hb hl1) fun h6 tk6 F6 N6 htk6 => ⟨rfl, ?_⟩)
  repeat kt_at_get
  exact leaveK_ F6 N6 fun F7 N7 htok => post _ _ F7 N7 htok
theorem heapify_call (c : Cx (n + 4) w A h₀ L) (F : Fr h₀ L hp m) (N : News h₀ L hp ((l, listOf vs.toArray e) :: news)) (hne : ∀ p ∈ news, p.1 ≠ l) (hlt : LtOK prog w news lt vs) (hb : vs.length < 900)
    (post : ∀ h' tk, Fr h₀ L h' m → News h₀ L h' ((l, listOf (hfy lt (vs.length / 2) vs).toArray e) :: news) → tk₀ ≤ tk → R (.ok (.ret .none)) ⟨h', gs, dr, tk, oo⟩) :
    codeAny (model prog w) A (.call (.ref 42) ⟨[.ref l], []⟩) R ⟨hp, gs, dr, tk₀, oo⟩ := by
  refine codeAny_mt ?_
  refine c.call F N (f := 42) (binds := [(Str.ofString "x", .ref l)]) (ho := rfl) (hcd := rfl) (BindsTo.of_eq rfl) (locs rfl) ?_ rfl rfl rfl rfl (by decide)
  clear F N c
  intro g L' h₁ m' hm c' F' N'
  have k1 : m' (Str.ofString "x") = some (.ref l) := (hm _).trans rfl
  clear hm
  repeat kt_at_get
  refine lenN (by assumption) (.head _) (b900 hb rfl) ?_
  repeat kt_at_get
  refine div2 ?_
  repeat kt_at_get
  refine callRange (by assumption) (by assumption) ?_
  intro D h2 u v tk F2 N2 hD htk
  repeat kt_at_get
  refine callReversed (n := vs.length / 2) (half900 hb) F2 N2 (.head _) ?_
  intro I h3 F3 N3 hI
  refine iterRI N3 (.head _) ?_
  have hIl : I ≠ l := Ne.symm (hI (l, listOf vs.toArray e) (.tail _ (.head _)))
  have hne' : ∀ p ∈ news, p.1 ≠ I := fun p hp => hI p (.tail _ (.tail _ hp))
  refine forLI (HfI g L' I l e news lt vs) (HfZ g L' l e news (hfy lt (vs.length / 2) vs)) ?turn (vs.length / 2) ?init ?exit
  case init => exact ⟨_, vs, F3, nsub N3 (List.forall_mem_cons.mpr ⟨.head _, fun _ h => .tail _ (.tail _ h)⟩), .refl _, Nat.le_refl _, by kt_at_in, rfl⟩
  case turn =>
    clear F' N' k1 F2 N2 hD F3 N3 hI post
    rintro k h' tk' B Y hB ⟨m₂, vs', F5, N5, hp, hk, q1, q2⟩
    have hlen := hp.length_eq
    refine nextRange c'.hh F5 N5 (List.forall_mem_cons.mpr ⟨hIl.symm, hne'⟩) ?_ ?_
    · clear F5 N5
      intro h6 hpos F6 N6
      obtain ⟨j, rfl⟩ := pos_succ hpos
      have hj := half_le hk
      rw [int_s2, int_s1] at N6
      rw [int_s1]
      refine wpAny_pure ?_
      repeat kt_at_get
      refine wpAny_call (siftup_call (pos := j) c' (by assumption) (nswap (by assumption)) (List.forall_mem_cons.mpr ⟨hIl, hne⟩) (LtOK.weak (hlt.mono fun v hv => hp.mem_iff.mp hv) fun p hp => .tail _ hp) (hlen.symm ▸ hj.1) (b900 hb hlen) fun h8 tk8 F8 N8 htk8 => ⟨rfl, ?_⟩)
      repeat kt_at_get
      exact hB.next j (Nat.lt_succ_self j) ⟨_, sup lt vs' j, F8, nswap N8, (sup_perm (hlen.symm ▸ hj.1)).trans hp, hj.2, by kt_at_in, q2⟩
    · intro h6 hpos F6 N6
      obtain rfl := le_zero hpos
      exact hB.fin ⟨_, F6, q2 ▸ N6⟩
  case exit =>
    clear F' N' k1 F2 N2 hD F3 N3 hI
    rintro h' tk' ⟨m₂, F5, N5⟩
    repeat kt_at_get
    exact leaveK_ F5 N5 fun F7 N7 htok => post _ _ F7 N7 htok
theorem heapreplace_max_call {x : Value} (c : Cx (n + 4) w A h₀ L) (F : Fr h₀ L hp m) (N : News h₀ L hp ((l, listOf vs.toArray e) :: news)) (hne : ∀ p ∈ news, p.1 ≠ l) (hlt : LtOK prog w news lt (x :: vs)) (h0 : 0 < vs.length) (hb : vs.length < 900)
    (post : ∀ h' tk, Fr h₀ L h' m → News h₀ L h' ((l, listOf (sup (fun a b => lt b a) (vs.set 0 x) 0).toArray e) :: news) → tk₀ ≤ tk → R (.ok (.ret (vs.getD 0 .none))) ⟨h', gs, dr, tk, oo⟩) :
    codeAny (model prog w) A (.call (.ref 49) ⟨[.ref l, x], []⟩) R ⟨hp, gs, dr, tk₀, oo⟩ := by
  refine codeAny_mt ?_
  refine c.call F N (f := 49) (binds := [(Str.ofString "heap", .ref l), (Str.ofString "item", x)]) (ho := rfl) (hcd := rfl) (BindsTo.of_eq rfl) (locs rfl) ?_ rfl rfl rfl rfl (by decide)
  clear F N c
  intro g L' h₁ m' hm c' F' N'
  have k1 : m' (Str.ofString "heap") = some (.ref l) := (hm _).trans rfl
  have k2 : m' (Str.ofString "item") = some x := (hm _).trans rfl
  clear hm
  have hl1 : (vs.set 0 x).length = vs.length := List.length_set
  repeat kt_at_get
  refine itemN0 (by assumption) (.head _) h0 (b900 hb rfl) ?_ (by with_unfolding_all rfl) (by intro _; with_unfolding_all rfl)
  repeat kt_at_get
  refine setN0 (by assumption) (by assumption) hne h0 (b900 hb rfl) ?_
  intro _ _ _
  repeat kt_at_get
  refine wpAny_call (siftup_max_call (pos := 0) c' (by assumption) (by assumption) hne (hlt.mono (set_sub (fun _ h => .tail _ h) (.head _))) (hl1 ▸ h0) (b900 hb hl1) fun h6 tk6 F6 N6 htk6 => ⟨rfl, ?_⟩)
  repeat kt_at_get
  exact leaveK_ F6 N6 fun F7 N7 htok => post _ _ F7 N7 htok
theorem heapify_max_call (c : Cx (n + 4) w A h₀ L) (F : Fr h₀ L hp m) (N : News h₀ L hp ((l, listOf vs.toArray e) :: news)) (hne : ∀ p ∈ news, p.1 ≠ l) (hlt : LtOK prog w news lt vs) (hb : vs.length < 900)
    (post : ∀ h' tk, Fr h₀ L h' m → News h₀ L h' ((l, listOf (hfy (fun a b => lt b a) (vs.length / 2) vs).toArray e) :: news) → tk₀ ≤ tk → R (.ok (.ret .none)) ⟨h', gs, dr, tk, oo⟩) :
    codeAny (model prog w) A (.call (.ref 56) ⟨[.ref l], []⟩) R ⟨hp, gs, dr, tk₀, oo⟩ := by
  refine codeAny_mt ?_
  refine c.call F N (f := 56) (binds := [(Str.ofString "x", .ref l)]) (ho := rfl) (hcd := rfl) (BindsTo.of_eq rfl) (locs rfl) ?_ rfl rfl rfl rfl (by decide)
  clear F N c
  intro g L' h₁ m' hm c' F' N'
  have k1 : m' (Str.ofString "x") = some (.ref l) := (hm _).trans rfl
  clear hm
  repeat kt_at_get
  refine lenN (by assumption) (.head _) (b900 hb rfl) ?_
  repeat kt_at_get
  refine div2 ?_
  repeat kt_at_get
  refine callRange (by assumption) (by assumption) ?_
  intro D h2 u v tk F2 N2 hD htk
  repeat kt_at_get
  refine callReversed (n := vs.length / 2) (half900 hb) F2 N2 (.head _) ?_
  intro I h3 F3 N3 hI
  refine iterRI N3 (.head _) ?_
  have hIl : I ≠ l := Ne.symm (hI (l, listOf vs.toArray e) (.tail _ (.head _)))
  have hne' : ∀ p ∈ news, p.1 ≠ I := fun p hp => hI p (.tail _ (.tail _ hp))
  refine forLI (HfI g L' I l e news (fun a b => lt b a) vs) (HfZ g L' l e news (hfy (fun a b => lt b a) (vs.length / 2) vs)) ?turn (vs.length / 2) ?init ?exit
  case init => exact ⟨_, vs, F3, nsub N3 (List.forall_mem_cons.mpr ⟨.head _, fun _ h => .tail _ (.tail _ h)⟩), .refl _, Nat.le_refl _, by kt_at_in, rfl⟩
  case turn =>
    clear F' N' k1 F2 N2 hD F3 N3 hI post
    rintro k h' tk' B Y hB ⟨m₂, vs', F5, N5, hp, hk, q1, q2⟩
    have hlen := hp.length_eq
    refine nextRange c'.hh F5 N5 (List.forall_mem_cons.mpr ⟨hIl.symm, hne'⟩) ?_ ?_
    · clear F5 N5
      intro h6 hpos F6 N6
      obtain ⟨j, rfl⟩ := pos_succ hpos
      have hj := half_le hk
      rw [int_s2, int_s1] at N6
      rw [int_s1]
      refine wpAny_pure ?_
      repeat kt_at_get
      refine wpAny_call (siftup_max_call (pos := j) c' (by assumption) (nswap (by assumption)) (List.forall_mem_cons.mpr ⟨hIl, hne⟩) (LtOK.weak (hlt.mono fun v hv => hp.mem_iff.mp hv) fun p hp => .tail _ hp) (hlen.symm ▸ hj.1) (b900 hb hlen) fun h8 tk8 F8 N8 htk8 => ⟨rfl, ?_⟩)
      repeat kt_at_get
      exact hB.next j (Nat.lt_succ_self j) ⟨_, sup (fun a b => lt b a) vs' j, F8, nswap N8, (sup_perm (hlen.symm ▸ hj.1)).trans hp, hj.2, by kt_at_in, q2⟩
    · intro h6 hpos F6 N6
      obtain rfl := le_zero hpos
      exact hB.fin ⟨_, F6, q2 ▸ N6⟩
  case exit =>
    clear F' N' k1 F2 N2 hD F3 N3 hI
    rintro h' tk' ⟨m₂, F5, N5⟩
    repeat kt_at_get
    exact leaveK_ F5 N5 fun F7 N7 htok => post _ _ F7 N7 htok
theorem heappop_call {x : Value} (c : Cx (n + 4) w A h₀ L) (F : Fr h₀ L hp m) (N : News h₀ L hp ((l, listOf (vs ++ [x]).toArray e) :: news)) (hne : ∀ p ∈ news, p.1 ≠ l) (hlt : LtOK prog w news lt (vs ++ [x])) (hb : vs.length < 900)
    (post1 : ∀ h' tk, vs = [] → Fr h₀ L h' m → News h₀ L h' ((l, listOf [].toArray (e + 1)) :: news) → tk₀ ≤ tk → R (.ok (.ret x)) ⟨h', gs, dr, tk, oo⟩)
    (post : ∀ h' tk, 0 < vs.length → Fr h₀ L h' m → News h₀ L h' ((l, listOf (sup lt (vs.set 0 x) 0).toArray (e + 1)) :: news) → tk₀ ≤ tk → R (.ok (.ret (vs.getD 0 .none))) ⟨h', gs, dr, tk, oo⟩) :
    codeAny (model prog w) A (.call (.ref 28) ⟨[.ref l], []⟩) R ⟨hp, gs, dr, tk₀, oo⟩ := by
  refine codeAny_mt ?_
  refine c.call F N (f := 28) (binds := [(Str.ofString "heap", .ref l)]) (ho := rfl) (hcd := rfl) (BindsTo.of_eq rfl) (locs rfl) ?_ rfl rfl rfl rfl (by decide)
  clear F N c
  intro g L' h₁ m' hm c' F' N'
  have k1 : m' (Str.ofString "heap") = some (.ref l) := (hm _).trans rfl
  clear hm
  have hb' := b900 hb rfl
  repeat kt_at_get
  refine methN PySem.F.slot_list_pop PySem.F.type_list_pop (by assumption) (.head _) ?_
  repeat kt_at_get
  refine popN (by assumption) (by assumption) hne hb' ?_
  intro _ _ _
  repeat kt_at_get
  refine truthyN (by assumption) (.head _) hb' ?_
  have hl1 : (vs.set 0 x).length = vs.length := List.length_set
  refine iteB (fun hv => ?_) (fun hv => ?_)
  · have h0 : 0 < vs.length := by cases vs with | nil => cases hv | cons a b => exact Nat.succ_pos _
    repeat kt_at_get
    refine itemN0 (by assumption) (.head _) h0 hb' ?_ (by with_unfolding_all rfl) (by intro _; with_unfolding_all rfl)
    repeat kt_at_get
    refine setN0 (by assumption) (by assumption) hne h0 hb' ?_
    intro _ _ _
    repeat kt_at_get
    refine wpAny_call (siftup_call (pos := 0) c' (by assumption) (by assumption) hne (hlt.mono (set_sub (fun _ h => List.mem_append_left _ h) (List.mem_append_right _ (.head _)))) (hl1 ▸ h0) (b900 hb hl1) fun h6 tk6 F6 N6 htk6 => ⟨rfl, ?_⟩)
    repeat kt_at_get
    exact leaveK_ F6 N6 fun F7 N7 htok => post _ _ h0 F7 N7 htok
  · obtain rfl : vs = [] := by cases vs with | nil => rfl | cons a b => cases hv
    repeat kt_at_get
    exact leaveK_ (by assumption) (by assumption) fun F7 N7 htok => post1 _ _ rfl F7 N7 htok
end

-- fall, piece by piece: 6 * spot = 1024 * i0 + f, i0 = c mod 6, the corner k
noncomputable def fallw (w : Int) : Int := min (max (min w (6144 - w) - 1024) 0) 1024
theorem fallw0 {w : Int} (h : w ≤ 1024) : fallw w = 0 := by unfold fallw; exact zq187 h
theorem fallw5 {w : Int} (h : 5120 ≤ w) : fallw w = 0 := by unfold fallw; exact zq188 h
theorem fallw1 {w : Int} (h : 1024 ≤ w) (h2 : w ≤ 2048) : fallw w = w - 1024 := by unfold fallw; exact zq189 h h2
theorem fallw2 {w : Int} (h : 2048 ≤ w) (h2 : w ≤ 4096) : fallw w = 1024 := by unfold fallw; exact zq190 h h2
theorem fallw4 {w : Int} (h : 4096 ≤ w) (h2 : w ≤ 5120) : fallw w = 5120 - w := by unfold fallw; exact zq191 h h2
theorem fall_at {s i0 f c k d : Int} (hf : f = 6 * s - 1024 * i0) (bf : 0 ≤ f ∧ f < 1024) (hq : i0 % 6 = c) (hd : (c * 1024 - k) % 6144 = d) (hd2 : d + 1024 ≤ 6144) : fall s k = fallw (d + f) := by
  have : (6 * s - k) % 6144 = d + f := by exact zq192 hf bf hq hd hd2
  unfold fall
  rw [this]; rfl
section
variable {s i0 f c k : Int}
theorem fall_d0 (hf : f = 6 * s - 1024 * i0) (bf : 0 ≤ f ∧ f < 1024) (hq : i0 % 6 = c) (hd : (c * 1024 - k) % 6144 = 0) : fall s k = 0 := by
  rw [fall_at hf bf hq hd (by decide), fallw0 (by exact zq193 hf bf hq)]
theorem fall_d5 (hf : f = 6 * s - 1024 * i0) (bf : 0 ≤ f ∧ f < 1024) (hq : i0 % 6 = c) (hd : (c * 1024 - k) % 6144 = 5120) : fall s k = 0 := by
  rw [fall_at hf bf hq hd (by decide), fallw5 (by exact zq194 hf bf hq)]
theorem fall_d1 (hf : f = 6 * s - 1024 * i0) (bf : 0 ≤ f ∧ f < 1024) (hq : i0 % 6 = c) (hd : (c * 1024 - k) % 6144 = 1024) : fall s k = f := by
  rw [fall_at hf bf hq hd (by decide), fallw1 (by exact zq195 hf bf hq) (by exact zq196 hf bf hq)]; exact zq197
theorem fall_d2 (hf : f = 6 * s - 1024 * i0) (bf : 0 ≤ f ∧ f < 1024) (hq : i0 % 6 = c) (hd : (c * 1024 - k) % 6144 = 2048) : fall s k = 1024 := by
  rw [fall_at hf bf hq hd (by decide), fallw2 (by exact zq198 hf bf hq) (by exact zq199 hf bf hq)]
theorem fall_d3 (hf : f = 6 * s - 1024 * i0) (bf : 0 ≤ f ∧ f < 1024) (hq : i0 % 6 = c) (hd : (c * 1024 - k) % 6144 = 3072) : fall s k = 1024 := by
  rw [fall_at hf bf hq hd (by decide), fallw2 (by exact zq200 hf bf hq) (by exact zq201 hf bf hq)]
theorem fall_d4 (hf : f = 6 * s - 1024 * i0) (bf : 0 ≤ f ∧ f < 1024) (hq : i0 % 6 = c) (hd : (c * 1024 - k) % 6144 = 4096) : fall s k = 1024 - f := by
  rw [fall_at hf bf hq hd (by decide), fallw4 (by exact zq202 hf bf hq) (by exact zq203 hf bf hq)]; exact zq204
end
theorem fall6 {s i0 f : Int} (hf : f = 6 * s - 1024 * i0) (bf : 0 ≤ f ∧ f < 1024) :
    (i0 % 6 = 0 ∧ fall s 0 = 0 ∧ fall s 2048 = 1024 - f ∧ fall s 4096 = 1024) ∨ (i0 % 6 = 1 ∧ fall s 0 = f ∧ fall s 2048 = 0 ∧ fall s 4096 = 1024) ∨
    (i0 % 6 = 2 ∧ fall s 0 = 1024 ∧ fall s 2048 = 0 ∧ fall s 4096 = 1024 - f) ∨ (i0 % 6 = 3 ∧ fall s 0 = 1024 ∧ fall s 2048 = f ∧ fall s 4096 = 0) ∨
    (i0 % 6 = 4 ∧ fall s 0 = 1024 - f ∧ fall s 2048 = 1024 ∧ fall s 4096 = 0) ∨ (i0 % 6 = 5 ∧ fall s 0 = 0 ∧ fall s 2048 = 1024 ∧ fall s 4096 = f) := by
  have : i0 % 6 = 0 ∨ i0 % 6 = 1 ∨ i0 % 6 = 2 ∨ i0 % 6 = 3 ∨ i0 % 6 = 4 ∨ i0 % 6 = 5 := by exact zq205
  rcases this with q | q | q | q | q | q
  · exact .inl ⟨q, fall_d0 hf bf q (by decide), fall_d4 hf bf q (by decide), fall_d2 hf bf q (by decide)⟩
  · exact .inr (.inl ⟨q, fall_d1 hf bf q (by decide), fall_d5 hf bf q (by decide), fall_d3 hf bf q (by decide)⟩)
  · exact .inr (.inr (.inl ⟨q, fall_d2 hf bf q (by decide), fall_d0 hf bf q (by decide), fall_d4 hf bf q (by decide)⟩))
  · exact .inr (.inr (.inr (.inl ⟨q, fall_d3 hf bf q (by decide), fall_d1 hf bf q (by decide), fall_d5 hf bf q (by decide)⟩)))
  · exact .inr (.inr (.inr (.inr (.inl ⟨q, fall_d4 hf bf q (by decide), fall_d2 hf bf q (by decide), fall_d0 hf bf q (by decide)⟩))))
  · exact .inr (.inr (.inr (.inr (.inr ⟨q, fall_d5 hf bf q (by decide), fall_d3 hf bf q (by decide), fall_d1 hf bf q (by decide)⟩))))
theorem hue_arith (spot : Int) (h0 : 0 ≤ spot) (h1 : spot < 2048) : ∃ q : Int, q % 1024 = spot % 1024 ∧ -1024 ≤ q ∧ q ≤ 1024 ∧
    (if fall spot 0 = 0 then fall spot 4096 - fall spot 2048 else if fall spot 2048 = 0 then 2048 + fall spot 0 - fall spot 4096 else 4096 + fall spot 2048 - fall spot 0) = 6 * q ∧
    (fall spot 0 = 0 ∨ fall spot 2048 = 0 ∨ fall spot 4096 = 0) ∧ (fall spot 0 = 1024 ∨ fall spot 2048 = 1024 ∨ fall spot 4096 = 1024) := by
  obtain ⟨f, hf⟩ : ∃ f, f = 6 * spot - 1024 * (6 * spot / 1024) := ⟨_, rfl⟩
  have bf : 0 ≤ f ∧ f < 1024 := by exact zq206 hf
  have hd : spot / 1024 = 6 * spot / 1024 / 6 := by exact zq207
  have h6 := fall6 hf bf
  revert h6 hf hd
  generalize 6 * spot / 1024 = i0
  intro hf hd h6
  have hm : spot % 1024 = spot - 1024 * (i0 / 6) := by exact zq208 hd
  have hq : 0 ≤ spot - 1024 * (i0 / 6) ∧ spot - 1024 * (i0 / 6) < 1024 := by exact zq209 hd
  clear hd h0 h1
  rcases h6 with ⟨c, e0, e1, e2⟩ | ⟨c, e0, e1, e2⟩ | ⟨c, e0, e1, e2⟩ | ⟨c, e0, e1, e2⟩ | ⟨c, e0, e1, e2⟩ | ⟨c, e0, e1, e2⟩
  · refine ⟨spot % 1024, by exact zq210 bf hf hm c, by exact zq211 bf hf hm c, by exact zq212 bf hf hm c, ?_, .inl e0, .inr (.inr e2)⟩
    rw [if_pos e0, e1, e2]; exact zq213 hf hm c
  · refine ⟨spot % 1024, by exact zq214 bf hf hm c, by exact zq215 bf hf hm c, by exact zq216 bf hf hm c, ?_, .inr (.inl e1), .inr (.inr e2)⟩
    rw [if_neg (by exact zq217 hf c e0), if_pos e1, e0, e2]; exact zq218 hf hm c
  · refine ⟨spot % 1024, by exact zq219 bf hf hm c, by exact zq220 bf hf hm c, by exact zq221 bf hf hm c, ?_, .inr (.inl e1), .inl e0⟩
    rw [if_neg (by exact zq222 e0), if_pos e1, e0, e2]; exact zq223 hf hm c
  · refine ⟨spot % 1024, by exact zq224 bf hf hm c, by exact zq225 bf hf hm c, by exact zq226 bf hf hm c, ?_, .inr (.inr e2), .inl e0⟩
    rw [if_neg (by exact zq222 e0)]
    split <;> (first | exact zq227 hf hm c e0 e1 e2 (by assumption) | exact zq228 hf hm c e0 e1)
  · refine ⟨spot % 1024, by exact zq229 bf hf hm c, by exact zq230 bf hf hm c, by exact zq231 bf hf hm c, ?_, .inr (.inr e2), .inr (.inl e1)⟩
    rw [if_neg (by exact zq232 hf c e0), if_neg (by exact zq222 e1), e0, e1]; exact zq233 hf hm c
  · refine ⟨spot % 1024 - 1024, by exact zq234 bf hf hm c, by exact zq235 bf hf hm c, by exact zq236 bf hf hm c, ?_, .inl e0, .inr (.inl e1)⟩
    rw [if_pos e0, e1, e2]; exact zq237 hf hm c

section
variable {prog : Program} {w : World} {n : Nat} {A : Around} {h₀ : Heap} {L : Addr} {m : Str → Option Value} {news : List (Addr × Obj)} {hp : Heap} {gs : Array GenState} {dr : Drawn} {tk₀ : Nat} {oo : OsState} {R : Result → Shared → Prop}
theorem rgb_call {r g b rc gc bc q : Int} {tr tg tb : Tok} (c : Cx (n + 2) w A h₀ L) (F : Fr h₀ L hp m) (N : News h₀ L hp news)
    (hr : 0 ≤ r ∧ r ≤ 1073741824) (hg : 0 ≤ g ∧ g ≤ 1073741824) (hb : 0 ≤ b ∧ b ≤ 1073741824) (hne : min (min r g) b < max (max r g) b)
    (er : (max (max r g) b - r) * 2 ^ 30 = (max (max r g) b - min (min r g) b) * rc) (eg : (max (max r g) b - g) * 2 ^ 30 = (max (max r g) b - min (min r g) b) * gc) (eb : (max (max r g) b - b) * 2 ^ 30 = (max (max r g) b - min (min r g) b) * bc)
    (brc : 0 ≤ rc ∧ rc ≤ 1073741824) (bgc : 0 ≤ gc ∧ gc ≤ 1073741824) (bbc : 0 ≤ bc ∧ bc ≤ 1073741824)
    (eh : (if r = max (max r g) b then bc - gc else if g = max (max r g) b then 2147483648 + rc - bc else 4294967296 + gc - rc) = 6 * q)
    (post : ∀ h' (tk : Nat) D (t : Nat) v2 v3, Fr h₀ L h' m → News h₀ L h' ((D, tupO [.float (fl (q % 1073741824)) t, v2, v3]) :: news) → (∀ p ∈ news, p.1 ≠ D) → tk₀ ≤ t → t < tk → R (.ok (.ret (.ref D))) ⟨h', gs, dr, tk, oo⟩) :
    codeAny (model prog w) A (.call (.ref 97) ⟨[.float (fl r) tr, .float (fl g) tg, .float (fl b) tb], []⟩) R ⟨hp, gs, dr, tk₀, oo⟩ := by
  refine c.call F N (f := 97) (binds := [(Str.ofString "r", .float (fl r) tr), (Str.ofString "g", .float (fl g) tg), (Str.ofString "b", .float (fl b) tb)]) (ho := rfl) (hcd := rfl) (BindsTo.of_eq rfl) (locs rfl) ?_ rfl rfl rfl rfl (by decide)
  clear F N c
  intro g' L' h₁ m' hm c' F' N'
  have k1 : m' (Str.ofString "r") = some (.float (fl r) tr) := (hm _).trans rfl
  have k2 : m' (Str.ofString "g") = some (.float (fl g) tg) := (hm _).trans rfl
  have k3 : m' (Str.ofString "b") = some (.float (fl b) tb) := (hm _).trans rfl
  clear hm
  generalize hM : max (max r g) b = M at *
  generalize hmm : min (min r g) b = mm at *
  have bM : 0 ≤ M ∧ M ≤ 1073741824 := by exact zq137 hr hg hb hM hmm hne
  have bm : 0 ≤ mm ∧ mm ≤ 1073741824 := by exact zq138 hr hg hb hmm hne bM
  repeat kt_at_get
  refine max3 c'.hh (by exact zq139 hr) (by exact zq139 hg) (by exact zq139 hb) F' N' ?_
  rw [hM]
  intro h2 tk2 t2 F2 N2 htk2
  repeat kt_at_get
  refine min3 c'.hh (by exact zq139 hr) (by exact zq139 hg) (by exact zq139 hb) (by assumption) (by assumption) ?_
  rw [hmm]
  intro h3 tk3 t3 F3 N3 htk3
  repeat kt_at_get
  refine fAdd (by exact zq140 bM) (by exact zq140 bm) ?_
  repeat kt_at_get
  refine fSub (by exact zq140 bM) (by exact zq140 bm) ?_
  repeat kt_at_get
  refine fDivAny c'.hh (by decide) (by decide) fun y => ?_
  repeat kt_at_get
  refine fEq (by exact zq139 bm) (by exact zq139 bM) ?_
  repeat kt_at_get
  refine iteD (fun hq => absurd hq (by exact zq141 hne hq)) (fun _ => ?_)
  repeat kt_at_item
  refine sIfJ (J := fun s' => ∃ h' tk m₂ y t tM ts ty tR, s' = ⟨h', gs, dr, tk, oo⟩ ∧ tk₀ ≤ tk ∧ Fr g' L' h' m₂ ∧ News g' L' h' news ∧ m₂ (Str.ofString "r") = some (.float (fl r) tr) ∧ m₂ (Str.ofString "g") = some (.float (fl g) tg) ∧ m₂ (Str.ofString "b") = some (.float (fl b) tb) ∧
      m₂ (Str.ofString "maxc") = some (.float (fl M) tM) ∧ m₂ (Str.ofString "rangec") = some (.float (fl (M - mm)) tR) ∧ m₂ (Str.ofString "l") = some (.float y t) ∧ m₂ (Str.ofString "s") = some (.float ty ts)) ?_ ?_
  · repeat kt_at_item
    refine fLeAny fun z => ?_
    repeat kt_at_item
    refine iteB (fun _ => ?_) (fun _ => ?_)
    · repeat kt_at_item
      refine fDivAny c'.hh (by exact zq142 hne bM bm) (by exact zq143 hne bM bm) fun y2 => ?_
      repeat kt_at_item
      exact ⟨rfl, _, _, _, _, _, _, _, _, _, rfl, by exact zq144 htk2 htk3, by assumption, by assumption, by kt_at_in, by kt_at_in, by kt_at_in, by kt_at_in, by kt_at_in, by kt_at_in, by kt_at_in⟩
    · repeat kt_at_item
      refine fSub (by decide) (by exact zq140 bM) ?_
      repeat kt_at_item
      refine fSub (by exact zq145 bM) (by exact zq140 bm) ?_
      repeat kt_at_item
      refine fDivAny c'.hh (by exact zq146 hne bM bm) (by exact zq147 hne bM bm) fun y2 => ?_
      repeat kt_at_item
      exact ⟨rfl, _, _, _, _, _, _, _, _, _, rfl, by exact zq148 htk2 htk3, by assumption, by assumption, by kt_at_in, by kt_at_in, by kt_at_in, by kt_at_in, by kt_at_in, by kt_at_in, by kt_at_in⟩
  rintro s' ⟨h4, tk4, m₂, y4, t4, tM4, ts4, ty4, tR4, rfl, htk4, F4, N4, q1, q2, q3, q4, q5, q6, q7⟩
  clear k1 k2 k3
  repeat kt_at_item
  refine fSub (by exact zq140 bM) (by exact zq140 hr) ?_
  repeat kt_at_item
  refine fDiv rc c'.hh (by exact zq149 hr hne bM bm) (by exact zq150 hne bM bm) (by exact zq139 brc) (by exact zq151 hne) er (by rw [decide_eq_false (by exact zq152 hM hmm hne (by assumption)), decide_eq_false (by exact zq153 hne), decide_eq_false (by exact zq154 brc)]; rfl) ?_
  repeat kt_at_item
  refine fSub (by exact zq140 bM) (by exact zq140 hg) ?_
  repeat kt_at_item
  refine fDiv gc c'.hh (by exact zq149 hg hne bM bm) (by exact zq150 hne bM bm) (by exact zq139 bgc) (by exact zq151 hne) eg (by rw [decide_eq_false (by exact zq155 hM hmm hne (by assumption)), decide_eq_false (by exact zq153 hne), decide_eq_false (by exact zq154 bgc)]; rfl) ?_
  repeat kt_at_item
  refine fSub (by exact zq140 bM) (by exact zq140 hb) ?_
  repeat kt_at_item
  refine fDiv bc c'.hh (by exact zq149 hb hne bM bm) (by exact zq150 hne bM bm) (by exact zq139 bbc) (by exact zq151 hne) eb (by rw [decide_eq_false (by exact zq156 hM hmm hne (by assumption)), decide_eq_false (by exact zq153 hne), decide_eq_false (by exact zq154 bbc)]; rfl) ?_
  repeat kt_at_item
  refine sIfJ (J := fun s' => ∃ h' tk m₂ y t ts ty th, s' = ⟨h', gs, dr, tk, oo⟩ ∧ tk₀ ≤ tk ∧ Fr g' L' h' m₂ ∧ News g' L' h' news ∧
      m₂ (Str.ofString "h") = some (.float (fl (6 * q)) th) ∧ m₂ (Str.ofString "l") = some (.float y t) ∧ m₂ (Str.ofString "s") = some (.float ty ts)) ?_ ?_
  · repeat kt_at_item
    refine fEq (by exact zq139 hr) (by exact zq139 bM) ?_
    repeat kt_at_item
    refine iteD (fun h1 => ?_) (fun h1 => ?_)
    · rw [if_pos h1] at eh
      repeat kt_at_item
      refine fSub (by exact zq140 bbc) (by exact zq157 bgc eh) ?_
      rw [eh]
      repeat kt_at_item
      exact ⟨rfl, _, _, _, _, _, _, _, _, rfl, by exact zq158 htk4, by assumption, by assumption, by kt_at_in, by kt_at_in, by kt_at_in⟩
    · rw [if_neg h1] at eh
      repeat kt_at_get
      refine fEq (by exact zq139 hg) (by exact zq139 bM) ?_
      repeat kt_at_item
      refine iteD (fun h2 => ?_) (fun h2 => ?_)
      · rw [if_pos h2] at eh
        repeat kt_at_item
        refine fAdd (by decide) (by exact zq159 brc eh) ?_
        repeat kt_at_item
        refine fSub (by exact zq160 brc eh) (by exact zq140 bbc) ?_
        rw [eh]
        repeat kt_at_item
        exact ⟨rfl, _, _, _, _, _, _, _, _, rfl, by exact zq161 htk4, by assumption, by assumption, by kt_at_in, by kt_at_in, by kt_at_in⟩
      · rw [if_neg h2] at eh
        repeat kt_at_item
        refine fAdd (by decide) (by exact zq140 bgc) ?_
        repeat kt_at_item
        refine fSub (by exact zq162 bgc) (by exact zq163 brc eh) ?_
        rw [eh]
        repeat kt_at_item
        exact ⟨rfl, _, _, _, _, _, _, _, _, rfl, by exact zq161 htk4, by assumption, by assumption, by kt_at_in, by kt_at_in, by kt_at_in⟩
  have bq : -1073741824 ≤ 6 * q ∧ 6 * q ≤ 6442450944 := by
    split at eh
    · exact zq164 bgc bbc eh
    · split at eh <;> (first | exact zq165 brc bbc eh | exact zq166 brc bgc eh)
  clear q1 q2 q3 q4 q5 q6 q7
  rintro s' ⟨h5, tk5, m₃, y5, t5, ts5, ty5, th5, rfl, htk5, F5, N5, q1, q2, q3⟩
  repeat kt_at_item
  refine fDiv q c'.hh (by exact zq167 bq) (by decide) (by exact zq168 bq) (by decide) (by exact zq169) ?_ ?_
  · rw [decide_eq_false (show ¬ (6442450944 : Int) < 0 by decide)]
    by_cases hq : q < 0
    · rw [decide_eq_true hq, decide_eq_true (show 6 * q < 0 by exact zq170 bq hq)]; rfl
    · rw [decide_eq_false hq, decide_eq_false (show ¬ 6 * q < 0 by exact zq171 bq hq)]; rfl
  repeat kt_at_item
  refine fMod1 c'.hh (by exact zq172 bq) ?_
  repeat kt_at_item
  refine tupN (by assumption) (by assumption) (by show 3 < 1000; decide) ?_
  intro D h6 F6 N6 hD
  exact leaveK_ F6 N6 fun F7 N7 => post _ _ _ _ _ _ F7 N7 hD (by exact zq173 htk5) (by exact zq174)
end

inductive ColV (spot share level : Int) (tk₀ i : Nat) (vs : List Value) (tk : Nat) : Prop
  | mk (h : tk₀ ≤ tk) (u : Nat → Nat) (hu : ∀ j, j < i → tk₀ ≤ u j ∧ u j < tk) (hv : vs = (List.range i).map fun j : Nat => Value.float (fl (col spot share level (2048 * (j : Int)))) (u j)) : ColV spot share level tk₀ i vs tk
theorem ColV.nil {spot share level : Int} {tk₀ tk : Nat} (h : tk₀ ≤ tk) : ColV spot share level tk₀ 0 [] tk := ⟨h, fun _ => 0, fun j hj => absurd hj (Nat.not_lt_zero _), rfl⟩
theorem ColV.len {spot share level : Int} {tk₀ i : Nat} {vs : List Value} {tk : Nat} (h : ColV spot share level tk₀ i vs tk) : vs.length = i := by obtain ⟨_, u, _, rfl⟩ := h; simp
theorem ColV.push {spot share level : Int} {tk₀ i : Nat} {vs : List Value} {tk t tk' : Nat} (h : ColV spot share level tk₀ i vs tk) (h1 : tk ≤ t) (h2 : t < tk') : ColV spot share level tk₀ (i + 1) (vs ++ [.float (fl (col spot share level (2048 * (i : Int)))) t]) tk' := by
  obtain ⟨h, u, hu, rfl⟩ := h
  refine ⟨Nat.le_trans h (Nat.le_trans h1 (Nat.le_of_lt h2)), fun j => if j = i then t else u j, fun j hj => ?_, ?_⟩
  · by_cases e : j = i
    · rw [if_pos e]; exact ⟨Nat.le_trans h h1, h2⟩
    · rw [if_neg e]
      have := hu j (Nat.lt_of_le_of_ne (Nat.le_of_lt_succ hj) e)
      exact ⟨this.1, Nat.lt_of_lt_of_le this.2 (Nat.le_trans h1 (Nat.le_of_lt h2))⟩
  · rw [List.range_succ, List.map_append, List.map_cons, List.map_nil, if_pos rfl]
    congr 1
    refine List.map_congr_left fun j hj => ?_
    rw [if_neg (Nat.ne_of_lt (List.mem_range.mp hj))]
inductive CaI (g : Heap) (L' I T P : Addr) (cs : List Value) (news : List (Addr × Obj)) (spot share level : Int) (t1 t2 t3 : Tok) (tk₀ k : Nat) (h' : Heap) (tk : Nat) : Prop
  | mk (m₂ : Str → Option Value) (o : Obj) (i : Nat) (vs : List Value) (ep : Nat) (hki : k + i = 3) (F : Fr g L' h' m₂) (N : News g L' h' ((I, o) :: (T, tupO cs) :: (P, listOf vs.toArray ep) :: news)) (ho : TI o T i)
    (q1 : m₂ (Str.ofString "spot") = some (.int spot t1)) (q2 : m₂ (Str.ofString "share") = some (.int share t2)) (q3 : m₂ (Str.ofString "level") = some (.int level t3)) (q4 : m₂ (Str.ofString "parts") = some (.ref P))
    (hv : ColV spot share level tk₀ i vs tk) : CaI g L' I T P cs news spot share level t1 t2 t3 tk₀ k h' tk
inductive CaZ (g : Heap) (L' P : Addr) (news : List (Addr × Obj)) (spot share level : Int) (tk₀ : Nat) (h' : Heap) (tk : Nat) : Prop
  | mk (m₂ : Str → Option Value) (vs : List Value) (ep : Nat) (F : Fr g L' h' m₂) (N : News g L' h' ((P, listOf vs.toArray ep) :: news)) (q4 : m₂ (Str.ofString "parts") = some (.ref P)) (hv : ColV spot share level tk₀ 3 vs tk) : CaZ g L' P news spot share level tk₀ h' tk
section
variable {prog : Program} {w : World} {n : Nat} {A : Around} {h₀ : Heap} {L : Addr} {m : Str → Option Value} {news : List (Addr × Obj)} {hp : Heap} {gs : Array GenState} {dr : Drawn} {tk₀ : Nat} {oo : OsState} {R : Result → Shared → Prop}
theorem colour_call {spot share level : Int} {t1 t2 t3 : Tok} (c : Cx (n + 2) w A h₀ L) (F : Fr h₀ L hp m) (N : News h₀ L hp news)
    (hsp : 0 ≤ spot ∧ spot < 2048) (hsh : 1 ≤ share ∧ share ≤ 8) (hlv : 1 ≤ level ∧ level ≤ 8)
    (post : ∀ h' (tk : Nat) D (u0 u1 u2 : Nat), Fr h₀ L h' m → News h₀ L h' ((D, tupO [.float (fl (col spot share level 0)) u0, .float (fl (col spot share level 2048)) u1, .float (fl (col spot share level 4096)) u2]) :: news) → (∀ p ∈ news, p.1 ≠ D) →
      tk₀ ≤ u0 → u0 < tk → tk₀ ≤ u1 → u1 < tk → tk₀ ≤ u2 → u2 < tk → R (.ok (.ret (.ref D))) ⟨h', gs, dr, tk, oo⟩) :
    codeAny (model prog w) A (.call (.ref 111) ⟨[.int spot t1, .int share t2, .int level t3], []⟩) R ⟨hp, gs, dr, tk₀, oo⟩ := by
  refine c.call F N (f := 111) (binds := [(Str.ofString "spot", .int spot t1), (Str.ofString "share", .int share t2), (Str.ofString "level", .int level t3)]) (nb := 3) (ho := rfl) (hcd := rfl) (BindsTo.of_eq rfl) (locs rfl) ?_ rfl rfl rfl rfl (by decide)
  clear F N c
  intro g' L' h₁ m' hm c' F' N'
  have k1 : m' (Str.ofString "spot") = some (.int spot t1) := (hm _).trans rfl
  have k2 : m' (Str.ofString "share") = some (.int share t2) := (hm _).trans rfl
  have k3 : m' (Str.ofString "level") = some (.int level t3) := (hm _).trans rfl
  clear hm
  repeat kt_at_item
  refine listN (by assumption) (by assumption) (by decide) ?_
  intro P h2 F2 N2 hP
  repeat kt_at_item
  refine tupN (by assumption) (by assumption) (by show 3 < 1000; decide) ?_
  intro T h3 F3 N3 hT
  refine iterTup F3 N3 (.head _) ?_
  intro I o h4 F4 N4 ho hI
  have hPT : P ≠ T := hT (P, _) (.head _)
  have hPI : P ≠ I := hI (P, _) (.tail _ (.head _))
  have hTI : T ≠ I := hI (T, _) (.head _)
  have hnP : ∀ p ∈ news, p.1 ≠ P := hP
  have hnT : ∀ p ∈ news, p.1 ≠ T := fun p hp => hT p (.tail _ hp)
  have hnI : ∀ p ∈ news, p.1 ≠ I := fun p hp => hI p (.tail _ (.tail _ hp))
  have bc := fun k => col_b (spot := spot) (corner := k) hsh hlv
  refine forLI (CaI g' L' I T P [.int 0 (tk₀ + 3 + 1), .int 2048 (tk₀ + 3 + 1 + 1), .int 4096 (tk₀ + 3 + 1 + 1 + 1)] news spot share level t1 t2 t3 tk₀) (CaZ g' L' P news spot share level tk₀) ?turn 3 ?init ?exit
  case init => exact ⟨_, o, 0, [], _, rfl, F4, N4, ho, by kt_at_in, by kt_at_in, by kt_at_in, by kt_at_in, .nil (by exact zq175)⟩
  case turn =>
    clear k1 k2 k3 post F' N' F2 N2 hP F3 N3 hT F4 N4 hI
    rintro k h' tk B Y hB ⟨m₂, o', i, vs, ep, hki, F5, N5, ho5, q1, q2, q3, q4, hv5⟩
    have hvl := hv5.len
    refine nextTup c'.hh F5 N5 ho5 (List.forall_mem_cons.mpr ⟨hTI, List.forall_mem_cons.mpr ⟨hPI, hnI⟩⟩) (.head _) ?_ ?_
    · intro o6 h6 hi F6 N6 ho6
      have hi : i < 3 := hi
      obtain ⟨tc, hv⟩ : ∃ tc, [Value.int 0 (tk₀ + 3 + 1), Value.int 2048 (tk₀ + 3 + 1 + 1), Value.int 4096 (tk₀ + 3 + 1 + 1 + 1)].getD i .none = .int (2048 * (i : Int)) tc := by
        have : i = 0 ∨ i = 1 ∨ i = 2 := by exact zq176 hki hvl hi
        rcases this with rfl | rfl | rfl <;> exact ⟨_, rfl⟩
      rw [hv]
      refine wpAny_pure ?_
      repeat kt_at_item
      refine iMulS (by decide) ?_
      repeat kt_at_item
      refine iMod (by decide) ?_
      repeat kt_at_item
      refine iMin c'.hh (by assumption) (by assumption) ?_
      intro h7 tk7 t7 F7 N7 htk7
      repeat kt_at_item
      refine iMax c'.hh (by assumption) (by assumption) ?_
      intro h8 tk8 t8 F8 N8 htk8
      repeat kt_at_item
      refine iMin c'.hh (by assumption) (by assumption) ?_
      intro h9 tk9 t9 F9 N9 htk9
      repeat kt_at_item
      have ef : min (max (min ((6 * spot - 2048 * (i : Int)) % 6144) (6144 - (6 * spot - 2048 * (i : Int)) % 6144) - 1024) 0) 1024 = fall spot (2048 * (i : Int)) := rfl
      rw [ef] at *
      have bf := fall_b spot (2048 * (i : Int))
      refine methN PySem.F.slot_list_append PySem.F.type_list_append (by assumption) (.tail _ (.tail _ (.head _))) ?_
      repeat kt_at_item
      have b2 := mulB (a := share) (b := fall spot (2048 * (i : Int))) (A := 8) (B := 1024) (by exact zq60 hsh) (by exact zq61 hsh) bf.1 bf.2
      have b3 := mulB (a := level) (b := 8192 - share * fall spot (2048 * (i : Int))) (A := 8) (B := 8192) (by exact zq60 hlv) (by exact zq61 hlv) (by exact zq62 b2) (by exact zq63 b2)
      refine iMulS (by exact zq177 hsh) ?_
      repeat kt_at_item
      refine iMulS (by exact zq177 hlv) ?_
      repeat kt_at_item
      have bc' := bc (2048 * (i : Int))
      have e2 : level * (8192 - share * min (max (min ((6 * spot - 2048 * (i : Int)) % 6144) (6144 - (6 * spot - 2048 * (i : Int)) % 6144) - 1024) 0) 1024) = level * (8192 - share * fall spot (2048 * (i : Int))) := rfl
      have e3 : col spot share level (2048 * (i : Int)) = level * (8192 - share * fall spot (2048 * (i : Int))) * 16384 := rfl
      refine iDivF (col spot share level (2048 * (i : Int))) c'.hh (by exact zq178 bc' e2 e3) (by decide) (by exact zq179 bc' e2 e3) (by exact zq180 e2 e3) ?_
      repeat kt_at_item
      refine appendN (by assumption) (nrot3 (by assumption)) (List.forall_mem_cons.mpr ⟨Ne.symm hPI, List.forall_mem_cons.mpr ⟨Ne.symm hPT, hnP⟩⟩) (by exact zq181 hki hvl hi) ?_
      intro h10 F10 N10
      refine ⟨rfl, ?_⟩
      repeat kt_at_item
      exact hB.next (k - 1) (Nat.sub_lt (Nat.pos_of_ne_zero fun h => by exact zq182 hki hvl hi h) Nat.one_pos) ⟨_, o6, i + 1, _, _, by exact zq183 hki hvl hi, F10, nback3 N10, ho6, by kt_at_in, by kt_at_in, by kt_at_in, by kt_at_in, hv5.push (by exact zq184 htk7 htk8 htk9) (by exact zq185)⟩
    · intro h6 hi F6 N6
      have hi : 3 ≤ i := hi
      obtain rfl : i = 3 := by exact zq186 hki hvl hi
      exact hB.fin ⟨_, _, _, F6, nsub N6 (fun _ hp => .tail _ hp), q4, hv5⟩
  case exit =>
    clear k1 k2 k3 F' N' F2 N2 hP F3 N3 hT F4 N4 hI
    rintro h' tk ⟨m₂, vs, ep, F5, N5, q4, ⟨_, u, hu, rfl⟩⟩
    repeat kt_at_item
    refine tupleOf (by assumption) (by assumption) (.head _) (by simp) ?_
    intro D h6 F6 N6 hD
    refine leaveK_ F6 (nsub N6 (news' := (D, _) :: news) ?_) fun F7 N7 => post _ _ _ (u 0) (u 1) (u 2) F7 N7 (fun p hp => hD p (.tail _ hp)) (hu 0 (by decide)).1 (hu 0 (by decide)).2 (hu 1 (by decide)).1 (hu 1 (by decide)).2 (hu 2 (by decide)).1 (hu 2 (by decide)).2
    intro p hp; rcases List.mem_cons.mp hp with rfl | hp
    · exact .head _
    · exact .tail _ (.tail _ hp)
end

section
variable {prog : Program} {w : World} {n : Nat} {A : Around} {h₀ : Heap} {L : Addr} {m : Str → Option Value} {news : List (Addr × Obj)} {hp : Heap} {gs : Array GenState} {dr : Drawn} {tk₀ : Nat} {oo : OsState} {R : Result → Shared → Prop}
theorem fMulP {E : Value → Shared → Prop} {Q : Value → Shared → Prop} {a b : Int} {t u : Tok} (c : Int) (ha : a.natAbs < 2 ^ 53) (hb : b.natAbs < 2 ^ 53) (hc : c.natAbs < 2 ^ 53) (h0 : 0 ≤ a) (h1 : 0 ≤ b) (h2 : 0 ≤ c) (he : a * b = c * 2 ^ 30) (h : Q (.float (fl c) tk₀) ⟨hp, gs, dr, tk₀ + 1, oo⟩) : wpAny (model prog w) A (binaryOp .Mult (.float (fl a) t) (.float (fl b) u)) Q E ⟨hp, gs, dr, tk₀, oo⟩ :=
  fMul c ha hb hc he (by rw [decide_eq_false (by exact zq238 h0), decide_eq_false (by exact zq238 h1), decide_eq_false (by exact zq238 h2)]; rfl) h
theorem hsv_call {mid share level : Int} {t1 t2 : Tok} {tv : Nat} (c : Cx (n + 2) w A h₀ L) (F : Fr h₀ L hp m) (N : News h₀ L hp news)
    (hm : 0 ≤ mid ∧ mid < 2048) (hsh : 1 ≤ share ∧ share ≤ 8) (hlv : 1 ≤ level ∧ level ≤ 8) (htv : 1 ≤ tv ∧ tv < tk₀)
    (post : ∀ h' (tk : Nat) D (u0 u1 u2 : Nat), Fr h₀ L h' m → News h₀ L h' ((D, tupO [.float (fl (col mid share level 0)) u0, .float (fl (col mid share level 2048)) u1, .float (fl (col mid share level 4096)) u2]) :: news) → (∀ p ∈ news, p.1 ≠ D) →
      tk₀ ≤ tk → 1 ≤ u0 → u0 < tk → 1 ≤ u1 → u1 < tk → 1 ≤ u2 → u2 < tk → R (.ok (.ret (.ref D))) ⟨h', gs, dr, tk, oo⟩) :
    codeAny (model prog w) A (.call (.ref 104) ⟨[.float (fl (mid * 1048576)) t1, .float (fl (share * 134217728)) t2, .float (fl (level * 134217728)) tv], []⟩) R ⟨hp, gs, dr, tk₀, oo⟩ := by
  refine c.call F N (f := 104) (binds := [(Str.ofString "h", .float (fl (mid * 1048576)) t1), (Str.ofString "s", .float (fl (share * 134217728)) t2), (Str.ofString "v", .float (fl (level * 134217728)) tv)]) (ho := rfl) (hcd := rfl) (BindsTo.of_eq rfl) (locs rfl) ?_ rfl rfl rfl rfl (by decide)
  clear F N c
  intro g' L' h₁ m' hmm c' F' N'
  have k1 : m' (Str.ofString "h") = some (.float (fl (mid * 1048576)) t1) := (hmm _).trans rfl
  have k2 : m' (Str.ofString "s") = some (.float (fl (share * 134217728)) t2) := (hmm _).trans rfl
  have k3 : m' (Str.ofString "v") = some (.float (fl (level * 134217728)) tv) := (hmm _).trans rfl
  clear hmm
  obtain ⟨i0, hi0⟩ : ∃ i0, i0 = 6 * mid / 1024 := ⟨_, rfl⟩
  obtain ⟨f, hf⟩ : ∃ f, f = 6 * mid - 1024 * i0 := ⟨_, rfl⟩
  have bi : 0 ≤ i0 ∧ i0 < 12 := by exact zq239 hm hi0
  have bf : 0 ≤ f ∧ f < 1024 := by exact zq240 hi0 hf
  have e1 : mid * 1048576 * 6442450944 = 6 * mid * 1048576 * 2 ^ 30 := by exact zq241
  have e2 : 6 * mid * 1048576 / 1073741824 = i0 := by exact zq242 hi0 hf bf
  have e3 : 6 * mid * 1048576 - i0 * 1073741824 = f * 1048576 := by exact zq243 hi0 hf
  have p1 := mulB (a := share) (b := f) (A := 8) (B := 1024) (by exact zq60 hsh) (by exact zq61 hsh) (by exact zq244 hi0 hf e2) (by exact zq245 hi0 hf e2)
  have p2 := mulB (a := share) (b := 1024 - f) (A := 8) (B := 1024) (by exact zq60 hsh) (by exact zq61 hsh) (by exact zq246 hi0 hf e2) (by exact zq247 hi0 hf e2)
  have p3 := mulB (a := level) (b := 8192 - share * 1024) (A := 8) (B := 8192) (by exact zq60 hlv) (by exact zq61 hlv) (by exact zq248 hsh) (by exact zq249 hsh)
  have p4 := mulB (a := level) (b := 8192 - share * f) (A := 8) (B := 8192) (by exact zq60 hlv) (by exact zq61 hlv) (by exact zq62 p1) (by exact zq63 p1)
  have p5 := mulB (a := level) (b := 8192 - share * (1024 - f)) (A := 8) (B := 8192) (by exact zq60 hlv) (by exact zq61 hlv) (by exact zq62 p2) (by exact zq63 p2)
  repeat kt_at_get
  refine fEq (by exact zq250 hsh) (by exact zq251) ?_
  repeat kt_at_get
  refine iteD (fun hq => absurd hq (by exact zq252 hsh hq)) (fun _ => ?_)
  repeat kt_at_item
  refine fMulP _ (by exact zq253 hm) (by decide) (by exact zq254 hm) (by exact zq255 hm) (by decide) (by exact zq256 hm) e1 ?_
  repeat kt_at_item
  refine fInt c'.hh (by exact zq256 hm) (by exact zq254 hm) ?_
  rw [e2]
  repeat kt_at_item
  refine fMulP _ (by exact zq253 hm) (by decide) (by exact zq254 hm) (by exact zq255 hm) (by decide) (by exact zq256 hm) e1 ?_
  repeat kt_at_item
  refine fSubI c'.hh (by exact zq257 hm) (by exact zq258 hi0 bi e2) ?_
  rw [e3]
  repeat kt_at_item
  refine fSub (by exact zq259) (by exact zq260 hsh) ?_
  repeat kt_at_item
  refine fMulP (level * (8192 - share * 1024) * 16384) (by exact zq250 hlv) (by exact zq261 hsh) (by exact zq262 p3) (by exact zq263 hlv) (by exact zq264 hsh) (by exact zq265 p3) (by grind) ?_
  repeat kt_at_item
  refine fMulP (share * f * 131072) (by exact zq250 hsh) (by exact zq266 hi0 hf e2) (by exact zq267 p1) (by exact zq263 hsh) (by exact zq268 hi0 hf e2) (by exact zq269 p1) (by grind) ?_
  repeat kt_at_item
  refine fSub (by exact zq259) (by exact zq270 p1) ?_
  repeat kt_at_item
  refine fMulP (level * (8192 - share * f) * 16384) (by exact zq250 hlv) (by exact zq271 p1) (by exact zq262 p4) (by exact zq263 hlv) (by exact zq272 p1) (by exact zq265 p4) (by grind) ?_
  repeat kt_at_item
  refine fSub (by exact zq259) (by exact zq273 hi0 hf e2) ?_
  repeat kt_at_item
  refine fMulP (share * (1024 - f) * 131072) (by exact zq250 hsh) (by exact zq274 hi0 hf e2) (by exact zq267 p2) (by exact zq263 hsh) (by exact zq275 hi0 hf e2) (by exact zq269 p2) (by grind) ?_
  repeat kt_at_item
  refine fSub (by exact zq259) (by exact zq270 p2) ?_
  repeat kt_at_item
  refine fMulP (level * (8192 - share * (1024 - f)) * 16384) (by exact zq250 hlv) (by exact zq271 p2) (by exact zq262 p5) (by exact zq263 hlv) (by exact zq272 p2) (by exact zq265 p5) (by grind) ?_
  repeat kt_at_item
  refine iMod (by decide) ?_
  repeat kt_at_get
  have cv : ∀ k, fall mid k = 0 → level * 134217728 = col mid share level k := fun k e => by unfold col; rw [e]; omega
  have cp : ∀ k, fall mid k = 1024 → level * (8192 - share * 1024) * 16384 = col mid share level k := fun k e => by unfold col; rw [e]
  have cq : ∀ k, fall mid k = f → level * (8192 - share * f) * 16384 = col mid share level k := fun k e => by unfold col; rw [e]
  have ct : ∀ k, fall mid k = 1024 - f → level * (8192 - share * (1024 - f)) * 16384 = col mid share level k := fun k e => by unfold col; rw [e]
  clear p1 p2 p3 p4 p5 e1 e2 e3
  refine iteD (fun hq => ?_) (fun q0 => ?_)
  · repeat kt_at_item
    rw [cv 0 (fall_d0 hf bf hq (by decide)), ct 2048 (fall_d4 hf bf hq (by decide)), cp 4096 (fall_d2 hf bf hq (by decide))]
    refine tupN (by assumption) (by assumption) (by show 3 < 1000; decide) ?_
    intro D h6 F6 N6 hD
    exact leaveK_ F6 N6 fun F7 N7 => post _ _ _ _ _ _ F7 N7 hD (by exact zq277) (by exact zq278 htv) (by exact zq279 htv) (by exact zq280 htv) (by exact zq281) (by exact zq282 htv) (by exact zq283)
  repeat kt_at_get
  refine iteD (fun hq => ?_) (fun q1 => ?_)
  · repeat kt_at_item
    rw [cq 0 (fall_d1 hf bf hq (by decide)), cv 2048 (fall_d5 hf bf hq (by decide)), cp 4096 (fall_d3 hf bf hq (by decide))]
    refine tupN (by assumption) (by assumption) (by show 3 < 1000; decide) ?_
    intro D h6 F6 N6 hD
    exact leaveK_ F6 N6 fun F7 N7 => post _ _ _ _ _ _ F7 N7 hD (by exact zq284) (by exact zq285 htv) (by exact zq286) (by exact zq278 htv) (by exact zq287 htv) (by exact zq282 htv) (by exact zq288)
  repeat kt_at_get
  refine iteD (fun hq => ?_) (fun q2 => ?_)
  · repeat kt_at_item
    rw [cp 0 (fall_d2 hf bf hq (by decide)), cv 2048 (fall_d0 hf bf hq (by decide)), ct 4096 (fall_d4 hf bf hq (by decide))]
    refine tupN (by assumption) (by assumption) (by show 3 < 1000; decide) ?_
    intro D h6 F6 N6 hD
    exact leaveK_ F6 N6 fun F7 N7 => post _ _ _ _ _ _ F7 N7 hD (by exact zq289) (by exact zq282 htv) (by exact zq290) (by exact zq278 htv) (by exact zq291 htv) (by exact zq280 htv) (by exact zq292)
  repeat kt_at_get
  refine iteD (fun hq => ?_) (fun q3 => ?_)
  · repeat kt_at_item
    rw [cp 0 (fall_d3 hf bf hq (by decide)), cq 2048 (fall_d1 hf bf hq (by decide)), cv 4096 (fall_d5 hf bf hq (by decide))]
    refine tupN (by assumption) (by assumption) (by show 3 < 1000; decide) ?_
    intro D h6 F6 N6 hD
    exact leaveK_ F6 N6 fun F7 N7 => post _ _ _ _ _ _ F7 N7 hD (by exact zq293) (by exact zq282 htv) (by exact zq294) (by exact zq285 htv) (by exact zq295) (by exact zq278 htv) (by exact zq296 htv)
  repeat kt_at_get
  refine iteD (fun hq => ?_) (fun q4 => ?_)
  · repeat kt_at_item
    rw [ct 0 (fall_d4 hf bf hq (by decide)), cp 2048 (fall_d2 hf bf hq (by decide)), cv 4096 (fall_d0 hf bf hq (by decide))]
    refine tupN (by assumption) (by assumption) (by show 3 < 1000; decide) ?_
    intro D h6 F6 N6 hD
    exact leaveK_ F6 N6 fun F7 N7 => post _ _ _ _ _ _ F7 N7 hD (by exact zq297) (by exact zq280 htv) (by exact zq298) (by exact zq282 htv) (by exact zq299) (by exact zq278 htv) (by exact zq300 htv)
  repeat kt_at_get
  refine iteD (fun hq => ?_) (fun q5 => absurd trivial (by exact zq301 hi0 q0 q1 q2 q3 q4 q5))
  · repeat kt_at_item
    rw [cv 0 (fall_d5 hf bf hq (by decide)), cp 2048 (fall_d3 hf bf hq (by decide)), cq 4096 (fall_d1 hf bf hq (by decide))]
    refine tupN (by assumption) (by assumption) (by show 3 < 1000; decide) ?_
    intro D h6 F6 N6 hD
    exact leaveK_ F6 N6 fun F7 N7 => post _ _ _ _ _ _ F7 N7 hD (by exact zq302) (by exact zq278 htv) (by exact zq303 htv) (by exact zq282 htv) (by exact zq304) (by exact zq285 htv) (by exact zq305)
end

theorem hue_facts {share level f0 f1 f2 : Int} (hsh : 1 ≤ share ∧ share ≤ 8) (hlv : 1 ≤ level ∧ level ≤ 8) (b0 : 0 ≤ f0 ∧ f0 ≤ 1024) (b1 : 0 ≤ f1 ∧ f1 ≤ 1024) (b2 : 0 ≤ f2 ∧ f2 ≤ 1024) (hz : f0 = 0 ∨ f1 = 0 ∨ f2 = 0) (ho : f0 = 1024 ∨ f1 = 1024 ∨ f2 = 1024) :
    max (max (level * (8192 - share * f0) * 16384) (level * (8192 - share * f1) * 16384)) (level * (8192 - share * f2) * 16384) = level * 134217728 ∧
    min (min (level * (8192 - share * f0) * 16384) (level * (8192 - share * f1) * 16384)) (level * (8192 - share * f2) * 16384) = level * (8192 - share * 1024) * 16384 ∧
    (∀ f, 0 ≤ f → f ≤ 1024 → (level * (8192 - share * f) * 16384 = level * 134217728 ↔ f = 0)) := by
  have hp : 1 ≤ level * share := by have := Int.mul_le_mul hlv.1 hsh.1 (by decide) (by exact zq60 hlv); exact zq306 this
  have key : ∀ f, level * (8192 - share * f) * 16384 = level * 134217728 - (level * share) * f * 16384 := fun f => by grind
  have mono : ∀ f g, f ≤ g → level * share * f ≤ level * share * g := fun f g h => Int.mul_le_mul_of_nonneg_left h (by exact zq307 hp)
  have z0 : level * share * 0 = 0 := Int.mul_zero _
  rw [key f0, key f1, key f2, key 1024]
  have m0 := mono 0 f0 b0.1
  have m1 := mono 0 f1 b1.1
  have m2 := mono 0 f2 b2.1
  have n0 := mono f0 1024 b0.2
  have n1 := mono f1 1024 b1.2
  have n2 := mono f2 1024 b2.2
  refine ⟨?_, ?_, fun f h0 h1 => ?_⟩
  · rcases hz with rfl | rfl | rfl
    · exact zq308 m1 m2
    · exact zq309 m0 m2
    · exact zq310 m0 m1
  · rcases ho with rfl | rfl | rfl
    · exact zq311 n1 n2
    · exact zq312 n0 n2
    · exact zq313 n0 n1
  · rw [key f]
    constructor
    · intro e
      by_cases q : 1 ≤ f
      · have := mono 1 f q; rw [Int.mul_one] at this; exact zq314 hp e this
      · exact zq315 h0 h1 q
    · rintro rfl; exact zq316
section
variable {prog : Program} {w : World} {n : Nat} {A : Around} {h₀ : Heap} {L : Addr} {m : Str → Option Value} {news : List (Addr × Obj)} {hp : Heap} {gs : Array GenState} {dr : Drawn} {tk₀ : Nat} {oo : OsState} {R : Result → Shared → Prop}
theorem rgb_col {spot share level : Int} {tr tg tb : Tok} (c : Cx (n + 2) w A h₀ L) (F : Fr h₀ L hp m) (N : News h₀ L hp news)
    (hsp : 0 ≤ spot ∧ spot < 2048) (hsh : 1 ≤ share ∧ share ≤ 8) (hlv : 1 ≤ level ∧ level ≤ 8)
    (post : ∀ h' (tk : Nat) D (t : Nat) v2 v3, Fr h₀ L h' m → News h₀ L h' ((D, tupO [.float (fl (spot % 1024 * 1048576)) t, v2, v3]) :: news) → (∀ p ∈ news, p.1 ≠ D) → tk₀ ≤ t → t < tk → R (.ok (.ret (.ref D))) ⟨h', gs, dr, tk, oo⟩) :
    codeAny (model prog w) A (.call (.ref 97) ⟨[.float (fl (col spot share level 0)) tr, .float (fl (col spot share level 2048)) tg, .float (fl (col spot share level 4096)) tb], []⟩) R ⟨hp, gs, dr, tk₀, oo⟩ := by
  obtain ⟨q, hq, q1, q2, e, hz, ho⟩ := hue_arith spot hsp.1 hsp.2
  have b0 := fall_b spot 0
  have b1 := fall_b spot 2048
  have b2 := fall_b spot 4096
  have c0 := col_b (spot := spot) (corner := 0) hsh hlv
  have c1 := col_b (spot := spot) (corner := 2048) hsh hlv
  have c2 := col_b (spot := spot) (corner := 4096) hsh hlv
  obtain ⟨hM, hm', hE⟩ := hue_facts hsh hlv b0 b1 b2 hz ho
  have hp : 1 ≤ level * share := by have := Int.mul_le_mul hlv.1 hsh.1 (by decide) (by exact zq60 hlv); exact zq306 this
  have key : ∀ f, level * (8192 - share * f) * 16384 = level * 134217728 - (level * share) * f * 16384 := fun f => by grind
  have k1024 := key 1024
  have er : q * 1048576 % 1073741824 = spot % 1024 * 1048576 := by exact zq317 hq
  rw [← er] at post
  refine rgb_call (rc := fall spot 0 * 1048576) (gc := fall spot 2048 * 1048576) (bc := fall spot 4096 * 1048576) (q := q * 1048576) c F N c0 c1 c2 ?_ ?_ ?_ ?_ (by exact zq318 b0) (by exact zq318 b1) (by exact zq318 b2) ?_ post
  all_goals unfold col; rw [hM]
  · rw [hm']; exact zq319 hp k1024
  · rw [hm', key (fall spot 0), k1024]; grind
  · rw [hm', key (fall spot 2048), k1024]; grind
  · rw [hm', key (fall spot 4096), k1024]; grind
  · have e0 := hE _ b0.1 b0.2
    have e1 := hE _ b1.1 b1.2
    by_cases z0 : fall spot 0 = 0
    · rw [if_pos z0] at e; rw [if_pos (e0.mpr z0)]; exact zq320 e
    · rw [if_neg z0] at e; rw [if_neg (fun h => z0 (e0.mp h))]
      by_cases z1 : fall spot 2048 = 0
      · rw [if_pos z1] at e; rw [if_pos (e1.mpr z1)]; exact zq321 e
      · rw [if_neg z1] at e; rw [if_neg (fun h => z1 (e1.mp h))]; exact zq322 e
theorem callKS {M : Model} {A' : Around} {E : Value → Shared → Prop} {s : Shared} {env : Env} {pos p : Pos} {Q : Value → Shared → Prop} {f : Addr} {e : Expr} (c : Cx n w A' h₀ L) (hk : keepIn (KH w.params) (.ref f) = true) (h : wpAny M A (eval e env) (fun v s₁ => StarOf M A E v (fun vs s₂ => (KH w.params).In s₂.heap ∧ wpAny M A (call (.ref f) vs) Q E s₂) s₁) E s)
    (he : starEach [.Starred e p] env = [(true, eval e env)]) :
    wpAny M A (callWith pos (.ref f) [] (backTo pos (starEach [.Starred e p] env)) []) Q E s := callWith_S c.X hk h he
theorem tupI {E : Value → Shared → Prop} {Q : Value → Shared → Prop} {value slice : Expr} {t : Addr} {vs : List Value} {k : Nat} {u : Tok} (N : News h₀ L hp news) (hm : (t, tupO vs) ∈ news) (hk : k < vs.length) (hb : vs.length < 1000) (h : Q (vs.getD k .none) ⟨hp, gs, dr, tk₀, oo⟩)
    (hs : subscripted slice false (.ref t) (.int (k : Int) u) = operate [.ref t, .int (k : Int) u] (getItem (.ref t) (.int (k : Int) u))) :
    wpAny (model prog w) A (subscriptTail value slice (.ref t) (.int (k : Int) u)) Q E ⟨hp, gs, dr, tk₀, oo⟩ :=
  item_tupleT (j := k) ⟨_, (N _ hm).1, rfl, _, rfl⟩ (by exact zq323) (by exact zq5 hk hb) (seqIndex_of (by exact zq4) (by exact zq6 hk)) (getD_get hk) h hs
theorem tupI0 {E : Value → Shared → Prop} {Q : Value → Shared → Prop} {value slice : Expr} {t : Addr} {vs : List Value} {u : Tok} (N : News h₀ L hp news) (hm : (t, tupO vs) ∈ news) (hk : 0 < vs.length) (hb : vs.length < 1000) (h : Q (vs.getD 0 .none) ⟨hp, gs, dr, tk₀, oo⟩)
    (hs : subscripted slice false (.ref t) (.int 0 u) = operate [.ref t, .int 0 u] (getItem (.ref t) (.int 0 u))) :
    wpAny (model prog w) A (subscriptTail value slice (.ref t) (.int 0 u)) Q E ⟨hp, gs, dr, tk₀, oo⟩ := tupI (k := 0) N hm hk hb h hs
theorem tupI1 {E : Value → Shared → Prop} {Q : Value → Shared → Prop} {value slice : Expr} {t : Addr} {vs : List Value} {u : Tok} (N : News h₀ L hp news) (hm : (t, tupO vs) ∈ news) (hk : 1 < vs.length) (hb : vs.length < 1000) (h : Q (vs.getD 1 .none) ⟨hp, gs, dr, tk₀, oo⟩)
    (hs : subscripted slice false (.ref t) (.int 1 u) = operate [.ref t, .int 1 u] (getItem (.ref t) (.int 1 u))) :
    wpAny (model prog w) A (subscriptTail value slice (.ref t) (.int 1 u)) Q E ⟨hp, gs, dr, tk₀, oo⟩ := tupI (k := 1) N hm hk hb h hs
theorem hue_call {T : Addr} {spot share level : Int} {tr tg tb : Tok} (c : Cx (n + 3) w A h₀ L) (F : Fr h₀ L hp m) (N : News h₀ L hp news) (hT : (T, tupO [.float (fl (col spot share level 0)) tr, .float (fl (col spot share level 2048)) tg, .float (fl (col spot share level 4096)) tb]) ∈ news)
    (hsp : 0 ≤ spot ∧ spot < 2048) (hsh : 1 ≤ share ∧ share ≤ 8) (hlv : 1 ≤ level ∧ level ≤ 8)
    (post : ∀ h' (tk t : Nat), Fr h₀ L h' m → News h₀ L h' news → tk₀ ≤ t → t < tk → R (.ok (.ret (.float (fl (spot % 1024 * 1048576)) t))) ⟨h', gs, dr, tk, oo⟩) :
    codeAny (model prog w) A (.call (.ref 118) ⟨[.ref T], []⟩) R ⟨hp, gs, dr, tk₀, oo⟩ := by
  refine c.call F N (f := 118) (binds := [(Str.ofString "colour", .ref T)]) (nb := 1) (ho := rfl) (hcd := rfl) (BindsTo.of_eq rfl) (locs rfl) ?_ rfl rfl rfl rfl (by decide)
  clear F N c
  intro g' L' h₁ m' hm c' F' N'
  have k1 : m' (Str.ofString "colour") = some (.ref T) := (hm _).trans rfl
  clear hm
  repeat kt_at_item
  refine callKS (by assumption) (FA.k (by constructor) _) ?_ (by with_unfolding_all rfl)
  repeat kt_at_item
  refine star_seq F' N' hT rfl rfl (.inr rfl) rfl (by rw [sizeLine_eq]; show 3 ≤ 16777216; decide) fun h2 F2 N2 => ?_
  repeat kt_at_item
  refine wpAny_call (rgb_col c' (by assumption) (by assumption) hsp hsh hlv fun h6 tk6 D t v2 v3 F6 N6 hD ht1 ht2 => ?_)
  repeat kt_at_item
  refine tupI0 N6 (.head _) (by show 0 < 3; decide) (by show 3 < 1000; decide) ?_ (by with_unfolding_all rfl)
  refine leaveK_ F6 (nsub N6 fun _ hp => .tail _ hp) fun F7 N7 => post _ _ _ F7 N7 (by have : tk₀ + 1 ≤ t := ht1; exact zq119 this) (by exact zq324 ht2)
end

theorem booked0 (p : Params) : ∃ o, (KH p).lookup 2 = some o ∧ ∃ es ep, o.data = .dict es ep ∧ es = #[] := ⟨_, rfl, _, _, rfl, rfl⟩
theorem noneBooked {p : Params} {h : Heap} (X : (KH p).In h) : NoneBooked h := by
  obtain ⟨o, ho, es, ep, hd, rfl⟩ := booked0 p
  refine ⟨fun _ => none, ⟨o, #[], ep, X 2 o ho, hd, ?_, fun name => rfl⟩, rfl⟩
  intro e he
  simp at he
noncomputable def EqV (prog : Program) (w : World) (k : Nat) (h : Heap) (v u : Value) (b : Bool) : Prop :=
  ∀ (A : Around) (s : Shared) (Q : Bool → Shared → Prop) (E : Value → Shared → Prop), s.heap = h → A.units + k < cLine → Q b s → wpAny (model prog w) A (eqBool v u) Q E s
noncomputable def LtV (prog : Program) (w : World) (k : Nat) (h : Heap) (v u : Value) (b : Bool) : Prop :=
  ∀ (A : Around) (s : Shared) (Q : Value → Shared → Prop) (E : Value → Shared → Prop), s.heap = h → A.units + k < cLine → Q (.bool b) s → wpAny (model prog w) A (richCompare .Lt v u) Q E s
section
variable {prog : Program} {w : World} {h : Heap}
theorem EqV.int (a b : Int) (t u : Tok) : EqV prog w 0 h (.int a t) (.int b u) (a == b) := fun _ _ _ _ _ _ q => wpAny_eqBool_int q
theorem LtV.int (a b : Int) (t u : Tok) : LtV prog w 0 h (.int a t) (.int b u) (decide (a < b)) := fun A s Q E _ _ q => (lt_int q : wpAny (model prog w) A (compareOp .Lt (.int a t) (.int b u)) Q E s)
theorem LtV.float {a b : Int} {t u : Tok} (ha : a.natAbs < 2 ^ 53) (hb : b.natAbs < 2 ^ 53) : LtV prog w 0 h (.float (fl a) t) (.float (fl b) u) (decide (a < b)) := fun A s Q E _ _ q => by
  rw [← lt_fl ha hb] at q
  exact (AutoFloatOps.lt_0 q : wpAny (model prog w) A (compareOp .Lt _ _) Q E s)
theorem EqV.float {a b : Int} {t u : Tok} (X : NoneBooked h) (ha : a.natAbs < 2 ^ 53) (hb : b.natAbs < 2 ^ 53) (ht : t ≠ 0) (hu : u ≠ 0) (htu : t = u → a = b) : EqV prog w 0 h (.float (fl a) t) (.float (fl b) u) (decide (a = b)) := fun A s Q E hs _ q => by
  unfold eqBool
  try with_reducible refine wpAny_holding ?_
  show wpAny _ _ (if (Value.float (fl a) t == Value.float (fl b) u) = true then _ else _) Q E s
  by_cases hab : (Value.float (fl a) t == Value.float (fl b) u) = true
  · rw [if_pos hab]
    have e : Value.float (fl a) t = Value.float (fl b) u := eq_of_beq hab
    injection e with e1 e2
    rw [decide_eq_true (htu e2)] at q
    exact wpAny_bind (wpAny_rule (wpAny_pure q))
  · rw [if_neg hab]
    have fin : wpAny (model prog w) A (richCompare .Eq (.float (fl a) t) (.float (fl b) u) >>= fun r => truthOfDropped r) Q E s := by
      refine wpAny_bind (show wpAny (model prog w) A (compareOp .Eq (.float (fl a) t) (.float (fl b) u)) _ E s from ?_)
      refine AutoFloatOps.eq_0 ?_
      rw [eq_fl ha hb]
      exact wpAny_truthy_bool q
    show wpAny _ _ (isSame (Value.float (fl a) t) (Value.float (fl b) u) >>= fun z => if z = true then _ else _) Q E s
    refine wpAny_bind ?_
    show wpAny _ _ (isSame.created (fl a == fl b && !Float64.isNaN (fl a)) t u) _ E s
    unfold isSame.created
    have h0 : (t == 0 || u == 0) = false := by simp [ht, hu]
    rw [if_neg (by rw [h0]; exact Bool.false_ne_true)]
    by_cases hq : (t == u) = true
    · have e : t = u := by simpa using hq
      rw [decide_eq_true (htu e)] at q
      rw [if_pos hq]
      refine wpAny_pure ?_
      rw [if_pos rfl]
      exact wpAny_pure q
    · rw [if_neg hq]
      by_cases hc : (fl a == fl b && !Float64.isNaN (fl a)) = true
      · have hab2 : a = b := by
          have e1 : fl a = fl b := by
            have := hc
            rw [Bool.and_eq_true] at this
            exact eq_of_beq this.1
          have e2 := eq_fl (a := a) (b := b) ha hb
          rw [e1, eq_fl hb hb, decide_eq_true (rfl : b = b)] at e2
          exact of_decide_eq_true e2.symm
        rw [if_neg (by rw [hc]; exact Bool.false_ne_true)]
        have nb : NoneBooked s.heap := by rw [hs]; exact X
        refine wpAny_bind (wpAny_sharingNotTold_none nb ?_)
        rw [if_neg Bool.false_ne_true]
        refine wpAny_bind (wpAny_sharingNotTold_none nb ?_)
        rw [if_neg Bool.false_ne_true]
        refine wpAny_bind (wpAny_rule ?_)
        refine wpAny_bind (wpAny_askSetting ?_)
        refine wpAny_pure ?_
        split
        · rw [decide_eq_true hab2] at q
          exact wpAny_pure q
        · exact fin
      · have hc' : (fl a == fl b && !Float64.isNaN (fl a)) = false := by simpa using hc
        rw [if_pos (by rw [hc']; rfl)]
        refine wpAny_pure ?_
        rw [if_neg Bool.false_ne_true]
        exact fin
end

inductive LexL (prog : Program) (w : World) (k : Nat) (h : Heap) : List (Value × Value) → Bool → Prop
  | nil : LexL prog w k h [] false
  | eq {p q : Value} {r : List (Value × Value)} {b : Bool} : EqV prog w k h p q true → LexL prog w k h r b → LexL prog w k h ((p, q) :: r) b
  | ne {p q : Value} {r : List (Value × Value)} {b : Bool} : EqV prog w k h p q false → LtV prog w k h p q b → LexL prog w k h ((p, q) :: r) b
inductive LexE (prog : Program) (w : World) (k : Nat) (h : Heap) : List (Value × Value) → Bool → Prop
  | nil : LexE prog w k h [] true
  | eq {p q : Value} {r : List (Value × Value)} {b : Bool} : EqV prog w k h p q true → LexE prog w k h r b → LexE prog w k h ((p, q) :: r) b
  | ne {p q : Value} {r : List (Value × Value)} : EqV prog w k h p q false → LexE prog w k h ((p, q) :: r) false
noncomputable def NeV (prog : Program) (w : World) (k : Nat) (h : Heap) (v u : Value) (b : Bool) : Prop :=
  ∀ (A : Around) (s : Shared) (Q : Value → Shared → Prop) (E : Value → Shared → Prop), s.heap = h → A.units + k < cLine → Q (.bool b) s → wpAny (model prog w) A (richCompare .NotEq v u) Q E s
section
variable {prog : Program} {w : World} {h : Heap} {a b : Addr} {xs ys : List Value} {r : Bool} {k : Nat}
theorem tup_typeIs {s : Shared} (hs : s.heap = h) (ha : h.get? a = some (tupO xs)) : s.TypeIs (.ref a) "tuple" := ⟨_, by rw [hs]; exact ha, rfl⟩
theorem LtV.tup (ha : h.get? a = some (tupO xs)) (hb : h.get? b = some (tupO ys)) (hlen : xs.length = ys.length) (he : LexL prog w k h (xs.zip ys) r) :
    LtV prog w (k + 1) h (.ref a) (.ref b) r := fun A s Q E hs hu q => by
  have ta := tup_typeIs hs ha
  have tb := tup_typeIs hs hb
  refine wpAny_richCompare_same_room (op := .Lt) ta tb PySem.F.slot_tuple_lt (wpAny_call_entry PySem.F.slot_tuple_lt ta PySem.F.entry_tuple_lt ?_ (PySem.F.args_tuple_lt_2 _ _)) (by exact zq0 hu)
  show wpAny _ _ (isInstance (.ref b) (.type "tuple") >>= _) _ _ s
  refine wpAny_bind (wpAny_isInstance tb isSubtype_tuple_tuple ?_)
  simp only [Bool.not_true, Bool.false_eq_true, if_false]
  refine wpAny_bind (wpAny_tupleItemsOf (by rw [hs]; exact ha) rfl ?_)
  refine wpAny_bind (wpAny_tupleItemsOf (by rw [hs]; exact hb) rfl ?_)
  refine wpAny_bind ?_
  refine wpAny_forIn_list _ (fun rest z s' => z.1 = none ∧ s' = s ∧ LexL prog w k h rest r) _ ?_ ?_ _ _ ⟨rfl, rfl, he⟩
  · rintro ⟨u, v⟩ rest z s' ⟨hr, rfl, hv⟩
    cases hv with
    | ne h1 h2 =>
      refine wpAny_bind (h1 A.in1 _ _ _ hs (by show A.units + 1 + k < _; exact zq1 hu) ?_)
      show wpAny _ _ (if (!false) = true then _ else _) _ _ _
      rw [if_pos (show (!false) = true from rfl)]
      refine wpAny_bind (wpAny_rule ?_)
      refine wpAny_bind (h2 A.in1 _ _ _ hs (by show A.units + 1 + k < _; exact zq1 hu) ?_)
      refine wpAny_bind (wpAny_pure ?_)
      refine wpAny_pure ?_
      exact wpAny_pure ⟨_, rfl, (fun e => nomatch e), q⟩
    | eq h1 h2 =>
      refine wpAny_bind (h1 A.in1 _ _ _ hs (by show A.units + 1 + k < _; exact zq1 hu) ?_)
      show wpAny _ _ (if (!true) = true then _ else _) _ _ _
      rw [if_neg (show ¬ (!true) = true by decide)]
      exact wpAny_pure ⟨rfl, rfl, h2⟩
  · rintro ⟨r1, r2⟩ s' ⟨hr, rfl, hv⟩
    simp only at hr
    subst hr
    refine wpAny_pure ⟨_, rfl, (fun e => nomatch e), ?_⟩
    have e : decide (xs.toArray.size < ys.toArray.size) = false := by rw [List.size_toArray, List.size_toArray, hlen]; simp
    show Q (.bool (decide (xs.toArray.size < ys.toArray.size))) _
    rw [e]
    cases hv
    exact q
theorem tup_eq_body {s : Shared} {A : Around} {E : Value → Shared → Prop} {P : PySem.Fin → Shared → Prop} (hs : s.heap = h) (hu : A.units + k < cLine) (ha : h.get? a = some (tupO xs)) (hb : h.get? b = some (tupO ys)) (hlen : xs.length = ys.length) (he : LexE prog w k h (xs.zip ys) r)
    (q : P (.done (.ret (.bool r))) s) : wpAny (model prog w) A (Builtin.«tuple.__eq__» ⟨[.ref a, .ref b], []⟩) P E s := by
  have tb := tup_typeIs hs hb
  show wpAny _ _ (isInstance (.ref b) (.type "tuple") >>= _) _ _ s
  refine wpAny_bind (wpAny_isInstance tb isSubtype_tuple_tuple ?_)
  simp only [Bool.not_true, Bool.false_eq_true, if_false]
  refine wpAny_bind (wpAny_tupleItemsOf (by rw [hs]; exact ha) rfl ?_)
  refine wpAny_bind (wpAny_tupleItemsOf (by rw [hs]; exact hb) rfl ?_)
  refine wpAny_bind ?_
  refine wpAny_forIn_list _ (fun rest z s' => z.1 = none ∧ s' = s ∧ LexE prog w k h rest r) _ ?_ ?_ _ _ ⟨rfl, rfl, he⟩
  · rintro ⟨u, v⟩ rest z s' ⟨hr, rfl, hv⟩
    cases hv with
    | ne h1 =>
      refine wpAny_bind (h1 A _ _ _ hs hu ?_)
      show wpAny _ _ (if (!false) = true then _ else _) _ _ _
      rw [if_pos (show (!false) = true from rfl)]
      exact wpAny_bind (wpAny_pure (wpAny_pure (wpAny_pure q)))
    | eq h1 h2 =>
      refine wpAny_bind (h1 A _ _ _ hs hu ?_)
      show wpAny _ _ (if (!true) = true then _ else _) _ _ _
      rw [if_neg (show ¬ (!true) = true by decide)]
      exact wpAny_pure ⟨rfl, rfl, h2⟩
  · rintro ⟨r1, r2⟩ s' ⟨hr, rfl, hv⟩
    simp only at hr
    subst hr
    refine wpAny_pure ?_
    have e : (xs.toArray.size == ys.toArray.size) = true := by rw [List.size_toArray, List.size_toArray, hlen]; simp
    show P (.done (.ret (.bool (xs.toArray.size == ys.toArray.size)))) _
    rw [e]
    cases hv
    exact q
theorem EqV.tup (ha : h.get? a = some (tupO xs)) (hb : h.get? b = some (tupO ys)) (hlen : xs.length = ys.length) (he : LexE prog w k h (xs.zip ys) r) (hr : a = b → r = true) :
    EqV prog w (k + 1) h (.ref a) (.ref b) r := fun A s Q E hs hu q => by
  unfold eqBool
  try with_reducible refine wpAny_holding ?_
  show wpAny _ _ (if (Value.ref a == Value.ref b) = true then _ else _) Q E s
  by_cases hab : (Value.ref a == Value.ref b) = true
  · rw [if_pos hab]
    have e : a = b := by have := eq_of_beq hab; injection this
    rw [hr e] at q
    exact wpAny_bind (wpAny_rule (wpAny_pure q))
  · rw [if_neg hab]
    have ta := tup_typeIs hs ha
    have tb := tup_typeIs hs hb
    exact wpAny_bind (wpAny_richCompare_same_room (op := .Eq) ta tb PySem.F.slot_tuple_eq
      (wpAny_call_entry PySem.F.slot_tuple_eq ta PySem.F.entry_tuple_eq (tup_eq_body hs (by show A.units + 1 + k < _; exact zq1 hu) ha hb hlen he ⟨_, rfl, (fun e => nomatch e), wpAny_truthy_bool q⟩) (PySem.F.args_tuple_eq_2 _ _)) (by exact zq0 hu))
theorem NeV.tup (ha : h.get? a = some (tupO xs)) (hb : h.get? b = some (tupO ys)) (hlen : xs.length = ys.length) (he : LexE prog w k h (xs.zip ys) r) :
    NeV prog w (k + 1) h (.ref a) (.ref b) (!r) := fun A s Q E hs hu q => by
  have ta := tup_typeIs hs ha
  have tb := tup_typeIs hs hb
  refine wpAny_richCompare_same_room (op := .NotEq) ta tb PySem.F.slot_tuple_ne (wpAny_call_entry PySem.F.slot_tuple_ne ta PySem.F.entry_tuple_ne ?_ (PySem.F.args_tuple_ne_2 _ _)) (by exact zq0 hu)
  show wpAny _ _ (isInstance (.ref b) (.type "tuple") >>= _) _ _ s
  refine wpAny_bind (wpAny_isInstance tb isSubtype_tuple_tuple ?_)
  simp only [Bool.not_true, Bool.false_eq_true, if_false]
  refine wpAny_bind (wpAny_tupleItemsOf (by rw [hs]; exact ha) rfl ?_)
  refine wpAny_bind (wpAny_tupleItemsOf (by rw [hs]; exact hb) rfl ?_)
  refine wpAny_bind ?_
  refine wpAny_forIn_list _ (fun rest z s' => z.1 = none ∧ s' = s ∧ LexE prog w k h rest r) _ ?_ ?_ _ _ ⟨rfl, rfl, he⟩
  · rintro ⟨u, v⟩ rest z s' ⟨hr, rfl, hv⟩
    cases hv with
    | ne h1 =>
      refine wpAny_bind (h1 A.in1 _ _ _ hs (by show A.units + 1 + k < _; exact zq1 hu) ?_)
      show wpAny _ _ (if (!false) = true then _ else _) _ _ _
      rw [if_pos (show (!false) = true from rfl)]
      exact wpAny_bind (wpAny_pure (wpAny_pure (wpAny_pure ⟨_, rfl, (fun e => nomatch e), q⟩)))
    | eq h1 h2 =>
      refine wpAny_bind (h1 A.in1 _ _ _ hs (by show A.units + 1 + k < _; exact zq1 hu) ?_)
      show wpAny _ _ (if (!true) = true then _ else _) _ _ _
      rw [if_neg (show ¬ (!true) = true by decide)]
      exact wpAny_pure ⟨rfl, rfl, h2⟩
  · rintro ⟨r1, r2⟩ s' ⟨hr, rfl, hv⟩
    simp only at hr
    subst hr
    refine wpAny_pure ⟨_, rfl, (fun e => nomatch e), ?_⟩
    have e : (xs.toArray.size != ys.toArray.size) = false := by rw [List.size_toArray, List.size_toArray, hlen]; simp
    show Q (.bool (xs.toArray.size != ys.toArray.size)) _
    rw [e]
    cases hv
    exact q
theorem LtV.op {A : Around} {s : Shared} {Q : Value → Shared → Prop} {E : Value → Shared → Prop} {v u : Value} {c : Bool} (l : LtV prog w k h v u c) (hs : s.heap = h) (hu : A.units + k < cLine) (q : Q (.bool c) s) : wpAny (model prog w) A (compareOp .Lt v u) Q E s := l A s Q E hs hu q
theorem NeV.op {A : Around} {s : Shared} {Q : Value → Shared → Prop} {E : Value → Shared → Prop} {v u : Value} {c : Bool} (l : NeV prog w k h v u c) (hs : s.heap = h) (hu : A.units + k < cLine) (q : Q (.bool c) s) : wpAny (model prog w) A (compareOp .NotEq v u) Q E s := l A s Q E hs hu q
theorem EqV.weak {v u : Value} {c : Bool} {j : Nat} (l : EqV prog w k h v u c) (hj : k ≤ j) : EqV prog w j h v u c := fun A s Q E hs hu q => l A s Q E hs (by exact zq443 hj hu) q
theorem LtV.weak {v u : Value} {c : Bool} {j : Nat} (l : LtV prog w k h v u c) (hj : k ≤ j) : LtV prog w j h v u c := fun A s Q E hs hu q => l A s Q E hs (by exact zq443 hj hu) q
end

-- a float of the law: its token is of the pool and tells its number
noncomputable def FV (φ : Nat → Int) (v : Value) (x : Int) : Prop := ∃ t : Nat, v = .float (fl x) t ∧ 1 ≤ t ∧ φ t = x ∧ x.natAbs < 2 ^ 50
noncomputable def plt (a b : Int × Int) : Bool := decide (a.1 < b.1 ∨ (a.1 = b.1 ∧ a.2 < b.2))
noncomputable def PF (φ : Nat → Int) (news : List (Addr × Obj)) (v : Value) (z : Int × Int) : Prop := ∃ a p q, v = .ref a ∧ (a, tupO [p, q]) ∈ news ∧ FV φ p z.1 ∧ FV φ q z.2
noncomputable def PI (news : List (Addr × Obj)) (v : Value) (z : Int × Int) : Prop := ∃ a t u, v = .ref a ∧ (a, tupO [.int z.1 t, .int z.2 u]) ∈ news
theorem eqI {prog : Program} {w : World} {h : Heap} {k : Nat} (a b : Int) (t u : Tok) : EqV prog w k h (.int a t) (.int b u) (decide (a = b)) := fun A s Q E hs _ q => EqV.int a b t u A s Q E hs (by exact zq325 (by assumption)) (by rwa [show (a == b) = decide (a = b) by rfl])
section
variable {prog : Program} {w : World} {h : Heap} {φ : Nat → Int} {k : Nat} {h₀ : Heap} {L : Addr} {news : List (Addr × Obj)}
theorem FV.eqV {v u : Value} {x y : Int} (X : NoneBooked h) (hv : FV φ v x) (hu : FV φ u y) : EqV prog w k h v u (decide (x = y)) := by
  obtain ⟨t, rfl, t1, e1, b1⟩ := hv
  obtain ⟨t', rfl, t1', e1', b1'⟩ := hu
  exact EqV.weak (EqV.float X (by exact zq23 b1) (by exact zq23 b1') (by intro e; have : t = 0 := e; exact zq326 t1 this) (by intro e; have : t' = 0 := e; exact zq326 t1' this) (by intro e; have : t = t' := e; rw [← e1, ← e1', this])) (Nat.zero_le _)
theorem FV.ltV {v u : Value} {x y : Int} (hv : FV φ v x) (hu : FV φ u y) : LtV prog w k h v u (decide (x < y)) := by
  obtain ⟨t, rfl, t1, e1, b1⟩ := hv
  obtain ⟨t', rfl, t1', e1', b1'⟩ := hu
  exact LtV.weak (LtV.float (by exact zq23 b1) (by exact zq23 b1')) (Nat.zero_le _)
theorem lexL2 {p q p' q' : Value} {x y x' y' : Int} (e1 : EqV prog w k h p p' (decide (x = x'))) (l1 : LtV prog w k h p p' (decide (x < x'))) (e2 : EqV prog w k h q q' (decide (y = y'))) (l2 : LtV prog w k h q q' (decide (y < y'))) :
    LexL prog w k h ([p, q].zip [p', q']) (plt (x, y) (x', y')) := by
  show LexL prog w k h [(p, p'), (q, q')] _
  by_cases h1 : x = x'
  · rw [decide_eq_true h1] at e1
    refine .eq e1 ?_
    by_cases h2 : y = y'
    · rw [decide_eq_true h2] at e2
      have : plt (x, y) (x', y') = false := by unfold plt; simp; exact zq327 h1 h2
      rw [this]
      exact .eq e2 .nil
    · rw [decide_eq_false h2] at e2
      have : plt (x, y) (x', y') = decide (y < y') := by unfold plt; simp [h1]
      rw [this]
      exact .ne e2 l2
  · rw [decide_eq_false h1] at e1
    have : plt (x, y) (x', y') = decide (x < x') := by unfold plt; simp [h1]
    rw [this]
    exact .ne e1 l1
theorem lexE2 {p q p' q' : Value} {x y x' y' : Int} (e1 : EqV prog w k h p p' (decide (x = x'))) (e2 : EqV prog w k h q q' (decide (y = y'))) :
    LexE prog w k h ([p, q].zip [p', q']) (decide ((x, y) = (x', y'))) := by
  show LexE prog w k h [(p, p'), (q, q')] _
  by_cases h1 : x = x'
  · rw [decide_eq_true h1] at e1
    refine .eq e1 ?_
    by_cases h2 : y = y'
    · rw [decide_eq_true h2] at e2
      rw [decide_eq_true (by rw [h1, h2])]
      exact .eq e2 .nil
    · rw [decide_eq_false h2] at e2
      rw [decide_eq_false (by simp [h2])]
      exact .ne e2
  · rw [decide_eq_false h1] at e1
    rw [decide_eq_false (by simp [h1])]
    exact .ne e1
theorem PF.ltV {v u : Value} {x y : Int × Int} (X : NoneBooked h) (N : News h₀ L h news) (hv : PF φ news v x) (hu : PF φ news u y) : LtV prog w 1 h v u (plt x y) := by
  obtain ⟨a, p, q, rfl, ha, hp, hq⟩ := hv
  obtain ⟨a', p', q', rfl, ha', hp', hq'⟩ := hu
  exact LtV.tup (N _ ha).1 (N _ ha').1 rfl (lexL2 (hp.eqV X hp') (hp.ltV hp') (hq.eqV X hq') (hq.ltV hq'))
theorem PF.lexE {p q p' q' : Value} {x y : Int × Int} (X : NoneBooked h) (hp : FV φ p x.1) (hq : FV φ q x.2) (hp' : FV φ p' y.1) (hq' : FV φ q' y.2) : LexE prog w k h ([p, q].zip [p', q']) (decide (x = y)) := lexE2 (hp.eqV X hp') (hq.eqV X hq')
theorem tupO_inj {xs ys : List Value} (e : tupO xs = tupO ys) : xs = ys := by
  have := congrArg Obj.data e
  injection this with e1
  simpa using congrArg Array.toList e1
theorem FV.uniq {v : Value} {x y : Int} (hx : FV φ v x) (hy : FV φ v y) : x = y := by
  obtain ⟨t, rfl, t1, e1, b1⟩ := hx
  obtain ⟨t', e, t1', e1', b1'⟩ := hy
  injection e with e2 e3
  have : t = t' := e3
  rw [← e1, ← e1', this]
theorem PF.uniq {v : Value} {x y : Int × Int} (N : News h₀ L h news) (hx : PF φ news v x) (hy : PF φ news v y) : x = y := by
  obtain ⟨a, p, q, rfl, ha, hp, hq⟩ := hx
  obtain ⟨a', p', q', e, ha', hp', hq'⟩ := hy
  injection e with e
  subst e
  have e := tupO_inj (Option.some.inj ((N _ ha).1.symm.trans (N _ ha').1))
  injection e with e1 e2
  injection e2 with e2
  subst e1 e2
  exact Prod.ext (hp.uniq hp') (hq.uniq hq')
theorem PF.eqV {v u : Value} {x y : Int × Int} (X : NoneBooked h) (N : News h₀ L h news) (hv : PF φ news v x) (hu : PF φ news u y) : EqV prog w 1 h v u (decide (x = y)) := by
  have hz := fun (e : v = u) => PF.uniq N hv (e ▸ hu)
  obtain ⟨a, p, q, rfl, ha, hp, hq⟩ := hv
  obtain ⟨a', p', q', rfl, ha', hp', hq'⟩ := hu
  exact EqV.tup (N _ ha).1 (N _ ha').1 rfl (PF.lexE X hp hq hp' hq') fun e => decide_eq_true (hz (by rw [e]))
theorem PI.ltV {v u : Value} {x y : Int × Int} (N : News h₀ L h news) (hv : PI news v x) (hu : PI news u y) : LtV prog w 1 h v u (plt x y) := by
  obtain ⟨a, p, q, rfl, ha⟩ := hv
  obtain ⟨a', p', q', rfl, ha'⟩ := hu
  exact LtV.tup (N _ ha).1 (N _ ha').1 rfl (lexL2 (k := 0) (eqI _ _ _ _) (LtV.int _ _ _ _) (eqI _ _ _ _) (LtV.int _ _ _ _))
theorem PI.uniq {v : Value} {x y : Int × Int} (N : News h₀ L h news) (hx : PI news v x) (hy : PI news v y) : x = y := by
  obtain ⟨a, p, q, rfl, ha⟩ := hx
  obtain ⟨a', p', q', e, ha'⟩ := hy
  injection e with e
  subst e
  have e := tupO_inj (Option.some.inj ((N _ ha).1.symm.trans (N _ ha').1))
  injection e with e1 e2
  injection e2 with e2
  injection e1 with e1
  injection e2 with e2
  exact Prod.ext e1 e2
theorem PI.eqV {v u : Value} {x y : Int × Int} (N : News h₀ L h news) (hv : PI news v x) (hu : PI news u y) : EqV prog w 1 h v u (decide (x = y)) := by
  have hz := fun (e : v = u) => PI.uniq N hv (e ▸ hu)
  obtain ⟨a, p, q, rfl, ha⟩ := hv
  obtain ⟨a', p', q', rfl, ha'⟩ := hu
  exact EqV.tup (N _ ha).1 (N _ ha').1 rfl (lexE2 (eqI _ _ _ _) (eqI _ _ _ _)) fun e => decide_eq_true (hz (by rw [e]))
theorem LtOK.pf {κ : Value → Int × Int} {vs : List Value} (hk : ∀ v ∈ vs, PF φ news v (κ v)) : LtOK prog w news (fun v u => plt (κ v) (κ u)) vs := fun v hv u hu A h₀ L s Q E hun hh X N q =>
  (PF.ltV (noneBooked X) N (hk v hv) (hk u hu)).op rfl (by exact zq328 hun) q
-- pairs of a pair of ints and a rank
noncomputable def plt3 (a b : (Int × Int) × Int) : Bool := if a.1 = b.1 then decide (a.2 < b.2) else plt a.1 b.1
noncomputable def PR (news : List (Addr × Obj)) (v : Value) (z : (Int × Int) × Int) : Prop := ∃ a p t, v = .ref a ∧ (a, tupO [p, .int z.2 t]) ∈ news ∧ PI news p z.1
theorem PR.ltV {v u : Value} {x y : (Int × Int) × Int} (N : News h₀ L h news) (hv : PR news v x) (hu : PR news u y) : LtV prog w 2 h v u (plt3 x y) := by
  obtain ⟨a, p, q, rfl, ha, hp⟩ := hv
  obtain ⟨a', p', q', rfl, ha', hp'⟩ := hu
  refine LtV.tup (N _ ha).1 (N _ ha').1 rfl ?_
  show LexL prog w 1 h [(p, p'), (_, _)] _
  have e1 : EqV prog w 1 h p p' _ := hp.eqV N hp'
  unfold plt3
  by_cases h1 : x.1 = y.1
  · rw [decide_eq_true h1] at e1
    rw [if_pos h1]
    refine .eq e1 ?_
    have e2 : EqV prog w 1 h (.int x.2 q) (.int y.2 q') (decide (x.2 = y.2)) := eqI _ _ _ _
    by_cases h2 : x.2 = y.2
    · rw [decide_eq_true h2] at e2
      rw [decide_eq_false (show ¬ x.2 < y.2 by exact zq329 h2)]
      exact .eq e2 .nil
    · rw [decide_eq_false h2] at e2
      exact .ne e2 ((LtV.int _ _ _ _).weak (Nat.zero_le _))
  · rw [decide_eq_false h1] at e1
    rw [if_neg h1]
    exact .ne e1 (hp.ltV N hp')
theorem LtOK.pr {κ : Value → (Int × Int) × Int} {vs : List Value} (hk : ∀ v ∈ vs, PR news v (κ v)) : LtOK prog w news (fun v u => plt3 (κ v) (κ u)) vs := fun v hv u hu A h₀ L s Q E hun hh X N q =>
  (PR.ltV N (hk v hv) (hk u hu)).op rfl (by exact zq330 hun) q
-- a hue, a rank and a colour; the ranks differ
noncomputable def PT (φ : Nat → Int) (news : List (Addr × Obj)) (v : Value) (z : Int × Int) : Prop := ∃ a p t c, v = .ref a ∧ (a, tupO [p, .int z.2 t, c]) ∈ news ∧ FV φ p z.1
theorem PT.ltV {v u : Value} {x y : Int × Int} (X : NoneBooked h) (N : News h₀ L h news) (hv : PT φ news v x) (hu : PT φ news u y) (hne : x.2 = y.2 → v = u ∧ (∃ a, v = .ref a ∧ ∃ p t c, (a, tupO [p, .int x.2 t, .ref c]) ∈ news)) : LtV prog w 2 h v u (plt x y) := by
  obtain ⟨a, p, q, c, rfl, ha, hp⟩ := hv
  obtain ⟨a', p', q', c', rfl, ha', hp'⟩ := hu
  refine LtV.tup (N _ ha).1 (N _ ha').1 rfl ?_
  show LexL prog w 1 h [(p, p'), (_, _), (c, c')] _
  have e1 : EqV prog w 1 h p p' _ := hp.eqV X hp'
  by_cases h1 : x.1 = y.1
  · rw [decide_eq_true h1] at e1
    refine .eq e1 ?_
    have e2 : EqV prog w 1 h (.int x.2 q) (.int y.2 q') (decide (x.2 = y.2)) := eqI _ _ _ _
    by_cases h2 : x.2 = y.2
    · obtain ⟨ev, a2, e3, p3, t3, c3, h3⟩ := hne h2
      injection ev with ev
      injection e3 with e3
      subst ev e3
      have k1 := tupO_inj (Option.some.inj ((N _ ha).1.symm.trans (N _ h3).1))
      have k2 := tupO_inj (Option.some.inj ((N _ ha').1.symm.trans (N _ h3).1))
      simp only [List.cons.injEq] at k1 k2
      obtain ⟨_, _, rfl, _⟩ := k1
      obtain ⟨_, _, rfl, _⟩ := k2
      rw [decide_eq_true h2] at e2
      have : plt x y = false := by unfold plt; simp; exact zq327 h1 h2
      rw [this]
      refine .eq e2 (.eq ?_ .nil)
      intro A s Q E hs hu q
      unfold eqBool
      try with_reducible refine wpAny_holding ?_
      show wpAny _ _ (if (Value.ref c3 == Value.ref c3) = true then _ else _) Q E s
      rw [if_pos (by simp)]
      exact wpAny_bind (wpAny_rule (wpAny_pure q))
    · rw [decide_eq_false h2] at e2
      have : plt x y = decide (x.2 < y.2) := by unfold plt; simp [h1]
      rw [this]
      exact .ne e2 ((LtV.int _ _ _ _).weak (Nat.zero_le _))
  · rw [decide_eq_false h1] at e1
    have : plt x y = decide (x.1 < y.1) := by unfold plt; simp [h1]
    rw [this]
    exact .ne e1 (hp.ltV hp')
-- lists of pairs of floats that are alike
theorem EqV.at {A : Around} {s : Shared} {v u : Value} {b : Bool} (l : ∀ prog w, EqV prog w k s.heap v u b) (hu : A.units + k < cLine) : SeqAt.EqAt A s v u b := fun prog w E Q q => l prog w A s Q E rfl hu q
theorem eqLists {A : Around} {s : Shared} {Q : Value → Shared → Prop} {E : Value → Shared → Prop} {l l' : Addr} {vs us : List Value} {e e' : Nat} (X : NoneBooked s.heap) (N : News h₀ L s.heap news) (hl : (l, listOf vs.toArray e) ∈ news) (hl' : (l', listOf us.toArray e') ∈ news) (hu : A.units + 10 < cLine) (hlen : vs.length = us.length)
    (hk : ∀ i, i < vs.length → ∃ z, PF φ news (vs.getD i .none) z ∧ PF φ news (us.getD i .none) z) (q : Q (.bool true) s) : wpAny (model prog w) A (compareOp .Eq (.ref l) (.ref l')) Q E s := by
  have := SeqAt.RcAt.lists (A := A) (e := fun _ => true) (N.isList hl) (N.isList hl') (by simp [hlen]) (by exact zq331 hu) (fun j h1 h2 => ?_)
  · refine this prog w E Q ?_
    rw [show (List.range vs.toArray.size).all (fun _ => true) = true by simp]
    exact q
  · have h1' : j < vs.length := by simpa using h1
    have h2' : j < us.length := by simpa using h2
    obtain ⟨z, p1, p2⟩ := hk j h1'
    have e1 : vs.toArray[j] = vs.getD j .none := by simp [List.getD, h1']
    have e2 : us.toArray[j] = us.getD j .none := by simp [List.getD, h2']
    rw [e1, e2]
    refine EqV.at (k := 1) (fun prog w => ?_) (by show A.units + 1 + 1 < _; exact zq332 hu)
    have := PF.eqV (prog := prog) (w := w) X N p1 p2
    rwa [decide_eq_true rfl] at this
theorem neNil {A : Around} {s : Shared} {Q : Value → Shared → Prop} {E : Value → Shared → Prop} {l l' : Addr} {vs : List Value} {e e' : Nat} (N : News h₀ L s.heap news) (hl : (l, listOf vs.toArray e) ∈ news) (hl' : (l', listOf #[] e') ∈ news) (hu : A.units + 10 < cLine)
    (q : Q (.bool (!vs.isEmpty)) s) : wpAny (model prog w) A (compareOp .NotEq (.ref l) (.ref l')) Q E s := by
  cases vs with
  | nil =>
    have := SeqAt.RcNeAt.lists (A := A) (e := fun _ => true) (N.isList hl) (N.isList hl') (by simp) (by exact zq331 hu) (fun j h1 h2 => absurd h1 (by simp))
    exact this prog w E Q q
  | cons v vs =>
    have := SeqAt.RcNeAt.lists_lengths (A := A) (N.isList hl) (N.isList hl') (by simp) (by exact zq331 hu)
    exact this prog w E Q q
end

-- pure: the sort's tree of questions ends with a sorted permutation
noncomputable def KOk {α : Type} (n : Nat) (lt : Nat → Nat → Bool) (P : α → Prop) : KasT α → Prop
  | .ret a => P a
  | .ask i j k => i < n ∧ j < n ∧ KOk n lt P (k (lt i j))
theorem KOk.bind {α β : Type} {n : Nat} {lt : Nat → Nat → Bool} {P : β → Prop} {f : α → KasT β} : ∀ {t : KasT α}, KOk n lt (fun a => KOk n lt P (f a)) t → KOk n lt P (t.bind f)
  | .ret _, h => h
  | .ask _ _ k, h => ⟨h.1, h.2.1, KOk.bind (t := k _) h.2.2⟩
theorem KOk.mono {α : Type} {n : Nat} {lt : Nat → Nat → Bool} {P P' : α → Prop} (hp : ∀ a, P a → P' a) : ∀ {t : KasT α}, KOk n lt P t → KOk n lt P' t
  | .ret a, h => hp a h
  | .ask _ _ k, h => ⟨h.1, h.2.1, KOk.mono hp (t := k _) h.2.2⟩
theorem KOk.wp {α : Type} {n : Nat} {lt : Nat → Nat → Bool} {P : α → Prop} {cmp : Nat → Nat → (Bool → Shared → Prop) → Shared → Prop} {Q : α → Shared → Prop} {s : Shared} (hc : ∀ i j, i < n → j < n → ∀ C : Bool → Shared → Prop, C (lt i j) s → cmp i j C s) (hq : ∀ a, P a → Q a s) :
    ∀ {t : KasT α}, KOk n lt P t → t.kasWp cmp Q s
  | .ret a, h => hq a h
  | .ask i j k, h => hc i j h.1 h.2.1 _ (KOk.wp hc hq (t := k _) h.2.2)
structure SWn (lt : Nat → Nat → Bool) : Prop where
  asym : ∀ a b, lt a b = true → lt b a = false
  trans : ∀ a b c, lt b a = false → lt c b = false → lt c a = false
section
variable {n : Nat} {lt : Nat → Nat → Bool} {p : Array Nat}
theorem SWn.irr (o : SWn lt) (a : Nat) : lt a a = false := by
  cases h : lt a a
  · rfl
  · exact h ▸ o.asym a a h
noncomputable def IsP (n : Nat) (p : Array Nat) : Prop := p.size = n ∧ p.toList.Perm (List.range n)
theorem IsP.bd (h : IsP n p) (hn : 0 < n) (i : Nat) : p.getD i 0 < n := by
  by_cases hi : i < p.size
  · have : p.getD i 0 ∈ p.toList := by simp [Array.getD, hi]
    exact List.mem_range.mp (h.2.mem_iff.mp this)
  · simp [Array.getD, hi, hn]
noncomputable def Up (lt : Nat → Nat → Bool) (p : Array Nat) (k : Nat) : Prop := ∀ i j, i ≤ j → j < k → lt (p.getD j 0) (p.getD i 0) = false
noncomputable def Dn (lt : Nat → Nat → Bool) (p : Array Nat) (k : Nat) : Prop := ∀ i j, i ≤ j → j < k → lt (p.getD i 0) (p.getD j 0) = false
noncomputable def Eqs (lt : Nat → Nat → Bool) (p : Array Nat) (a b : Nat) : Prop := ∀ i j, a ≤ i → i < b → a ≤ j → j < b → lt (p.getD i 0) (p.getD j 0) = false
theorem Up.step (o : SWn lt) {a : Nat} (h1 : 1 ≤ a) (h : Up lt p a) (hl : lt (p.getD a 0) (p.getD (a - 1) 0) = false) : Up lt p (a + 1) := fun i j hij hj => by
  by_cases e : j = a
  · subst e
    by_cases e2 : i = j
    · subst e2; exact o.irr _
    · exact o.trans _ _ _ (h i (j - 1) (by exact zq333 hij h1 e2) (by exact zq334 h1)) hl
  · exact h i j hij (by exact zq335 hj e)
theorem Dn.step (o : SWn lt) {a : Nat} (h1 : 1 ≤ a) (h : Dn lt p a) (hl : lt (p.getD (a - 1) 0) (p.getD a 0) = false) : Dn lt p (a + 1) := fun i j hij hj => by
  by_cases e : j = a
  · subst e
    by_cases e2 : i = j
    · subst e2; exact o.irr _
    · exact o.trans _ _ _ hl (h i (j - 1) (by exact zq333 hij h1 e2) (by exact zq334 h1))
  · exact h i j hij (by exact zq335 hj e)
theorem rev_getD {i j : Nat} (hj : j ≤ p.size) (k : Nat) : (kas_rev p i j).getD k 0 = if i ≤ k ∧ k < j then p.getD (i + j - 1 - k) 0 else p.getD k 0 := by
  have e := getElem?_mirror_all (i := i) hj k
  rw [Array.getD_eq_getD_getElem?, show (kas_rev p i j)[k]? = _ from e]
  split <;> exact Array.getD_eq_getD_getElem?.symm
theorem IsP.rev (h : IsP n p) (i j : Nat) : IsP n (kas_rev p i j) := ⟨by rw [kas_rev_size]; exact h.1, (Array.perm_iff_toList_perm.mp (mirror_perm p i j _)).trans h.2⟩
theorem bub_getD {src d : Nat} (hs : src < p.size) (hd : d ≤ src) (k : Nat) : (bubble p src d).getD k 0 = if k = src - d then p.getD src 0 else if src - d < k ∧ k ≤ src then p.getD (k - 1) 0 else p.getD k 0 := by
  have e := getElem?_bubble hs d hd k
  simp only [Array.getD_eq_getD_getElem?]
  rw [e]
  by_cases h1 : k = src - d
  · rw [if_pos h1, if_pos h1]
  · rw [if_neg h1, if_neg h1]
    by_cases h2 : src - d < k ∧ k ≤ src
    · rw [if_pos h2, if_pos h2]
    · rw [if_neg h2, if_neg h2]
theorem IsP.bub (h : IsP n p) (i j : Nat) : IsP n (bubble p i j) := ⟨by rw [bubble_size]; exact h.1, (Array.perm_iff_toList_perm.mp (bubble_perm p i j)).trans h.2⟩
theorem Dn.rev {m i j : Nat} (hj : j ≤ p.size) (h : Dn lt p m) (he : Eqs lt p i j) (hjm : j ≤ m) : Dn lt (kas_rev p i j) m := fun x y hxy hy => by
  rw [rev_getD hj, rev_getD hj]
  split
  · split
    · exact he _ _ (by exact zq336 (by assumption)) (by exact zq337 (by assumption)) (by exact zq336 (by assumption)) (by exact zq337 (by assumption))
    · exact h _ _ (by exact zq338 hxy (by assumption) (by assumption)) hy
  · split
    · exact h _ _ (by exact zq339 hxy (by assumption) (by assumption)) (by exact zq340 hjm (by assumption))
    · exact h _ _ hxy hy
theorem Dn.whole {m : Nat} (hm : m ≤ p.size) (h : Dn lt p m) : Up lt (kas_rev p 0 m) m := fun x y hxy hy => by
  rw [rev_getD hm, rev_getD hm, if_pos (by exact zq341 hy), if_pos (by exact zq342 hxy hy)]
  exact h _ _ (by exact zq343 hxy hy) (by exact zq344 hxy hy)
theorem asc_ok (o : SWn lt) (hP : IsP n p) (hn : 0 < n) : ∀ (f a : Nat), 1 ≤ a → a + f ≤ n → Up lt p a →
    KOk n lt (fun m => a ≤ m ∧ m ≤ a + f ∧ Up lt p m ∧ (m < a + f → lt (p.getD m 0) (p.getD (m - 1) 0) = true)) (kas_asc p f a)
  | 0, a, h1, ha, hu => ⟨Nat.le_refl _, Nat.le_refl _, hu, fun h => absurd h (by exact zq345 h)⟩
  | f + 1, a, h1, ha, hu => by
    refine ⟨hP.bd hn _, hP.bd hn _, ?_⟩
    cases hc : lt (p.getD a 0) (p.getD (a - 1) 0)
    · try dsimp only
      rw [if_neg Bool.false_ne_true]
      exact (asc_ok o hP hn f (a + 1) (by exact zq346 h1) (by exact zq347 ha) (hu.step o h1 hc)).mono fun m hm => ⟨by omega, by omega, hm.2.2.1, fun h => hm.2.2.2 (by exact zq350 h)⟩
    · try dsimp only
      rw [if_pos rfl]
      exact ⟨Nat.le_refl _, by exact zq351, hu, fun _ => hc⟩
theorem desc_ok (o : SWn lt) (hn : 0 < n) : ∀ (f : Nat) (p : Array Nat) (a q : Nat), IsP n p → q + 1 ≤ a → a + f ≤ n → Dn lt p a → Eqs lt p (a - (q + 1)) a →
    KOk n lt (fun r => IsP n r.1 ∧ a ≤ r.2.1 ∧ r.2.1 ≤ a + f ∧ r.2.2 + 1 ≤ r.2.1 ∧ Dn lt r.1 r.2.1 ∧ Eqs lt r.1 (r.2.1 - (r.2.2 + 1)) r.2.1) (kas_desc f p a q)
  | 0, p, a, q, hP, hq, ha, hd, he => ⟨hP, Nat.le_refl _, Nat.le_refl _, hq, hd, he⟩
  | f + 1, p, a, q, hP, hq, ha, hd, he => by
    refine ⟨hP.bd hn _, hP.bd hn _, ?_⟩
    have one : ∀ p' : Array Nat, Eqs lt p' (a + 1 - (0 + 1)) (a + 1) := fun p' i j h1 h2 h3 h4 => by
      obtain rfl : i = j := by exact zq352 h1 h2 h3 h4
      exact o.irr _
    cases hc : lt (p.getD a 0) (p.getD (a - 1) 0)
    · try dsimp only
      rw [if_neg Bool.false_ne_true]
      refine ⟨hP.bd hn _, hP.bd hn _, ?_⟩
      cases hd2 : lt (p.getD (a - 1) 0) (p.getD a 0)
      · try dsimp only
        rw [if_neg Bool.false_ne_true]
        refine (desc_ok o hn f p (a + 1) (q + 1) hP (by exact zq353 hq) (by exact zq347 ha) (hd.step o (by exact zq354 hq) hd2) ?_).mono fun r hr => ⟨hr.1, by omega, by omega, hr.2.2.2⟩
        have hsl : ∀ i, a - (q + 1) ≤ i → i < a → lt (p.getD i 0) (p.getD a 0) = false ∧ lt (p.getD a 0) (p.getD i 0) = false := fun i h1 h2 =>
          ⟨o.trans _ _ _ hd2 (he i (a - 1) h1 h2 (by exact zq355 h1 h2) (by exact zq356 h2)), o.trans _ _ _ (he (a - 1) i (by exact zq355 h1 h2) (by exact zq356 h2) h1 h2) hc⟩
        intro i j h1 h2 h3 h4
        by_cases e1 : i = a
        · by_cases e2 : j = a
          · rw [e1, e2]; exact o.irr _
          · rw [e1]; exact (hsl j (by exact zq357 hq h3 h4 e1 e2) (by exact zq358 h4 e1 e2)).2
        · by_cases e2 : j = a
          · rw [e2]; exact (hsl i (by exact zq359 hq h1 h2 e1 e2) (by exact zq360 h2 e1 e2)).1
          · exact he i j (by exact zq361 hq h1 h2 h4 e1 e2) (by exact zq362 h2 h4 e1 e2) (by exact zq363 hq h2 h3 h4 e1 e2) (by exact zq335 h4 e2)
      · try dsimp only
        rw [if_pos rfl]
        exact ⟨hP, Nat.le_refl _, by show a ≤ a + (f + 1); exact zq351, hq, hd, he⟩
    · try dsimp only
      rw [if_pos rfl]
      have hl := o.asym _ _ hc
      by_cases hq0 : q > 0
      · rw [if_pos hq0]
        have hsz : a ≤ p.size := by rw [hP.1]; exact zq364 ha
        refine (desc_ok o hn f _ (a + 1) 0 (hP.rev _ _) (by exact zq365) (by exact zq347 ha) ((hd.rev hsz he (Nat.le_refl _)).step o (by exact zq366 hq hq0) ?_) (one _)).mono fun r hr => ⟨hr.1, by omega, by omega, hr.2.2.2⟩
        rw [rev_getD hsz, rev_getD hsz, if_pos (by exact zq367 hq hq0), if_neg (by exact zq368)]
        exact o.trans _ _ _ hl (he _ _ (by exact zq369 hq hq0) (by exact zq370 hq hq0) (by exact zq371 hq hq0) (by exact zq372 hq hq0))
      · rw [if_neg hq0]
        exact (desc_ok o hn f p (a + 1) 0 hP (by exact zq365) (by exact zq347 ha) (hd.step o (by exact zq373 hq hq0) hl) (one _)).mono fun r hr => ⟨hr.1, by omega, by omega, hr.2.2.2⟩
theorem tail3_ok (o : SWn lt) (hn : 0 < n) {m : Nat} (hP : IsP n p) (h1 : 1 ≤ m) (hm : m ≤ n) (hd : Dn lt p m) : KOk n lt (fun r => IsP n r.2 ∧ 1 ≤ r.1 ∧ r.1 ≤ n ∧ Up lt r.2 r.1) (kas_tail3 m n p) :=
  KOk.bind ((asc_ok o (hP.rev _ _) hn (n - m) m h1 (by exact zq374 hm) (hd.whole (by rw [hP.1]; exact hm))).mono fun r hr => ⟨hP.rev _ _, by show 1 ≤ r; omega, by show r ≤ n; omega, hr.2.2.1⟩)
theorem descPart_ok (o : SWn lt) (hn : 0 < n) {m : Nat} (hP : IsP n p) (h1 : 1 ≤ m) (hm : m + 1 ≤ n) (hd : Dn lt p (m + 1)) : KOk n lt (fun r => IsP n r.2 ∧ 1 ≤ r.1 ∧ r.1 ≤ n ∧ Up lt r.2 r.1) (kas_descPart m n p) := by
  refine KOk.bind ((desc_ok o hn (n - (m + 1)) p (m + 1) 0 hP (by exact zq377 h1) (by exact zq378 hm) hd ?_).mono fun r hr => ?_)
  · intro i j h1 h2 h3 h4
    obtain rfl : i = j := by exact zq379 (by assumption) h1 h2 h3 h4
    exact o.irr _
  · obtain ⟨p', a, q⟩ := r
    obtain ⟨hP', ha, hb, hq, hd', he⟩ := hr
    simp only at hP' ha hb hq hd' he ⊢
    split
    · exact tail3_ok o hn (hP'.rev _ _) (by exact zq366 hq (by assumption)) (by exact zq380 hm hb) (hd'.rev (by rw [hP'.1]; exact zq380 hm hb) he (Nat.le_refl _))
    · exact tail3_ok o hn hP' (by exact zq373 hq (by assumption)) (by exact zq380 hm hb) hd'
theorem count_ok (o : SWn lt) (hn : 0 < n) (hP : IsP n p) : KOk n lt (fun r => IsP n r.2 ∧ 1 ≤ r.1 ∧ r.1 ≤ n ∧ Up lt r.2 r.1) (kas_count n p) := by
  refine KOk.bind ((asc_ok o hP hn (n - 1) 1 (Nat.le_refl _) (by exact zq381 hn) fun i j h1 h2 => ?_).mono fun a ha => ?_)
  · obtain rfl : i = j := by exact zq382 h1 h2
    exact o.irr _
  · obtain ⟨h1, h2, hu, hs⟩ := ha
    by_cases e : (a == n) = true
    · rw [if_pos e]
      exact ⟨hP, h1, by show a ≤ n; exact zq383 hn h2, hu⟩
    · rw [if_neg e]
      have han : a < n := by
        have : a ≠ n := by simpa using e
        exact zq384 hn h2 this
      have hs := hs (by exact zq385 hn h2 han)
      by_cases h3 : a > 1
      · rw [if_pos h3]
        refine ⟨hP.bd hn _, hP.bd hn _, ?_⟩
        cases hc : lt (p.getD 0 0) (p.getD (a - 1) 0)
        · try dsimp only
          rw [if_neg Bool.false_ne_true]
          have heq : Eqs lt p 0 a := fun i j _ hi _ hj => by
            have l1 := hu 0 i (by omega) hi
            have l2 := hu j (a - 1) (by exact zq386 h3 hj) (by exact zq387 h3)
            have l3 := o.trans _ _ _ l2 hc
            exact o.trans _ _ _ l3 l1
          have heq : Eqs lt p 0 a := fun i j _ hi _ hj => by
            exact heq i j (Nat.zero_le _) hi (Nat.zero_le _) hj
          have hsz : a ≤ p.size := by rw [hP.1]; exact zq388 han
          refine descPart_ok o hn (hP.rev _ _) h1 (by exact zq389 han) ?_
          have hd : Dn lt p a := fun i j _ hj => heq i j (Nat.zero_le _) (by exact zq390 (by assumption) hj) (Nat.zero_le _) hj
          refine (hd.rev hsz heq (Nat.le_refl _)).step o h1 ?_
          rw [rev_getD hsz, rev_getD hsz, if_pos (by exact zq391 h3), if_neg (by exact zq392)]
          exact o.trans _ _ _ (o.asym _ _ hs) (heq _ _ (by exact zq393) (by exact zq394 h3) (by exact zq395) (by exact zq387 h3))
        · try dsimp only
          rw [if_pos rfl]
          exact ⟨hP, h1, by show a ≤ n; exact zq388 han, hu⟩
      · rw [if_neg h3]
        obtain rfl : a = 1 := by exact zq396 h1 h3
        refine descPart_ok o hn hP h1 (by exact zq397 han) ?_
        refine Dn.step o (Nat.le_refl _) (fun i j h1 h2 => ?_) (o.asym _ _ hs)
        obtain rfl : i = j := by exact zq382 h1 h2
        exact o.irr _
theorem place_ok (o : SWn lt) (hn : 0 < n) (hP : IsP n p) {k : Nat} (hu : Up lt p k) : ∀ (f l r : Nat), l ≤ r → r ≤ k → r ≤ l + f → (∀ i, i < l → lt (p.getD k 0) (p.getD i 0) = false) → (∀ i, r ≤ i → i < k → lt (p.getD k 0) (p.getD i 0) = true) →
    KOk n lt (fun l => l ≤ k ∧ (∀ i, i < l → lt (p.getD k 0) (p.getD i 0) = false) ∧ (∀ i, l ≤ i → i < k → lt (p.getD k 0) (p.getD i 0) = true)) (kas_place p k f l r)
  | 0, l, r, hlr, hrk, hf, h1, h2 => ⟨by exact zq398 hlr hrk hf, h1, fun i hi hk => h2 i (by exact zq399 hlr hf hi) hk⟩
  | f + 1, l, r, hlr, hrk, hf, h1, h2 => by
    unfold kas_place
    by_cases e : l ≥ r
    · rw [if_pos e]
      exact ⟨by exact zq400 hlr hrk e, h1, fun i hi hk => h2 i (by exact zq401 hlr e hi) hk⟩
    · rw [if_neg e]
      refine ⟨hP.bd hn _, hP.bd hn _, ?_⟩
      cases hc : lt (p.getD k 0) (p.getD ((l + r) / 2) 0)
      · try dsimp only
        rw [if_neg Bool.false_ne_true]
        refine place_ok o hn hP hu f _ r (by exact zq402 e) hrk (by exact zq403 hf) (fun i hi => ?_) h2
        exact o.trans _ _ _ (hu i ((l + r) / 2) (by exact zq404 hi) (by exact zq405 hrk e)) hc
      · try dsimp only
        rw [if_pos rfl]
        refine place_ok o hn hP hu f l _ (by exact zq406 e) (by exact zq407 hrk e) (by exact zq408 hf) h1 (fun i hi hk => ?_)
        cases hc2 : lt (p.getD k 0) (p.getD i 0)
        · have := o.trans _ _ _ (hu ((l + r) / 2) i hi hk) hc2
          rw [this] at hc; exact absurd hc Bool.false_ne_true
        · rfl
theorem bin_ok (o : SWn lt) (hn : 0 < n) : ∀ (f : Nat) (p : Array Nat) (k : Nat), IsP n p → 1 ≤ k → k + f = n → Up lt p k → KOk n lt (fun p => IsP n p ∧ Up lt p n) (kas_bin f p k)
  | 0, p, k, hP, h1, hk, hu => ⟨hP, by rw [← hk]; exact hu⟩
  | f + 1, p, k, hP, h1, hk, hu => by
    refine KOk.bind ((place_ok o hn hP hu k 0 k (by exact zq409 h1) (by exact zq410) (by exact zq411) (fun i hi => absurd hi (by exact zq412 hi)) (fun i h1 h2 => absurd h1 (by exact zq413 h1 h2))).mono fun l hl => ?_)
    obtain ⟨hlk, ha, hb⟩ := hl
    refine bin_ok o hn f _ (k + 1) (hP.bub _ _) (by exact zq346 h1) (by exact zq414 hk) fun i j hij hj => ?_
    have hks : k < p.size := by rw [hP.1]; exact zq415 hk
    have el : k - (k - l) = l := by exact zq416 hlk
    rw [bub_getD hks (by exact zq417 hlk el), bub_getD hks (by exact zq417 hlk el), el]
    by_cases c1 : j = l
    · rw [if_pos c1]
      by_cases c2 : i = l
      · rw [if_pos c2]; exact o.irr _
      · rw [if_neg c2, if_neg (by exact zq418 hij el c1)]
        exact ha i (by exact zq419 hij el c1 c2)
    · rw [if_neg c1]
      by_cases c3 : l < j ∧ j ≤ k
      · rw [if_pos c3]
        by_cases c2 : i = l
        · rw [if_pos c2]; exact o.asym _ _ (hb (j - 1) (by exact zq420 el c3) (by exact zq421 hj el c3))
        · rw [if_neg c2]
          by_cases c4 : l < i ∧ i ≤ k
          · rw [if_pos c4]; exact hu _ _ (by exact zq422 hij el c3 c4) (by exact zq421 hj el c3)
          · rw [if_neg c4]; exact hu _ _ (by exact zq423 hij hj el c3 c4) (by exact zq421 hj el c3)
      · rw [if_neg c3, if_neg (by exact zq424 hij hj el c1 c3), if_neg (by exact zq425 hij hj el c3)]
        exact hu _ _ (by omega) (by exact zq426 hlk hj el c1 c3)
theorem sort_ok (o : SWn lt) (hn : 0 < n) : KOk n lt (fun p => IsP n p ∧ Up lt p n) (kas_sort n) := by
  refine KOk.bind ((count_ok o hn ⟨by simp, by simp⟩).mono fun r hr => ?_)
  obtain ⟨a, p⟩ := r
  obtain ⟨hP, h1, h2, hu⟩ := hr
  simp only at hP h1 h2 hu ⊢
  split
  · exact bin_ok o hn _ _ _ hP (by exact zq427) (by exact zq428 h1 (by assumption)) (by rw [Nat.max_eq_left h1]; exact hu)
  · obtain rfl : a = n := by exact zq429 h2 (by assumption)
    exact ⟨hP, hu⟩
end

noncomputable def OneV (prog : Program) (w : World) (k : Nat) (h : Heap) (g : Bool) (v u : Value) (b : Bool) : Prop :=
  ∀ (A : Around) (s : Shared) (Q : Bool → Shared → Prop) (E : Value → Shared → Prop), s.heap = h → A.units + k < cLine → Q b s → wpAny (model prog w) A (oneLt' g v u) Q E s
inductive LexS (prog : Program) (w : World) (k : Nat) (h : Heap) (g : Bool) : Nat → List (Value × Value) → Bool → Prop
  | nil {i : Nat} : LexS prog w k h g i [] false
  | eq {i : Nat} {p q : Value} {r : List (Value × Value)} {b : Bool} : EqV prog w k h p q true → LexS prog w k h g (i + 1) r b → LexS prog w k h g i ((p, q) :: r) b
  | ne {i : Nat} {p q : Value} {r : List (Value × Value)} {b : Bool} : EqV prog w k h p q false → OneV prog w k h (g && i == 0) p q b → LexS prog w k h g i ((p, q) :: r) b
noncomputable def SrtV (prog : Program) (w : World) (k : Nat) (h : Heap) (g : Bool) (v u : Value) (b : Bool) : Prop :=
  ∀ (A : Around) (s : Shared) (Q : Bool → Shared → Prop) (E : Value → Shared → Prop), s.heap = h → A.units + k < cLine → Q b s → wpAny (model prog w) A (keyLt' (tuples' g) v u) Q E s
section
variable {prog : Program} {w : World} {h : Heap} {k : Nat} {g : Bool}
theorem OneV.int (a b : Int) (t u : Tok) : OneV prog w k h true (.int a t) (.int b u) (decide (a < b)) := fun _ _ _ _ _ _ q => oneLt_int q
theorem OneV.ofLt {v u : Value} {b : Bool} (l : LtV prog w k h v u b) : OneV prog w k h false v u b := fun A s Q E hs hu q => kat_one _ _ (l A s _ _ hs hu q)
theorem OneV.float {φ : Nat → Int} {v u : Value} {x y : Int} (hv : FV φ v x) (hu : FV φ u y) : OneV prog w k h true v u (decide (x < y)) := fun A s Q E hs _ q => by
  obtain ⟨t, rfl, t1, e1, b1⟩ := hv
  obtain ⟨t', rfl, t1', e1', b1'⟩ := hu
  rw [oneLt'_eq]
  simp only [if_true]
  refine wpAny_bind (wpAny_cRoomFor_byValue rfl ?_)
  refine wpAny_bind (wpAny_callSpecialIfBound?_slot (typeIs_float s (fl x) t) PySem.F.slot_float_lt (call_gives PySem.F.slot_float_lt (typeIs_float s (fl x) t) PySem.F.entry_float_lt (PySem.F.args_float_lt_2 _ _) (AutoFloatG5.float___lt___float_float_0 (fl x) t (fl y) t') ?_))
  show wpAny _ _ (truthOfDropped (.bool (Float64.cmp (fl x) (fl y) == some .lt))) Q E s
  rw [lt_fl (by exact zq23 b1) (by exact zq23 b1')]
  exact wpAny_truthy_bool q
theorem LexS.run {b : Bool} {A : Around} {s : Shared} {Q : Bool → Shared → Prop} {i : Nat} {l : List (Value × Value)} (L : LexS prog w k h g i l b) (hs : s.heap = h) (hu : A.units + k < cLine) (q : Q b s) : KatLex prog w A g false Q l i s := by
  induction L with
  | nil => exact kat_nil q
  | eq e _ ih => exact kat_cons (e A s _ _ hs hu (kat_yes (ih q)))
  | ne e o => exact kat_cons (e A s _ _ hs hu (kat_no (o A s _ _ hs hu q)))
theorem SrtV.tup {a b : Addr} {xs ys : List Value} {c : Bool} (ha : h.get? a = some (tupO xs)) (hb : h.get? b = some (tupO ys)) (hlen : xs.length = ys.length) (L : LexS prog w k h g 0 (xs.zip ys) c) : SrtV prog w k h g (.ref a) (.ref b) c := fun A s Q E hs hu q => by
  refine kat_lt (xs := xs.toArray) (ys := ys.toArray) (by rw [hs]; exact ha) rfl (by rw [hs]; exact hb) rfl ?_
  rw [show decide (xs.toArray.size < ys.toArray.size) = false by simp [hlen]]
  exact L.run hs hu q
end
theorem sorted_out {vs : List Value} {lt : Value → Value → Bool} {p : Array Nat} (hP : IsP vs.length p) (hu : Up (fun i j => lt (vs.getD i .none) (vs.getD j .none)) p vs.length) :
    (p.toList.map fun i => vs.getD i .none).Perm vs ∧ (p.toList.map fun i => vs.getD i .none).Pairwise (fun a b => lt b a = false) := by
  constructor
  · refine (hP.2.map fun i => vs.getD i Value.none).trans ?_
    have e : (List.range vs.length).map (fun i => vs.getD i Value.none) = vs := by
      apply List.ext_getElem
      · simp
      · intro i h1 h2
        simp [h2]
    rw [e]
  · rw [List.pairwise_map, List.pairwise_iff_getElem]
    intro i j hi hj hij
    have hi' : i < p.size := by simpa using hi
    have hj' : j < p.size := by simpa using hj
    have := hu i j (by exact zq388 hij) (by rw [← hP.1]; exact hj')
    simpa [Array.getD, hi', hj'] using this
theorem SWO.idx {lt : Value → Value → Bool} (o : SWO lt) (vs : List Value) : SWn (fun i j => lt (vs.getD i .none) (vs.getD j .none)) := ⟨fun _ _ => o.asym _ _, fun _ _ _ => o.trans _ _ _⟩
noncomputable def HeadT (M : Model) (T : Value) (h : Heap) (v : Value) : Prop := ∃ a f xs, v = .ref a ∧ h.get? a = some (tupO (f :: xs)) ∧ Looks M h (typeOf f) T
theorem katTups {M : Model} {T : Value} {h : Heap} : ∀ {vs : List Value}, (∀ v ∈ vs, HeadT M T h v) → ∃ fs, KatTups h vs fs ∧ fs.length = vs.length ∧ ∀ f ∈ fs, Looks M h (typeOf f) T
  | [], _ => ⟨[], .nil, rfl, fun _ h => nomatch h⟩
  | v :: vs, hv => by
    obtain ⟨fs, h1, h2, h3⟩ := katTups (vs := vs) fun u hu => hv u (.tail _ hu)
    obtain ⟨a, f, xs, rfl, ha, hl⟩ := hv v (.head _)
    exact ⟨f :: fs, .cons ha rfl rfl (by simp) h1, by simp [h2], fun g hg => by
      rcases List.mem_cons.mp hg with rfl | hg
      · exact hl
      · exact h3 g hg⟩
section
variable {prog : Program} {w : World} {n : Nat} {A A' : Around} {h₀ : Heap} {L D l : Addr} {m : Str → Option Value} {news : List (Addr × Obj)} {hp : Heap} {gs : Array GenState} {dr : Drawn} {tk₀ : Nat} {oo : OsState} {vs : List Value} {e : Nat} {lt : Value → Value → Bool} {T : Value} {Q : Value → Shared → Prop} {E : Value → Shared → Prop}
theorem sort_mid {A : Around} {K : Array Nat → Shared → Prop} {s : Shared} (hu : A.units + 10 < cLine) (o : SWO lt) (h2 : 2 ≤ vs.length) (hT : ∀ v ∈ vs, HeadT (model prog w) T s.heap v) (hTT : (T == T) = true)
    (hl : ∀ v ∈ vs, ∀ u ∈ vs, SrtV prog w 3 s.heap (T != .type "tuple") v u (lt v u)) (hk : ∀ p : Array Nat, (p.toList.map fun i => vs.getD i .none).Perm vs → (p.toList.map fun i => vs.getD i .none).Pairwise (fun a b => lt b a = false) → K p s) :
    wpAny (model prog w) A (keyKind' vs.toArray) (fun κ s' => (kas_sort vs.length).kasWp (kas_ask prog w A κ vs) K s') (fun _ _ => False) s := by
  obtain ⟨fs, h1, hlen, h3⟩ := katTups hT
  refine kat_kind h1 (by exact zq430 h2 hlen) h3 hTT ?_
  refine KOk.wp (lt := fun i j => lt (vs.getD i .none) (vs.getD j .none)) (P := fun p => IsP vs.length p ∧ Up (fun i j => lt (vs.getD i .none) (vs.getD j .none)) p vs.length) ?_ ?_ (sort_ok (o.idx vs) (by exact zq431 h2 hlen))
  · intro i j hi hj C hC
    exact hl _ (getD_mem hi) _ (getD_mem hj) A s C _ rfl (by exact zq432 hu) hC
  · intro p hp
    obtain ⟨a, b⟩ := sorted_out hp.1 hp.2
    exact hk p a b
theorem sortN (hu : A.units + 20 < cLine) (F : Fr h₀ L hp m) (N : News h₀ L hp ((D, listOf vs.toArray e) :: news)) (hne : ∀ p ∈ news, p.1 ≠ D) (X : (KH w.params).In h₀) (o : SWO lt) (h2 : 2 ≤ vs.length) (h64 : vs.length < 64) (hTT : (T == T) = true)
    (hT : ∀ h, News h₀ L h news → ∀ v ∈ vs, HeadT (model prog w) T h v) (hl : ∀ h, (KH w.params).In h → News h₀ L h news → ∀ v ∈ vs, ∀ u ∈ vs, SrtV prog w 3 h (T != .type "tuple") v u (lt v u))
    (post : ∀ h' (us : List Value) e', Fr h₀ L h' m → News h₀ L h' ((D, listOf us.toArray e') :: news) → us.Perm vs → us.Pairwise (fun a b => lt b a = false) → Q .none ⟨h', gs, dr, tk₀, oo⟩) :
    wpAny (model prog w) A (call (.builtin "list.sort") [.ref D]) Q E ⟨hp, gs, dr, tk₀, oo⟩ := by
  refine kat_lsort (s := ⟨hp, gs, dr, tk₀, oo⟩) F N (.head hne) rfl h2 h64 fun e1 h' F' N' => ?_
  have N2 : News h₀ L h' news := nsub N' fun _ hp => .tail _ hp
  refine sort_mid (by show A.units + 1 + 10 < _; exact zq433 hu) o h2 (hT h' N2) hTT (hl h' (X.keeps F'.keep) N2) fun p a b => ?_
  exact KasFin.intro F' N' (.head hne) fun h'' c F'' N'' => post h'' _ c F'' N'' a b
theorem sortedN (hu : A.units + 20 < cLine) (F : Fr h₀ L hp m) (N : News h₀ L hp news) (hm : (l, listOf vs.toArray e) ∈ news) (X : (KH w.params).In h₀) (o : SWO lt) (h2 : 2 ≤ vs.length) (h64 : vs.length < 64) (hTT : (T == T) = true)
    (hT : ∀ h, News h₀ L h news → ∀ v ∈ vs, HeadT (model prog w) T h v) (hl : ∀ h, (KH w.params).In h → News h₀ L h news → ∀ v ∈ vs, ∀ u ∈ vs, SrtV prog w 3 h (T != .type "tuple") v u (lt v u))
    (post : ∀ D h' (us : List Value) e', Fr h₀ L h' m → News h₀ L h' ((D, listOf us.toArray e') :: news) → (∀ p ∈ news, p.1 ≠ D) → us.Perm vs → us.Pairwise (fun a b => lt b a = false) → Q (.ref D) ⟨h', gs, dr, tk₀, oo⟩) :
    wpAny (model prog w) A (call (.builtin "sorted") [.ref l]) Q E ⟨hp, gs, dr, tk₀, oo⟩ := by
  refine kat_sorted (s := ⟨hp, gs, dr, tk₀, oo⟩) F N (N.isList hm) h2 h64 fun D e1 h' F' N' hD => ?_
  have N2 : News h₀ L h' news := nsub N' fun _ hp => .tail _ hp
  have hne : ∀ p ∈ news, p.1 ≠ D := fun p hp => Nat.ne_of_lt (hD p hp)
  refine sort_mid (by show A.units + 1 + 1 + 10 < _; exact zq434 hu) o h2 (hT h' N2) hTT (hl h' (X.keeps F'.keep) N2) fun p a b => ?_
  exact KasFin.intro F' N' (.head hne) fun h'' c F'' N'' => post D h'' _ c F'' N'' hne a b
end

section
variable {prog : Program} {w : World} {h : Heap} {φ : Nat → Int} {h₀ : Heap} {L : Addr} {news : List (Addr × Obj)}
theorem lexS2 {k : Nat} {g : Bool} {p q p' q' : Value} {x y x' y' : Int} (e1 : EqV prog w k h p p' (decide (x = x'))) (l1 : OneV prog w k h g p p' (decide (x < x'))) (e2 : EqV prog w k h q q' (decide (y = y'))) (l2 : LtV prog w k h q q' (decide (y < y'))) (r : List (Value × Value)) (hr : x = x' → y = y' → LexS prog w k h g 2 r false) :
    LexS prog w k h g 0 ((p, p') :: (q, q') :: r) (plt (x, y) (x', y')) := by
  by_cases h1 : x = x'
  · rw [decide_eq_true h1] at e1
    refine .eq e1 ?_
    by_cases h2 : y = y'
    · rw [decide_eq_true h2] at e2
      have : plt (x, y) (x', y') = false := by unfold plt; simp; exact zq327 h1 h2
      rw [this]
      exact .eq e2 (hr h1 h2)
    · rw [decide_eq_false h2] at e2
      have : plt (x, y) (x', y') = decide (y < y') := by unfold plt; simp [h1]
      rw [this]
      refine .ne e2 ?_
      rw [show (g && (0 + 1 == 0)) = false by simp]
      exact .ofLt l2
  · rw [decide_eq_false h1] at e1
    have : plt (x, y) (x', y') = decide (x < x') := by unfold plt; simp [h1]
    rw [this]
    refine .ne e1 ?_
    rw [show (g && (0 == 0)) = g by simp]
    exact l1
theorem PI.srt {v u : Value} {x y : Int × Int} (N : News h₀ L h news) (hv : PI news v x) (hu : PI news u y) : SrtV prog w 3 h true v u (plt x y) := by
  obtain ⟨a, p, q, rfl, ha⟩ := hv
  obtain ⟨a', p', q', rfl, ha'⟩ := hu
  exact SrtV.tup (N _ ha).1 (N _ ha').1 rfl (lexS2 (eqI _ _ _ _) (OneV.int _ _ _ _) (eqI _ _ _ _) ((LtV.int _ _ _ _).weak (Nat.zero_le _)) [] fun _ _ => .nil)
theorem PI.head {v : Value} {x : Int × Int} (N : News h₀ L h news) (hv : PI news v x) : HeadT (model prog w) (.type "int") h v := by
  obtain ⟨a, p, q, rfl, ha⟩ := hv
  exact ⟨a, _, _, rfl, (N _ ha).1, Looks.of_pure rfl⟩
theorem PR.srt {v u : Value} {x y : (Int × Int) × Int} (N : News h₀ L h news) (hv : PR news v x) (hu : PR news u y) : SrtV prog w 3 h false v u (plt3 x y) := by
  obtain ⟨a, p, q, rfl, ha, hp⟩ := hv
  obtain ⟨a', p', q', rfl, ha', hp'⟩ := hu
  refine SrtV.tup (N _ ha).1 (N _ ha').1 rfl ?_
  show LexS prog w 3 h false 0 [(p, p'), (_, _)] _
  have e1 : EqV prog w 3 h p p' _ := (hp.eqV N hp').weak (by decide)
  unfold plt3
  by_cases h1 : x.1 = y.1
  · rw [decide_eq_true h1] at e1
    rw [if_pos h1]
    refine .eq e1 ?_
    have e2 : EqV prog w 3 h (.int x.2 q) (.int y.2 q') (decide (x.2 = y.2)) := eqI _ _ _ _
    by_cases h2 : x.2 = y.2
    · rw [decide_eq_true h2] at e2
      rw [decide_eq_false (show ¬ x.2 < y.2 by exact zq329 h2)]
      exact .eq e2 .nil
    · rw [decide_eq_false h2] at e2
      exact .ne e2 (.ofLt ((LtV.int _ _ _ _).weak (Nat.zero_le _)))
  · rw [decide_eq_false h1] at e1
    rw [if_neg h1]
    exact .ne e1 (.ofLt ((hp.ltV N hp').weak (by decide)))
theorem PR.head {v : Value} {x : (Int × Int) × Int} (N : News h₀ L h news) (hv : PR news v x) : HeadT (model prog w) (.type "tuple") h v := by
  obtain ⟨a, p, q, rfl, ha, a', t, u, rfl, hp⟩ := hv
  exact ⟨a, _, _, rfl, (N _ ha).1, (Looks.ld (N _ hp).1).andThen .now⟩
theorem PT.srt {v u : Value} {x y : Int × Int} (X : NoneBooked h) (N : News h₀ L h news) (hv : PT φ news v x) (hu : PT φ news u y) (hne : x.2 = y.2 → v = u ∧ (∃ a, v = .ref a ∧ ∃ p t c, (a, tupO [p, .int x.2 t, .ref c]) ∈ news)) : SrtV prog w 3 h true v u (plt x y) := by
  obtain ⟨a, p, q, c, rfl, ha, hp⟩ := hv
  obtain ⟨a', p', q', c', rfl, ha', hp'⟩ := hu
  refine SrtV.tup (N _ ha).1 (N _ ha').1 rfl ?_
  refine lexS2 (hp.eqV X hp') (OneV.float hp hp') (eqI _ _ _ _) ((LtV.int _ _ _ _).weak (Nat.zero_le _)) [(c, c')] fun _ h2 => ?_
  obtain ⟨ev, a2, e3, p3, t3, c3, h3⟩ := hne h2
  injection ev with ev
  injection e3 with e3
  subst ev e3
  have k1 := tupO_inj (Option.some.inj ((N _ ha).1.symm.trans (N _ h3).1))
  have k2 := tupO_inj (Option.some.inj ((N _ ha').1.symm.trans (N _ h3).1))
  simp only [List.cons.injEq] at k1 k2
  obtain ⟨_, _, rfl, _⟩ := k1
  obtain ⟨_, _, rfl, _⟩ := k2
  refine .eq ?_ .nil
  intro A s Q E hs hu q
  unfold eqBool
  try with_reducible refine wpAny_holding ?_
  show wpAny _ _ (if (Value.ref c3 == Value.ref c3) = true then _ else _) Q E s
  rw [if_pos (by simp)]
  exact wpAny_bind (wpAny_rule (wpAny_pure q))
theorem PT.head {v : Value} {x : Int × Int} (N : News h₀ L h news) (hv : PT φ news v x) : HeadT (model prog w) (.type "float") h v := by
  obtain ⟨a, p, q, c, rfl, ha, t, rfl, _⟩ := hv
  exact ⟨a, _, _, rfl, (N _ ha).1, Looks.of_pure rfl⟩
theorem plt_swo {κ : Value → Int × Int} : SWO (fun v u => plt (κ v) (κ u)) := ⟨fun a b h => by simp only [plt, decide_eq_true_eq, decide_eq_false_iff_not] at h ⊢; exact zq435 h, fun a b c h1 h2 => by simp only [plt, decide_eq_false_iff_not] at h1 h2 ⊢; exact zq436 h1 h2⟩
theorem plt3_iff (a b : (Int × Int) × Int) : plt3 a b = decide (a.1.1 < b.1.1 ∨ (a.1.1 = b.1.1 ∧ (a.1.2 < b.1.2 ∨ (a.1.2 = b.1.2 ∧ a.2 < b.2)))) := by
  unfold plt3 plt
  have e : a.1 = b.1 ↔ a.1.1 = b.1.1 ∧ a.1.2 = b.1.2 := Prod.ext_iff
  by_cases h : a.1 = b.1
  · rw [if_pos h]
    have := e.mp h
    by_cases h2 : a.2 < b.2
    · rw [decide_eq_true h2, decide_eq_true (by exact zq437 this h2)]
    · rw [decide_eq_false h2, decide_eq_false (by exact zq438 this h2)]
  · rw [if_neg h]
    have : ¬ (a.1.1 = b.1.1 ∧ a.1.2 = b.1.2) := fun x => h (e.mpr x)
    by_cases h2 : a.1.1 < b.1.1 ∨ (a.1.1 = b.1.1 ∧ a.1.2 < b.1.2)
    · rw [decide_eq_true h2, decide_eq_true (by exact zq439 h2)]
    · rw [decide_eq_false h2, decide_eq_false (by exact zq440 this h2)]
theorem plt3_swo {κ : Value → (Int × Int) × Int} : SWO (fun v u => plt3 (κ v) (κ u)) := ⟨fun a b h => by simp only [plt3_iff, decide_eq_true_eq, decide_eq_false_iff_not] at h ⊢; exact zq441 h, fun a b c h1 h2 => by simp only [plt3_iff, decide_eq_false_iff_not] at h1 h2 ⊢; exact zq442 h1 h2⟩
end

-- zip over two iterators that one draws from
noncomputable def Deps (h : Heap) (dp : List (Addr × Obj)) : Prop := ∀ p ∈ dp, h.get? p.1 = some p.2
noncomputable def DrawI (prog : Program) (w : World) (i : Addr) (o : Obj) (P' : Obj → Prop) (dp : List (Addr × Obj)) (x : Nat → Value) (d : Nat) : Prop :=
  ∀ (A : Around) (s : Shared) (Q : Value → Shared → Prop) (E : Value → Shared → Prop), s.heap.get? i = some o → Deps s.heap dp →
    (∀ h' o', h'.get? i = some o' → P' o' → Heap.SameBut i s.heap h' → Q (x s.toks) { s with heap := h', toks := s.toks + d }) → wpAny (model prog w) A (Builtin.SmallTypes.nextOf (.ref i)) Q E s
noncomputable def DrawE (prog : Program) (w : World) (i : Addr) (o : Obj) (dp : List (Addr × Obj)) : Prop :=
  ∀ (A : Around) (s : Shared) (Q : Value → Shared → Prop) (E : Value → Shared → Prop), A.handled = none → s.heap.get? i = some o → Deps s.heap dp →
    (∀ h' e, Heap.ExtBut i s.heap h' → (∃ o, h'.get? e = some o ∧ o.cls = .type "StopIteration") → E (.ref e) { s with heap := h' }) → wpAny (model prog w) A (Builtin.SmallTypes.nextOf (.ref i)) Q E s
theorem Deps.but {h h' : Heap} {dp : List (Addr × Obj)} {a : Addr} (d : Deps h dp) (hs : Heap.ExtBut a h h') (hn : ∀ p ∈ dp, p.1 ≠ a) : Deps h' dp := fun p hp => hs _ _ (hn p hp) (d p hp)
section
variable {prog : Program} {w : World} {A : Around} {E : Value → Shared → Prop} {s : Shared}
structure ZA (z TI TO i1 i2 : Addr) (dp : List (Addr × Obj)) : Prop where
  TIz : TI ≠ z
  TOz : TO ≠ z
  i1z : i1 ≠ z
  i2z : i2 ≠ z
  TITO : TI ≠ TO
  TIi1 : TI ≠ i1
  TIi2 : TI ≠ i2
  TOi1 : TO ≠ i1
  TOi2 : TO ≠ i2
  i12 : i1 ≠ i2
  dz : ∀ p ∈ dp, p.1 ≠ z
  dTO : ∀ p ∈ dp, p.1 ≠ TO
  di1 : ∀ p ∈ dp, p.1 ≠ i1
  di2 : ∀ p ∈ dp, p.1 ≠ i2
theorem zipItem {z TI TO i1 i2 : Addr} {dp1 dp2 : List (Addr × Obj)} {o1 o2 : Obj} {P1 P2 : Obj → Prop} {x y : Nat → Value} {d1 d2 : Nat} {a b : Value} {Q : Value → Shared → Prop} (D1 : ZA z TI TO i1 i2 dp1) (D2 : ZA z TI TO i1 i2 dp2)
    (hz : IsZip s.heap z TI TO .none) (hTI : IsPair s.heap TI (.ref i1) (.ref i2)) (hTO : IsPair s.heap TO a b)
    (h1 : s.heap.get? i1 = some o1) (h2 : s.heap.get? i2 = some o2) (e1 : Deps s.heap dp1) (e2 : Deps s.heap dp2) (w1 : DrawI prog w i1 o1 P1 dp1 x d1) (w2 : DrawI prog w i2 o2 P2 dp2 y d2)
    (hQ : ∀ h' o1' o2', IsZip h' z TI TO (rawInt s.heap.objs.size) → IsPair h' TO (x s.toks) (y (s.toks + d1)) → h'.get? i1 = some o1' → P1 o1' → h'.get? i2 = some o2' → P2 o2' → IsPair h' s.heap.objs.size (x s.toks) (y (s.toks + d1)) → h'.objs.size = s.heap.objs.size + 1 →
      (∀ c o, c ≠ z → c ≠ TO → c ≠ i1 → c ≠ i2 → s.heap.get? c = some o → h'.get? c = some o) → Q (.ref s.heap.objs.size) { s with heap := h', toks := s.toks + d1 + d2 }) :
    wpAny (model prog w) A (Builtin.«zip.__next__» ⟨[.ref z], []⟩) (fun fin s' => ∃ v, fin = .done (.ret v) ∧ Q v s') E s := by
  show wpAny _ _ (field (.ref z) 2 >>= _) _ _ _
  refine wpAny_bind (wpAny_field hz rfl (x := .bool false) rfl ?_)
  show wpAny _ _ (field (.ref z) 3 >>= _) _ _ _
  refine wpAny_bind (wpAny_field hz rfl (x := .ref TI) rfl ?_)
  refine wpAny_bind (wpAny_seqItems hTI rfl ?_)
  show wpAny _ _ (Builtin.SmallTypes.ownedTupleIsFree (.ref z) >>= _) _ _ _
  refine wpAny_bind ?_
  unfold Builtin.SmallTypes.ownedTupleIsFree
  refine wpAny_bind (wpAny_field hz rfl (x := .none) rfl (wpAny_pure ?_))
  simp only [if_true]
  refine wpAny_bind (wpAny_rule ?_)
  refine wpAny_bind (wpAny_field hz rfl (x := .ref TO) rfl ?_)
  refine wpAny_bind (wpAny_setField_rec hz (by simp) fun h₁ hz₁ hs₁ => ?_)
  replace hz₁ : IsZip h₁ z TI TO .ellipsis := hz₁
  refine wpAny_bind ?_
  simp only [List.zipIdx_cons, List.zipIdx_nil, List.forIn_cons, List.forIn_nil]
  refine wpAny_bind (wpAny_bind (wpAny_onRaise ?_))
  show wpAny _ _ (Builtin.SmallTypes.nextOf (.ref i1) >>= _) _ _ _
  refine wpAny_bind (w1 _ _ _ _ (hs₁.extBut _ _ D1.i1z h1) (e1.but hs₁.extBut D1.dz) fun h₂ o1' h1₂ p1 hs₂ => wpAny_pure ?_)
  have hTO₂ : IsPair h₂ TO a b := hs₂.extBut _ _ D1.TOi1 (hs₁.extBut _ _ D1.TOz hTO)
  refine wpAny_bind (wpAny_seqItems hTO₂ rfl ?_)
  refine wpAny_bind (wpAny_updateSeq_pair hTO₂ fun h₃ hTO₃ hs₃ => ?_)
  replace hTO₃ : IsPair h₃ TO (x s.toks) b := hTO₃
  refine wpAny_bind (wpAny_letGo (wpAny_pure ?_))
  refine wpAny_bind (wpAny_bind (wpAny_onRaise ?_))
  show wpAny _ _ (Builtin.SmallTypes.nextOf (.ref i2) >>= _) _ _ _
  refine wpAny_bind (w2 _ _ _ _ (hs₃.extBut _ _ D1.TOi2.symm (hs₂.extBut _ _ D1.i12.symm (hs₁.extBut _ _ D1.i2z h2))) (((e2.but hs₁.extBut D2.dz).but hs₂.extBut D2.di1).but hs₃.extBut D2.dTO) fun h₄ o2' h2₄ p2 hs₄ => wpAny_pure ?_)
  have hTO₄ : IsPair h₄ TO (x s.toks) b := hs₄.extBut _ _ D1.TOi2 hTO₃
  refine wpAny_bind (wpAny_seqItems hTO₄ rfl ?_)
  refine wpAny_bind (wpAny_updateSeq_pair hTO₄ fun h₅ hTO₅ hs₅ => ?_)
  replace hTO₅ : IsPair h₅ TO (x s.toks) (y (s.toks + d1)) := hTO₅
  refine wpAny_bind (wpAny_letGo (wpAny_pure (wpAny_pure ?_)))
  refine wpAny_bind (wpAny_seqItems hTO₅ rfl ?_)
  refine wpAny_bind (wpAny_newTuple ?_)
  have hsz : h₅.objs.size = s.heap.objs.size := by rw [hs₅.1, hs₄.1, hs₃.1, hs₂.1, hs₁.1]
  have hz₅ : IsZip h₅ z TI TO .ellipsis := hs₅.extBut _ _ D1.TOz.symm (hs₄.extBut _ _ D1.i2z.symm (hs₃.extBut _ _ D1.TOz.symm (hs₂.extBut _ _ D1.i1z.symm hz₁)))
  have hk₅ : ∀ c o, c ≠ z → c ≠ TO → c ≠ i1 → c ≠ i2 → s.heap.get? c = some o → h₅.get? c = some o := fun c o c1 c2 c3 c4 e =>
    hs₅.extBut _ _ c2 (hs₄.extBut _ _ c4 (hs₃.extBut _ _ c2 (hs₂.extBut _ _ c3 (hs₁.extBut _ _ c1 e))))
  have h1₅ : h₅.get? i1 = some o1' := hs₅.extBut _ _ D1.TOi1.symm (hs₄.extBut _ _ D1.i12 (hs₃.extBut _ _ D1.TOi1.symm h1₂))
  have h2₅ : h₅.get? i2 = some o2' := hs₅.extBut _ _ D1.TOi2.symm h2₄
  have hzlt : z < h₅.objs.size := Heap.lt_size hz₅
  show wpAny _ _ (Builtin.SmallTypes.ownedTupleHandOut (.ref z) (.ref h₅.objs.size) >>= _) _ _ _
  refine wpAny_bind ?_
  unfold Builtin.SmallTypes.ownedTupleHandOut
  have hz₆ : IsZip (h₅.push { cls := .type "tuple", data := .seq #[x s.toks, y (s.toks + d1)] }) z TI TO .ellipsis := Heap.get?_push_of_some _ hz₅
  refine wpAny_bind (wpAny_setField_rec hz₆ (by simp) fun h₇ hz₇ hs₇ => ?_)
  replace hz₇ : IsZip h₇ z TI TO (rawInt h₅.objs.size) := hz₇
  refine wpAny_setField_rec hz₇ (by simp) fun h₈ hz₈ hs₈ => ?_
  replace hz₈ : IsZip h₈ z TI TO (rawInt h₅.objs.size) := hz₈
  have up : ∀ c o, c ≠ z → h₅.get? c = some o → h₈.get? c = some o := fun c o c1 e => hs₈.extBut _ _ c1 (hs₇.extBut _ _ c1 (Heap.get?_push_of_some _ e))
  have hT₈ : IsPair h₈ h₅.objs.size (x s.toks) (y (s.toks + d1)) := hs₈.extBut _ _ (Nat.ne_of_gt hzlt) (hs₇.extBut _ _ (Nat.ne_of_gt hzlt) (Heap.get?_push_size _ rfl))
  have hz8 : h₈.objs.size = h₅.objs.size + 1 := by rw [hs₈.1, hs₇.1, Heap.size_push]
  rw [hsz] at hz₈ hT₈ hz8
  refine wpAny_pure ⟨_, rfl, ?_⟩
  show Q (.ref h₅.objs.size) _
  rw [hsz]
  exact hQ h₈ o1' o2' hz₈ (up _ _ D1.TOz hTO₅) (up _ _ D1.i1z h1₅) p1 (up _ _ D1.i2z h2₅) p2 hT₈ hz8 fun c o c1 c2 c3 c4 e => up c o c1 (hk₅ c o c1 c2 c3 c4 e)
theorem zipEnd1 {z TI TO i1 i2 : Addr} {dp1 : List (Addr × Obj)} {o1 : Obj} {a b : Value} {Q : PySem.Fin → Shared → Prop} (hh : A.handled = none) (D1 : ZA z TI TO i1 i2 dp1)
    (hz : IsZip s.heap z TI TO .none) (hTI : IsPair s.heap TI (.ref i1) (.ref i2)) (hTO : IsPair s.heap TO a b)
    (h1 : s.heap.get? i1 = some o1) (e1 : Deps s.heap dp1) (w1 : DrawE prog w i1 o1 dp1)
    (hE : ∀ h' e, (∀ c o, c ≠ z → c ≠ i1 → s.heap.get? c = some o → h'.get? c = some o) → (∃ o, h'.get? e = some o ∧ o.cls = .type "StopIteration") → E (.ref e) { s with heap := h' }) :
    wpAny (model prog w) A (Builtin.«zip.__next__» ⟨[.ref z], []⟩) Q E s := by
  show wpAny _ _ (field (.ref z) 2 >>= _) _ _ _
  refine wpAny_bind (wpAny_field hz rfl (x := .bool false) rfl ?_)
  show wpAny _ _ (field (.ref z) 3 >>= _) _ _ _
  refine wpAny_bind (wpAny_field hz rfl (x := .ref TI) rfl ?_)
  refine wpAny_bind (wpAny_seqItems hTI rfl ?_)
  show wpAny _ _ (Builtin.SmallTypes.ownedTupleIsFree (.ref z) >>= _) _ _ _
  refine wpAny_bind ?_
  unfold Builtin.SmallTypes.ownedTupleIsFree
  refine wpAny_bind (wpAny_field hz rfl (x := .none) rfl (wpAny_pure ?_))
  simp only [if_true]
  refine wpAny_bind (wpAny_rule ?_)
  refine wpAny_bind (wpAny_field hz rfl (x := .ref TO) rfl ?_)
  refine wpAny_bind (wpAny_setField_rec hz (by simp) fun h₁ hz₁ hs₁ => ?_)
  replace hz₁ : IsZip h₁ z TI TO .ellipsis := hz₁
  refine wpAny_bind ?_
  simp only [List.zipIdx_cons, List.zipIdx_nil, List.forIn_cons, List.forIn_nil]
  refine wpAny_bind (wpAny_bind (wpAny_onRaise ?_))
  show wpAny _ _ (Builtin.SmallTypes.nextOf (.ref i1) >>= _) _ _ _
  refine wpAny_bind (w1 _ _ _ _ hh (hs₁.extBut _ _ D1.i1z h1) (e1.but hs₁.extBut D1.dz) fun h₂ e hs₂ he => ?_)
  obtain ⟨oe, hoe, hce⟩ := he
  have hz₂ : IsZip h₂ z TI TO .ellipsis := hs₂ _ _ D1.i1z.symm hz₁
  have hez : e ≠ z := fun x => by subst x; rw [hz₂] at hoe; cases hoe; simp at hce
  refine wpAny_setField_rec hz₂ (by simp) fun h₃ _ hs₃ => hE h₃ e (fun c o c1 c3 x => hs₃.extBut _ _ c1 (hs₂ _ _ c3 (hs₁.extBut _ _ c1 x))) ⟨oe, hs₃.extBut _ _ hez hoe, hce⟩
end

section
variable {prog : Program} {w : World}
theorem drawI_list {i l : Addr} {k e : Nat} {vs : List Value} {o : Obj} (ho : LI o l k) (hk : k < vs.length) : DrawI prog w i o (fun o' => LI o' l (k + 1)) [(l, listOf vs.toArray e)] (fun _ => vs.getD k .none) 0 := fun A s Q E h1 hd hQ => by
  have hit : s.heap.IsListIter i l k := ⟨o, h1, ho.1, ho.2⟩
  have hl : s.heap.IsList l vs.toArray := ⟨_, hd _ (.head _), rfl, _, rfl⟩
  refine wpAny_nextOf_list_item hit hl (x := vs.getD k .none) (by rw [List.getElem?_toArray]; exact getD_get hk) fun h' hit' hs => ?_
  obtain ⟨o', ho', hc, hd'⟩ := hit'
  exact hQ h' o' ho' ⟨hc, hd'⟩ hs
theorem drawE_list {i l : Addr} {k e : Nat} {vs : List Value} {o : Obj} (ho : LI o l k) (hk : vs.length ≤ k) : DrawE prog w i o [(l, listOf vs.toArray e)] := fun A s Q E hh h1 hd hE => by
  have hit : s.heap.IsListIter i l k := ⟨o, h1, ho.1, ho.2⟩
  have hl : s.heap.IsList l vs.toArray := ⟨_, hd _ (.head _), rfl, _, rfl⟩
  exact wpAny_nextOf_list_end hh hit hl (by simp; omega) hE
theorem drawI_range {i : Addr} {x left step : Int} (hl : 0 < left) : DrawI prog w i (riO x left step) (fun o' => o' = riO (x + step) (left - 1) step) [] (fun t => .int x t) 1 := fun A s Q E h1 hd hQ => by
  have hit : IsRangeIter s.heap i x left step := h1
  have hT : s.TypeIs (.ref i) "range_iterator" := ⟨_, hit, rfl⟩
  unfold Builtin.SmallTypes.nextOf
  refine wpAny_bind (wpAny_callSpecial?_slot (name := Str.ofString "__next__") hT PySem.F.slot_range_iterator_next
    (call_meets PySem.F.slot_range_iterator_next hT PySem.F.entry_range_iterator_next (PySem.F.args_range_iterator_next_1 _) (AutoRange.range_iterator___next___range_iterator_1 i x left step (by exact zq444 hl)) ⟨hit, ?_⟩))
  exact wpAny_pure (hQ _ _ (Heap.get?_update_self _ (Heap.get?_update_self _ hit rfl) rfl) rfl ((Heap.SameBut.update ..).trans (Heap.SameBut.update ..)))
theorem drawE_range {i : Addr} {x left step : Int} (hl : left ≤ 0) : DrawE prog w i (riO x left step) [] := fun A s Q E hh h1 hd hE => by
  have hit : IsRangeIter s.heap i x left step := h1
  have hT : s.TypeIs (.ref i) "range_iterator" := ⟨_, hit, rfl⟩
  unfold Builtin.SmallTypes.nextOf
  refine wpAny_bind (wpAny_callSpecial?_slot (name := Str.ofString "__next__") hT PySem.F.slot_range_iterator_next
    (wpAny_call_entry PySem.F.slot_range_iterator_next hT PySem.F.entry_range_iterator_next ?_ (PySem.F.args_range_iterator_next_1 _)))
  show wpAny _ _ (field (.ref i) 0 >>= _) _ _ s
  refine wpAny_bind (wpAny_field hit rfl (x := rawInt x) rfl ?_)
  show wpAny _ _ (field (.ref i) 1 >>= _) _ _ s
  refine wpAny_bind (wpAny_field hit rfl (x := rawInt left) rfl ?_)
  show wpAny _ _ (field (.ref i) 2 >>= _) _ _ s
  refine wpAny_bind (wpAny_field hit rfl (x := rawInt step) rfl ?_)
  show wpAny _ _ (if left ≤ 0 then _ else _) _ _ s
  rw [if_pos hl]
  refine wpAny_bind (wpAny_rule ?_)
  refine wpAny_bind ?_
  show wpAny _ _ (newExc (.type "StopIteration") [] >>= _) _ _ _
  refine wpAny_bind ?_
  simp only [newExc, newTuple]
  refine wpAny_bind (wpAny_newObj_type ?_ (by size_fits))
  refine wpAny_bind (m := firstArgMember _ _) (wpAny_of_eq (a := Value.none) (by first | rfl | (simp only [firstArgMember]; rfl)) ?_)
  refine wpAny_newObj_type ?_ (by size_fits)
  simp only [raiseNew]
  refine wpAny_bind (wpAny_handled ?_)
  first | rw [show A.in1.handled = none from hh] | rw [hh]
  refine wpAny_bind (wpAny_pure (wpAny_throw ?_))
  exact hE _ _ (((Heap.ExtBut.refl i s.heap).push _).push _) ⟨_, Heap.get?_push_size _ rfl, rfl⟩
end
noncomputable abbrev zipO (TI TO : Addr) (f : Value) : Obj := { cls := .type "zip", dict := none, data := .fields #[f, .bool false, .bool false, .ref TI, .ref TO], slots := #[] }
structure Zd (z TI TO i1 i2 : Addr) (news : List (Addr × Obj)) : Prop where
  TIz : TI ≠ z
  TOz : TO ≠ z
  i1z : i1 ≠ z
  i2z : i2 ≠ z
  TITO : TI ≠ TO
  TIi1 : TI ≠ i1
  TIi2 : TI ≠ i2
  TOi1 : TO ≠ i1
  TOi2 : TO ≠ i2
  i12 : i1 ≠ i2
  nz : ∀ p ∈ news, p.1 ≠ z
  nTI : ∀ p ∈ news, p.1 ≠ TI
  nTO : ∀ p ∈ news, p.1 ≠ TO
  n1 : ∀ p ∈ news, p.1 ≠ i1
  n2 : ∀ p ∈ news, p.1 ≠ i2
theorem Zd.za {z TI TO i1 i2 : Addr} {news dp : List (Addr × Obj)} (Z : Zd z TI TO i1 i2 news) (hs : ∀ p ∈ dp, p ∈ news) : ZA z TI TO i1 i2 dp :=
  ⟨Z.TIz, Z.TOz, Z.i1z, Z.i2z, Z.TITO, Z.TIi1, Z.TIi2, Z.TOi1, Z.TOi2, Z.i12, fun p hp => Z.nz p (hs p hp), fun p hp => Z.nTO p (hs p hp), fun p hp => Z.n1 p (hs p hp), fun p hp => Z.n2 p (hs p hp)⟩
theorem Zd.add {z TI TO i1 i2 : Addr} {news : List (Addr × Obj)} (Z : Zd z TI TO i1 i2 news) {q : Addr × Obj} (h1 : q.1 ≠ z) (h2 : q.1 ≠ TI) (h3 : q.1 ≠ TO) (h4 : q.1 ≠ i1) (h5 : q.1 ≠ i2) : Zd z TI TO i1 i2 (q :: news) :=
  ⟨Z.TIz, Z.TOz, Z.i1z, Z.i2z, Z.TITO, Z.TIi1, Z.TIi2, Z.TOi1, Z.TOi2, Z.i12, List.forall_mem_cons.mpr ⟨h1, Z.nz⟩, List.forall_mem_cons.mpr ⟨h2, Z.nTI⟩, List.forall_mem_cons.mpr ⟨h3, Z.nTO⟩, List.forall_mem_cons.mpr ⟨h4, Z.n1⟩, List.forall_mem_cons.mpr ⟨h5, Z.n2⟩⟩
theorem Zd.sub {z TI TO i1 i2 : Addr} {news news' : List (Addr × Obj)} (Z : Zd z TI TO i1 i2 news) (hs : ∀ p ∈ news', p ∈ news) : Zd z TI TO i1 i2 news' :=
  ⟨Z.TIz, Z.TOz, Z.i1z, Z.i2z, Z.TITO, Z.TIi1, Z.TIi2, Z.TOi1, Z.TOi2, Z.i12, fun p hp => Z.nz p (hs p hp), fun p hp => Z.nTI p (hs p hp), fun p hp => Z.nTO p (hs p hp), fun p hp => Z.n1 p (hs p hp), fun p hp => Z.n2 p (hs p hp)⟩
noncomputable abbrev zl (z TI TO i1 i2 : Addr) (f a b : Value) (o1 o2 : Obj) (news : List (Addr × Obj)) : List (Addr × Obj) := (z, zipO TI TO f) :: (TI, tupO [.ref i1, .ref i2]) :: (TO, tupO [a, b]) :: (i1, o1) :: (i2, o2) :: news
section
variable {prog : Program} {w : World} {A : Around} {E : Value → Shared → Prop} {hp : Heap} {gs : Array GenState} {dr : Drawn} {tk₀ : Nat} {oo : OsState} {h₀ : Heap} {L : Addr} {m : Str → Option Value} {news : List (Addr × Obj)} {z TI TO i1 i2 : Addr} {a b : Value} {o1 o2 : Obj} {dp1 dp2 : List (Addr × Obj)}
theorem zipNextN {P1 P2 : Obj → Prop} {x y : Nat → Value} {d1 d2 : Nat} {Q : Option Value → Shared → Prop} (F : Fr h₀ L hp m) (N : News h₀ L hp (zl z TI TO i1 i2 .none a b o1 o2 news)) (Z : Zd z TI TO i1 i2 news) (hd1 : ∀ p ∈ dp1, p ∈ news) (hd2 : ∀ p ∈ dp2, p ∈ news)
    (w1 : DrawI prog w i1 o1 P1 dp1 x d1) (w2 : DrawI prog w i2 o2 P2 dp2 y d2)
    (h : ∀ T h' o1' o2', Fr h₀ L h' m → News h₀ L h' ((T, tupO [x tk₀, y (tk₀ + d1)]) :: zl z TI TO i1 i2 (rawInt T) (x tk₀) (y (tk₀ + d1)) o1' o2' news) → P1 o1' → P2 o2' → Zd z TI TO i1 i2 ((T, tupO [x tk₀, y (tk₀ + d1)]) :: news) → (∀ p ∈ news, p.1 ≠ T) → Q (some (.ref T)) ⟨h', gs, dr, tk₀ + d1 + d2, oo⟩) :
    wpAny (model prog w) A (pyNext (.ref z)) Q E ⟨hp, gs, dr, tk₀, oo⟩ := by
  have gz := (N _ (.head _)).1
  have gTI := (N _ (.tail _ (.head _))).1
  have gTO := (N _ (.tail _ (.tail _ (.head _)))).1
  have g1 := (N _ (.tail _ (.tail _ (.tail _ (.head _))))).1
  have g2 := (N _ (.tail _ (.tail _ (.tail _ (.tail _ (.head _)))))).1
  have sub : ∀ p ∈ news, p ∈ zl z TI TO i1 i2 .none a b o1 o2 news := fun p hp => .tail _ (.tail _ (.tail _ (.tail _ (.tail _ hp))))
  have hT : Shared.TypeIs ⟨hp, gs, dr, tk₀, oo⟩ (.ref z) "zip" := ⟨_, gz, rfl⟩
  unfold pyNext
  refine wpAny_bind (wpAny_attempt (wpAny_callSpecial?_slot (name := Str.ofString "__next__") hT PySem.F.slot_zip_next
    (wpAny_call_entry PySem.F.slot_zip_next hT PySem.F.entry_zip_next
      (zipItem (Z.za hd1) (Z.za hd2) gz gTI gTO g1 g2 (fun p hp => (N p (sub p (hd1 p hp))).1) (fun p hp => (N p (sub p (hd2 p hp))).1) w1 w2 fun h' o1' o2' a1 a2 a3 p1 a4 p2 a5 a6 a7 => wpAny_pure ?_) (PySem.F.args_zip_next_1 _))))
  have lt : ∀ {c o}, hp.get? c = some o → hp.objs.size ≠ c := fun e => Nat.ne_of_gt (Heap.lt_size e)
  have new0 : ∀ c o, h₀.get? c = some o → c ≠ z ∧ c ≠ TO ∧ c ≠ i1 ∧ c ≠ i2 := fun c o e => by
    refine ⟨fun q => ?_, fun q => ?_, fun q => ?_, fun q => ?_⟩
    · have := (N _ (.head _)).2.2; rw [q] at e; rw [e] at this; cases this
    · have := (N _ (.tail _ (.tail _ (.head _)))).2.2; rw [q] at e; rw [e] at this; cases this
    · have := (N _ (.tail _ (.tail _ (.tail _ (.head _))))).2.2; rw [q] at e; rw [e] at this; cases this
    · have := (N _ (.tail _ (.tail _ (.tail _ (.tail _ (.head _)))))).2.2; rw [q] at e; rw [e] at this; cases this
  have hL : L ≠ z ∧ L ≠ TO ∧ L ≠ i1 ∧ L ≠ i2 := ⟨Ne.symm (N _ (.head _)).2.1, Ne.symm (N _ (.tail _ (.tail _ (.head _)))).2.1, Ne.symm (N _ (.tail _ (.tail _ (.tail _ (.head _))))).2.1, Ne.symm (N _ (.tail _ (.tail _ (.tail _ (.tail _ (.head _)))))).2.1⟩
  have F' : Fr h₀ L h' m := ⟨F.ns.at' fun o e => a7 L o hL.1 hL.2.1 hL.2.2.1 hL.2.2.2 e, fun c o e => a7 c o (new0 c o e).1 (new0 c o e).2.1 (new0 c o e).2.2.1 (new0 c o e).2.2.2 (F.keep c o e), F.above⟩
  refine h hp.objs.size h' o1' o2' F' ?_ p1 p2 (Z.add (lt gz) (lt gTI) (lt gTO) (lt g1) (lt g2)) fun p hp => Ne.symm (lt (N p (sub p hp)).1)
  intro p hp'
  rcases List.mem_cons.mp hp' with rfl | hp'
  · refine ⟨a5, fun q => ?_, ?_⟩
    · exact absurd F.ns.lt (by rw [← q]; exact Nat.lt_irrefl _)
    · cases e : h₀.get? hp.objs.size with
      | none => rfl
      | some o => exact absurd (Heap.lt_size (F.keep _ _ e)) (Nat.lt_irrefl _)
  rcases List.mem_cons.mp hp' with rfl | hp'
  · exact ⟨a1, (N _ (.head _)).2⟩
  rcases List.mem_cons.mp hp' with rfl | hp'
  · exact ⟨a7 _ _ Z.TIz Z.TITO Z.TIi1 Z.TIi2 gTI, (N _ (.tail _ (.head _))).2⟩
  rcases List.mem_cons.mp hp' with rfl | hp'
  · exact ⟨a2, (N _ (.tail _ (.tail _ (.head _)))).2⟩
  rcases List.mem_cons.mp hp' with rfl | hp'
  · exact ⟨a3, (N _ (.tail _ (.tail _ (.tail _ (.head _))))).2⟩
  rcases List.mem_cons.mp hp' with rfl | hp'
  · exact ⟨a4, (N _ (.tail _ (.tail _ (.tail _ (.tail _ (.head _)))))).2⟩
  · have := N p (sub p hp')
    exact ⟨a7 _ _ (Z.nz p hp') (Z.nTO p hp') (Z.n1 p hp') (Z.n2 p hp') this.1, this.2⟩
theorem zipGoN {T : Addr} {elts : List Expr} {x1} {pos : Pos} {rest : List (Addr × Obj)} {Q : Unit → Shared → Prop} (F : Fr h₀ L hp m) (N : News h₀ L hp ((z, zipO TI TO (rawInt T)) :: rest)) (hne : ∀ p ∈ rest, p.1 ≠ z)
    (h : ∀ h', Fr h₀ L h' m → News h₀ L h' ((z, zipO TI TO .none) :: rest) → Q () ⟨h', gs, dr, tk₀, oo⟩) : wpAny (model prog w) A (letOwnedTupleGo (.Tuple elts x1 pos) (.ref z) (.ref T)) Q E ⟨hp, gs, dr, tk₀, oo⟩ :=
  wpAny_letOwnedTupleGo_zip (N _ (.head _)).1 fun h' hz hs => h h' (fset F N hs) (nset N hne hs hz)
theorem zipEndN {Q : Option Value → Shared → Prop} (hh : A.handled = none) (F : Fr h₀ L hp m) (N : News h₀ L hp (zl z TI TO i1 i2 .none a b o1 o2 news)) (Z : Zd z TI TO i1 i2 news) (hd1 : ∀ p ∈ dp1, p ∈ news)
    (w1 : DrawE prog w i1 o1 dp1) (h : ∀ h', Fr h₀ L h' m → News h₀ L h' ((i2, o2) :: news) → Q none ⟨h', gs, dr, tk₀, oo⟩) :
    wpAny (model prog w) A (pyNext (.ref z)) Q E ⟨hp, gs, dr, tk₀, oo⟩ := by
  have gz := (N _ (.head _)).1
  have gTI := (N _ (.tail _ (.head _))).1
  have gTO := (N _ (.tail _ (.tail _ (.head _)))).1
  have g1 := (N _ (.tail _ (.tail _ (.tail _ (.head _))))).1
  have sub : ∀ p ∈ news, p ∈ zl z TI TO i1 i2 .none a b o1 o2 news := fun p hp => .tail _ (.tail _ (.tail _ (.tail _ (.tail _ hp))))
  have hT : Shared.TypeIs ⟨hp, gs, dr, tk₀, oo⟩ (.ref z) "zip" := ⟨_, gz, rfl⟩
  unfold pyNext
  refine wpAny_bind (wpAny_attempt (wpAny_callSpecial?_slot (name := Str.ofString "__next__") hT PySem.F.slot_zip_next
    (wpAny_call_entry PySem.F.slot_zip_next hT PySem.F.entry_zip_next
      (zipEnd1 hh (Z.za hd1) gz gTI gTO g1 (fun p hp => (N p (sub p (hd1 p hp))).1) w1 fun h' e hk he => ?_) (PySem.F.args_zip_next_1 _))))
  obtain ⟨o, ho, hc⟩ := he
  refine wpAny_bind (wpAny_isInstance (T := "StopIteration") (b := true) ⟨o, ho, hc⟩ isSubtype_stop ?_)
  refine wpAny_pure (h h' ⟨F.ns.at' fun o e => hk L o (Ne.symm (N _ (.head _)).2.1) (Ne.symm (N _ (.tail _ (.tail _ (.tail _ (.head _))))).2.1) e, fun c o e => hk c o (fun q => ?_) (fun q => ?_) (F.keep c o e), F.above⟩ fun p hp => ?_)
  · have := (N _ (.head _)).2.2; rw [q] at e; rw [e] at this; cases this
  · have := (N _ (.tail _ (.tail _ (.tail _ (.head _))))).2.2; rw [q] at e; rw [e] at this; cases this
  · rcases List.mem_cons.mp hp with rfl | hp
    · have := N _ (.tail _ (.tail _ (.tail _ (.tail _ (.head _)))))
      exact ⟨hk _ _ Z.i2z (Ne.symm Z.i12) this.1, this.2⟩
    · have := N p (sub p hp)
      exact ⟨hk _ _ (Z.nz p hp) (Z.n1 p hp) this.1, this.2⟩
theorem zipSelf {f : Value} {Q : Value → Shared → Prop} {s : Shared} (N : News h₀ L s.heap ((z, zipO TI TO f) :: news)) (h : Q (.ref z) s) : wpAny (model prog w) A (pyIter (.ref z)) Q E s := wpAny_pyIter_zip (N _ (.head _)).1 h
theorem zipLists {l1 l2 : Addr} {e1 e2 : Nat} {vs1 vs2 : List Value} {Q : Value → Shared → Prop} (F : Fr h₀ L hp m) (N : News h₀ L hp news) (h1 : (l1, listOf vs1.toArray e1) ∈ news) (h2 : (l2, listOf vs2.toArray e2) ∈ news)
    (h : ∀ z TI TO i1 i2 o1 o2 h', Fr h₀ L h' m → News h₀ L h' (zl z TI TO i1 i2 .none .none .none o1 o2 news) → Zd z TI TO i1 i2 news → LI o1 l1 0 → LI o2 l2 0 → Q (.ref z) ⟨h', gs, dr, tk₀, oo⟩) :
    wpAny (model prog w) A (call (.type "zip") [.ref l1, .ref l2]) Q E ⟨hp, gs, dr, tk₀, oo⟩ := by
  refine call_zip_2 (s := ⟨hp, gs, dr, tk₀, oo⟩) (N.isList h1) (N.isList h2) fun h' a1 a2 a3 a4 a5 a6 a7 => ?_
  obtain ⟨o1, g1, c1, d1⟩ := a4
  obtain ⟨o2, g2, c2, d2⟩ := a5
  have lt : ∀ {c o}, hp.get? c = some o → c < hp.objs.size := fun e => Heap.lt_size e
  have fresh : ∀ c, hp.objs.size ≤ c → c ≠ L ∧ h₀.get? c = none := fun c hc => by
    refine ⟨fun q => ?_, ?_⟩
    · have := F.ns.lt; rw [q] at hc; exact absurd this (Nat.not_lt.mpr hc)
    · cases e : h₀.get? c with
      | none => rfl
      | some o => exact absurd (Heap.lt_size (F.keep _ _ e)) (Nat.not_lt.mpr hc)
  have nb : ∀ k, ∀ p ∈ news, p.1 ≠ hp.objs.size + k := fun k p hp' q => by
    have := lt (N p hp').1; rw [q] at this; exact absurd this (by show ¬ hp.objs.size + k < hp.objs.size; exact zq446)
  have dn : ∀ j k : Nat, j ≠ k → hp.objs.size + j ≠ hp.objs.size + k := fun j k hjk q => hjk (by exact zq447 q)
  refine h (hp.objs.size + 4) (hp.objs.size + 2) (hp.objs.size + 3) hp.objs.size (hp.objs.size + 1) o1 o2 h' (F.kept a7) ?_ ⟨dn 2 4 (by decide), dn 3 4 (by decide), dn 0 4 (by decide), dn 1 4 (by decide), dn 2 3 (by decide), dn 2 0 (by decide), dn 2 1 (by decide), dn 3 0 (by decide), dn 3 1 (by decide), dn 0 1 (by decide), nb 4, nb 2, nb 3, nb 0, nb 1⟩ ⟨c1, d1⟩ ⟨c2, d2⟩
  intro p hp'
  rcases List.mem_cons.mp hp' with rfl | hp'
  · exact ⟨a1, fresh _ (Nat.le_add_right _ _)⟩
  rcases List.mem_cons.mp hp' with rfl | hp'
  · exact ⟨a2, fresh _ (Nat.le_add_right _ _)⟩
  rcases List.mem_cons.mp hp' with rfl | hp'
  · exact ⟨a3, fresh _ (Nat.le_add_right _ _)⟩
  rcases List.mem_cons.mp hp' with rfl | hp'
  · exact ⟨g1, fresh _ (Nat.le_refl _)⟩
  rcases List.mem_cons.mp hp' with rfl | hp'
  · exact ⟨g2, fresh _ (Nat.le_add_right _ _)⟩
  · exact ⟨a7 _ _ (N p hp').1, (N p hp').2⟩
end
noncomputable abbrev zrH1 (h : Heap) (x left step : Int) : Heap := h.push (riO x left step)
noncomputable abbrev zrH2 (h : Heap) (x left step : Int) (it : Addr) : Heap := (zrH1 h x left step).push (tupO [.ref h.objs.size, .ref it])
noncomputable abbrev zrH3 (h : Heap) (x left step : Int) (it : Addr) : Heap := (zrH2 h x left step it).push (tupO [.none, .none])
noncomputable abbrev zrH4 (h : Heap) (x left step : Int) (it : Addr) : Heap := (zrH3 h x left step it).push (zipO (zrH1 h x left step).objs.size (zrH2 h x left step it).objs.size .none)
theorem meets_zip_rl (r it l : Addr) (k : Nat) (a b c : Int) (t u v : Tok) :
    Meets (Builtin.«zip.__new__» ⟨[.type "zip", .ref r, .ref it], []⟩) (fun _ R s => IsRange s.heap r a b c t u v ∧ Builtin.Range.small a b c = true ∧ s.heap.IsListIter it l k ∧
      R (.ok (.ret (.ref (zrH3 s.heap a (Builtin.Range.rangeSize a b c) c it).objs.size))) { s with heap := zrH4 s.heap a (Builtin.Range.rangeSize a b c) c it }) :=
  .of_wp fun prog w A R s h => by
    obtain ⟨hp, g, d, tk, os⟩ := s; obtain ⟨hr, hsm, hi, h⟩ := h
    have hsub := sub_zip
    have hL1 : IsRange (Shared.heap ⟨hp, g, d, tk, os⟩) r a b c t u v := hr
    have hL2 : Heap.IsListIter (Shared.heap ⟨hp.push { cls := .type "range_iterator", data := .fields #[rawInt a, rawInt (Builtin.Range.rangeSize a b c), rawInt c] }, g, d, tk, os⟩) it l k := by
      obtain ⟨o, e, x⟩ := hi
      exact ⟨o, Heap.get?_push_of_some _ e, x⟩
    wp_walk using wpAny_pyIter_range hL1 hsm, wpAny_pyIter_listiter hL2
    exact ⟨_, rfl, h⟩
section
variable {prog : Program} {w : World} {A : Around} {E : Value → Shared → Prop} {hp : Heap} {gs : Array GenState} {dr : Drawn} {tk₀ : Nat} {oo : OsState} {h₀ : Heap} {L : Addr} {m : Str → Option Value} {news : List (Addr × Obj)}
theorem zipRL {D it l : Addr} {n k : Nat} {t u v : Tok} {oi : Obj} {Q : Value → Shared → Prop} (hn : n < 1000) (F : Fr h₀ L hp m) (N : News h₀ L hp ((it, oi) :: news)) (hm : (D, ({ cls := .type "range", data := .fields #[.int 0 u, .int (n : Int) t, .int 1 v] } : Obj)) ∈ news) (hI : LI oi l k) (hni : ∀ p ∈ news, p.1 ≠ it)
    (h : ∀ z TI TO i1 h', Fr h₀ L h' m → News h₀ L h' (zl z TI TO i1 it .none .none .none (riO 0 n 1) oi news) → Zd z TI TO i1 it news → Q (.ref z) ⟨h', gs, dr, tk₀, oo⟩) :
    wpAny (model prog w) A (call (.type "zip") [.ref D, .ref it]) Q E ⟨hp, gs, dr, tk₀, oo⟩ := by
  have hr : IsRange hp D 0 n 1 u t v := (N _ (.tail _ hm)).1
  have hit : hp.IsListIter it l k := ⟨oi, (N _ (.head _)).1, hI.1, hI.2⟩
  have er : Builtin.Range.rangeSize 0 (n : Int) 1 = n := by rw [rangeSize_one]; split <;> (first | exact zq14 | exact zq15 hn (by assumption))
  refine callType_new PySem.F.called_zip (by decide) (PySem.F.typeCall_zip_2 _ _) (PySem.F.newCall_zip_2 _ _) (fun obj => PySem.F.args_object_init_3 obj _ _) PySem.F.entry_zip_new
    (meets_zip_rl D it l k 0 n 1 u t v) ⟨hr, small_one (by decide) (by decide) (by exact zq448 hn er) (by exact zq449 hn er), hit, ?_⟩
  rw [er]
  have z1 : (zrH1 hp 0 n 1).objs.size = hp.objs.size + 1 := Heap.size_push ..
  have z2 : (zrH2 hp 0 n 1 it).objs.size = hp.objs.size + 2 := by rw [Heap.size_push, z1]
  have z3 : (zrH3 hp 0 n 1 it).objs.size = hp.objs.size + 3 := by rw [Heap.size_push, z2]
  have g4 : (zrH4 hp 0 n 1 it).get? (zrH3 hp 0 n 1 it).objs.size = some _ := Heap.get?_push_size _ rfl
  have g3 : (zrH4 hp 0 n 1 it).get? (zrH2 hp 0 n 1 it).objs.size = some _ := Heap.get?_push_of_some _ (Heap.get?_push_size _ rfl)
  have g2 : (zrH4 hp 0 n 1 it).get? (zrH1 hp 0 n 1).objs.size = some _ := Heap.get?_push_of_some _ (Heap.get?_push_of_some _ (Heap.get?_push_size _ rfl))
  have g1 : (zrH4 hp 0 n 1 it).get? hp.objs.size = some _ := Heap.get?_push_of_some _ (Heap.get?_push_of_some _ (Heap.get?_push_of_some _ (Heap.get?_push_size _ rfl)))
  have up : ∀ c o, hp.get? c = some o → (zrH4 hp 0 n 1 it).get? c = some o := fun c o e => Heap.get?_push_of_some _ (Heap.get?_push_of_some _ (Heap.get?_push_of_some _ (Heap.get?_push_of_some _ e)))
  show _ ∧ _
  rw [z1, z2, z3] at g4
  rw [z2] at g3
  rw [z1] at g2
  show (∃ o, (zrH4 hp 0 n 1 it).get? (zrH3 hp 0 n 1 it).objs.size = some o ∧ _) ∧ Q (.ref (zrH3 hp 0 n 1 it).objs.size) _
  rw [z3]
  have lt : ∀ {c o}, hp.get? c = some o → c < hp.objs.size := fun e => Heap.lt_size e
  have fresh : ∀ c, hp.objs.size ≤ c → c ≠ L ∧ h₀.get? c = none := fun c hc => by
    refine ⟨fun q => ?_, ?_⟩
    · have := F.ns.lt; rw [q] at hc; exact absurd this (Nat.not_lt.mpr hc)
    · cases e : h₀.get? c with
      | none => rfl
      | some o => exact absurd (Heap.lt_size (F.keep _ _ e)) (Nat.not_lt.mpr hc)
  have nb : ∀ k, ∀ p ∈ (it, oi) :: news, p.1 ≠ hp.objs.size + k := fun k p hp' q => by
    have := lt (N p hp').1; rw [q] at this; exact absurd this (by show ¬ hp.objs.size + k < hp.objs.size; exact zq446)
  have dn : ∀ j k : Nat, j ≠ k → hp.objs.size + j ≠ hp.objs.size + k := fun j k hjk q => hjk (by exact zq447 q)
  refine ⟨⟨_, g4, rfl⟩, h (hp.objs.size + 3) (hp.objs.size + 1) (hp.objs.size + 2) hp.objs.size _ (F.kept up) ?_
    ⟨dn 1 3 (by decide), dn 2 3 (by decide), dn 0 3 (by decide), nb 3 _ (.head _), dn 1 2 (by decide), dn 1 0 (by decide), Ne.symm (nb 1 _ (.head _)), dn 2 0 (by decide), Ne.symm (nb 2 _ (.head _)), Ne.symm (nb 0 _ (.head _)), fun p hp => nb 3 p (.tail _ hp), fun p hp => nb 1 p (.tail _ hp), fun p hp => nb 2 p (.tail _ hp), fun p hp => nb 0 p (.tail _ hp), hni⟩⟩
  intro p hp'
  rcases List.mem_cons.mp hp' with rfl | hp'
  · exact ⟨g4, fresh _ (Nat.le_add_right _ _)⟩
  rcases List.mem_cons.mp hp' with rfl | hp'
  · exact ⟨g2, fresh _ (Nat.le_add_right _ _)⟩
  rcases List.mem_cons.mp hp' with rfl | hp'
  · exact ⟨g3, fresh _ (Nat.le_add_right _ _)⟩
  rcases List.mem_cons.mp hp' with rfl | hp'
  · exact ⟨g1, fresh _ (Nat.le_refl _)⟩
  · exact ⟨up _ _ (N p hp').1, (N p hp').2⟩
end

open PyProof.Rows.LCg (NsObj ns_obj)
section
variable {prog : Program} {w : World} {A : Around} {E : Value → Shared → Prop} {s : Shared} {hp : Heap} {gs : Array GenState} {dr : Drawn} {tk₀ : Nat} {oo : OsState} {h₀ : Heap} {L C D : Addr} {m mc : Str → Option Value} {news : List (Addr × Obj)} {env : Env} {elt target iter : Expr} {scope : Scope} {cl : List (Str × Addr)} {pos : Pos} {oC : Obj}
noncomputable def CompB (prog : Program) (w : World) (A : Around) (env : Env) (elt target iter : Expr) (scope : Scope) (cl : List (Str × Addr)) (pos : Pos) (use : Option (Value → Sem Unit)) (E Q : Value → Shared → Prop) (it : Value) (s₂ : Shared) : Prop :=
  wpAny (model prog w) A (newList []) (fun acc s₃ => wpAny (model prog w) A (newFunctionEnv scope env.globals cl [] env.qual none .none (some env)) (fun cenv s₄ =>
    codeAny (model prog w) A (.compStart (.ListComp elt [⟨target, iter, [], 0⟩] scope pos) 0 it acc { cenv with scope := relabel scope env }) (compPost (model prog w) A E use Q acc cenv.locals) s₄) E s₃) E s₂
theorem compE {Q : Value → Shared → Prop} (hclos : closureFor scope env = pure cl) (hkind : scope.kind = .function) (hnames : ∀ y ∈ scope.names, y.2 = .local → scope.names.lookup y.1 = some .local)
    (hs : ∀ x, foldedSetIterable iter env x = pure x)
    (h : wpAny (model prog w) A (eval iter env) (fun x s₁ => wpAny (model prog w) A (pyIter x) (fun it s₂ => CompB prog w A env elt target iter scope cl pos none E Q it s₂) E s₁) E s) :
    wpAny (model prog w) A (eval (.ListComp elt [⟨target, iter, [], 0⟩] scope pos) env) Q E s := by
  rw [eval_ListComp]
  exact wpAny_comprehension_free (use := none) rfl hs hclos hkind hnames h
theorem compA {y : Str} {py spos : Pos} {rest : List Stmt} {Q : Flow → Shared → Prop} (hsw : swapsWith (.ListComp elt [⟨target, iter, [], 0⟩] scope pos) (some (.Name y py)) spos.line env = pure true)
    (hclos : closureFor scope env = pure cl) (hkind : scope.kind = .function) (hnames : ∀ y ∈ scope.names, y.2 = .local → scope.names.lookup y.1 = some .local)
    (hs : ∀ x, foldedSetIterable iter env x = pure x)
    (h : wpAny (model prog w) A (eval iter env) (fun x s₁ => wpAny (model prog w) A (pyIter x) (fun it s₂ => CompB prog w A env elt target iter scope cl pos (some (assign (.Name y py) env)) E (fun _ s' => wpAny (model prog w) A (execs rest env) Q E s') it s₂) E s₁) E s) :
    wpAny (model prog w) A (execs (.Assign [.Name y py] (.ListComp elt [⟨target, iter, [], 0⟩] scope pos) spos :: rest) env) Q E s := by
  refine sq ?_
  rw [exec_Assign_Name_used _ _ _ _ hsw]
  refine wpAny_bind (wpAny_standAt (wpAny_bind ?_))
  show wpAny _ A (do let _ ← comprehension (.ListComp elt [⟨target, iter, [], 0⟩] scope pos) scope env _ (newList []) false (eval iter env) (some (assign (.Name y py) env))) _ _ s
  exact wpAny_bind (wpAny_mono (wpAny_comprehension_free (use := some (assign (.Name y py) env)) (Q := fun _ s' => wpAny (model prog w) A (execs rest env) Q E s') rfl hs hclos hkind hnames h)
    (fun _ s' hq => wpAny_pure (wpAny_pure hq)) fun _ _ e => e)
theorem compB {use : Option (Value → Sem Unit)} {Q : Value → Shared → Prop} {it : Value} (F : Fr h₀ L hp m) (N : News h₀ L hp news) (hcell : ∀ y ∈ scope.names, y.2 ≠ .cell) (hkind : scope.kind = .function)
    (self : ∀ s' : Shared, (∀ c o, hp.get? c = some o → s'.heap.get? c = some o) → ∀ (Q E : Value → Shared → Prop), Q it s' → wpAny (model prog w) A (pyIter it) Q E s')
    (loop : ∀ C D oC h₁, Fr h₀ L h₁ m → News h₀ L h₁ ((C, oC) :: (D, listOf ([] : List Value).toArray 0) :: news) → NsObj oC (fun _ => none) → C ≠ D → (∀ p ∈ news, p.1 ≠ C) → (∀ p ∈ news, p.1 ≠ D) →
      codeAny (model prog w) A (.compLoop (.ListComp elt [⟨target, iter, [], 0⟩] scope pos) 0 it (.ref D) (compEnvC scope cl C env)) (compPost (model prog w) A E use Q (.ref D) C) ⟨h₁, gs, dr, tk₀, oo⟩) :
    CompB prog w A env elt target iter scope cl pos use E Q it ⟨hp, gs, dr, tk₀, oo⟩ := by
  refine wpAny_newObj_type (wpAny_newFunctionEnv hcell (by intro y hy; simp at hy) (fun h₁ hns₁ hsb₁ => ?_) hkind)
  dsimp only at hns₁ hsb₁ ⊢
  have hH2 : hp.push { cls := .type "list", dict := none, data := .seq ([] : List Value).toArray } = hp.push (listOf ([] : List Value).toArray 0) := rfl
  rw [hH2] at hns₁ hsb₁ ⊢
  have z1 : (hp.push (listOf ([] : List Value).toArray 0)).objs.size = hp.objs.size + 1 := Heap.size_push ..
  have hlt : ∀ {c o}, hp.get? c = some o → c < hp.objs.size := fun e => Heap.lt_size e
  have old : ∀ b o, hp.get? b = some o → h₁.get? b = some o := fun b o e => hsb₁.extBut b o (by have := hlt e; rw [z1]; intro q; rw [q] at this; exact absurd this (by show ¬ hp.objs.size + 1 < hp.objs.size; exact zq450)) (Heap.get?_push_of_some _ (Heap.get?_push_of_some _ e))
  have hacc : h₁.get? hp.objs.size = some (listOf ([] : List Value).toArray 0) := hsb₁.extBut _ _ (by rw [z1]; exact Nat.ne_of_lt (Nat.lt_succ_self _)) (Heap.get?_push_of_some _ (Heap.get?_push_size _ rfl))
  have fresh : ∀ c, hp.objs.size ≤ c → c ≠ L ∧ h₀.get? c = none := fun c hc => by
    refine ⟨fun q => ?_, ?_⟩
    · have := F.ns.lt; rw [q] at hc; exact absurd this (Nat.not_lt.mpr hc)
    · cases e : h₀.get? c with
      | none => rfl
      | some o => exact absurd (Heap.lt_size (F.keep _ _ e)) (Nat.not_lt.mpr hc)
  obtain ⟨oC, hoC, hnC⟩ := ns_obj hns₁
  rw [z1] at hoC ⊢
  have go := loop (hp.objs.size + 1) hp.objs.size oC h₁ (F.kept old) ?_ hnC (by exact Nat.ne_of_gt (Nat.lt_succ_self _)) (fun p hp' q => ?_) (fun p hp' q => ?_)
  · refine codeAny_compStart_list ?_ (self _ old _ _ ?_)
    · exact go
    · exact go
  · intro p hp'
    rcases List.mem_cons.mp hp' with rfl | hp'
    · exact ⟨hoC, fresh _ (Nat.le_succ _)⟩
    rcases List.mem_cons.mp hp' with rfl | hp'
    · exact ⟨hacc, fresh _ (Nat.le_refl _)⟩
    · exact ⟨old _ _ (N p hp').1, (N p hp').2⟩
  · have := hlt (N p hp').1; rw [q] at this; exact absurd this (by show ¬ hp.objs.size + 1 < hp.objs.size; exact zq450)
  · have := hlt (N p hp').1; rw [q] at this; exact absurd this (Nat.lt_irrefl _)
theorem compL {it acc : Value} {R : Result → Shared → Prop} (I : Nat → Shared → Prop)
    (turn : ∀ n s, I n s → wpAny (model prog w) A (pyNext it) (fun r s₁ => match r with
      | none => R (.ok .next) s₁
      | some v => wpAny (model prog w) A (letOwnedTupleGo target it v) (fun _ s₀ => wpAny (model prog w) A (assign target env v) (fun _ s₂ =>
          wpAny (model prog w) A (eval elt env) (fun x s₄ => wpAny (model prog w) A (call (.builtin "list.append") [acc, x]) (fun _ s₅ => ∃ m, m < n ∧ I m s₅) (fun _ _ => False) s₄) (fun _ _ => False) s₂) (fun _ _ => False) s₀) (fun _ _ => False) s₁) (fun _ _ => False) s)
    (n : Nat) (h : I n s) : codeAny (model prog w) A (.compLoop (.ListComp elt [⟨target, iter, [], 0⟩] scope pos) 0 it acc env) R s := by
  refine kcp_loop I (fun n s hI => wpAny_mono (turn n s hI) (fun r s₁ h₁ => ?_) (fun _ _ x => x.elim)) n h
  cases r with
  | none => exact h₁
  | some v => exact wpAny_mono h₁ (fun _ s₀ h₂ => wpAny_mono h₂ (fun _ s₂ h₃ => wpAny_mono h₃ (fun x s₄ h₄ => wpAny_mono h₄ (fun _ _ h => h) fun _ _ x => x.elim) fun _ _ x => x.elim) fun _ _ x => x.elim) fun _ _ x => x.elim
theorem compLI {it acc : Value} {R : Result → Shared → Prop} (I : Nat → Heap → Nat → Prop)
    (turn : ∀ n h tk (B Y : Shared → Prop), (∀ {h' tk'} (m : Nat), m < n → I m h' tk' → B ⟨h', gs, dr, tk', oo⟩) → (∀ s', R (.ok .next) s' → Y s') → I n h tk → wpAny (model prog w) A (pyNext it) (fun r s₁ => match r with
      | none => Y s₁
      | some v => wpAny (model prog w) A (letOwnedTupleGo target it v) (fun _ s₀ => wpAny (model prog w) A (assign target env v) (fun _ s₂ =>
          wpAny (model prog w) A (eval elt env) (fun x s₄ => wpAny (model prog w) A (call (.builtin "list.append") [acc, x]) (fun _ s₅ => B s₅) (fun _ _ => False) s₄) (fun _ _ => False) s₂) (fun _ _ => False) s₀) (fun _ _ => False) s₁) (fun _ _ => False) ⟨h, gs, dr, tk, oo⟩)
    (n : Nat) (h : I n hp tk₀) : codeAny (model prog w) A (.compLoop (.ListComp elt [⟨target, iter, [], 0⟩] scope pos) 0 it acc env) R ⟨hp, gs, dr, tk₀, oo⟩ :=
  compL (fun n s => ∃ h tk, s = ⟨h, gs, dr, tk, oo⟩ ∧ I n h tk)
    (fun n s hI => by
      obtain ⟨h, tk, rfl, hI⟩ := hI
      exact turn n h tk _ _ (fun m hm x => ⟨m, hm, _, _, rfl, x⟩) (fun _ x => x) hI)
    n ⟨_, _, rfl, h⟩
theorem compEndE {Q : Value → Shared → Prop} {v : Value} (F : Fr h₀ L hp m) (N : News h₀ L hp ((C, oC) :: news)) (hn : NsObj oC mc) (hne : ∀ p ∈ news, p.1 ≠ C)
    (h : ∀ h', Fr h₀ L h' m → News h₀ L h' news → Q v ⟨h', gs, dr, tk₀, oo⟩) : compPost (model prog w) A E none Q v C (.ok .next) ⟨hp, gs, dr, tk₀, oo⟩ :=
  ⟨mc, hn.ns (N _ (.head _)).1, fun h' hs => h h' (F.change hs (N _ (.head _)).2.1 (N _ (.head _)).2.2) fun p hp => ⟨hs.extBut _ _ (hne p hp) (N p (.tail _ hp)).1, (N p (.tail _ hp)).2⟩⟩
theorem compEndA {Q : Value → Shared → Prop} {v : Value} {y : Str} {py : Pos} (F : Fr h₀ L hp m) (N : News h₀ L hp ((C, oC) :: news)) (hn : NsObj oC mc) (hne : ∀ p ∈ news, p.1 ≠ C) (hl : env.kindOf y = some .local) (hL : env.locals = L) (hk : env.scope.kind = .function)
    (h : ∀ h', Fr h₀ L h' (fun z => if z = y then some v else m z) → News h₀ L h' news → Q .none ⟨h', gs, dr, tk₀ + 1, oo⟩) : compPost (model prog w) A E (some (assign (.Name y py) env)) Q v C (.ok .next) ⟨hp, gs, dr, tk₀, oo⟩ := by
  show wpAny _ A (assign (.Name y py) env v) _ _ _
  refine PyProof.Rows.assign_Name (stL hl F N hL (fun h₂ F₂ N₂ => ?_) hk)
  exact ⟨mc, hn.ns (N₂ _ (.head _)).1, fun h' hs => h h' (F₂.change hs (N₂ _ (.head _)).2.1 (N₂ _ (.head _)).2.2) fun p hp => ⟨hs.extBut _ _ (hne p hp) (N₂ p (.tail _ hp)).1, (N₂ p (.tail _ hp)).2⟩⟩
theorem stC {x : Str} {v : Value} {Q : Unit → Shared → Prop} (hx : scope.names.lookup x = some .local) (hkind : scope.kind = .function) (F : Fr h₀ L hp m) (N : News h₀ L hp ((C, oC) :: news)) (hne : ∀ p ∈ news, p.1 ≠ C) (hn : NsObj oC mc)
    (h : ∀ h' oC', Fr h₀ L h' m → News h₀ L h' ((C, oC') :: news) → NsObj oC' (fun y => if y = x then some v else mc y) → Q () ⟨h', gs, dr, tk₀ + 1, oo⟩) : wpAny (model prog w) A (storeName (compEnvC scope cl C env) x v) Q E ⟨hp, gs, dr, tk₀, oo⟩ := by
  refine wpAny_storeName_local (lookup_relabel_local hx) (hn.ns (N _ (.head _)).1) (fun h' hn' hs => ?_) (by simp [compEnvC, relabel, hkind])
  obtain ⟨o', ho', hno'⟩ := ns_obj hn'
  exact h h' o' (fset F N hs) (nset N hne hs ho') hno'
theorem ldC {x : Str} {p : Pos} {v : Value} {Q : Value → Shared → Prop} (hx : scope.names.lookup x = some .local) (hkind : scope.kind = .function) (N : News h₀ L s.heap news) (hm : (C, oC) ∈ news) (hn : NsObj oC mc) (hv : mc x = some v) (h : Q v s) (hd : (x == ("__debug__" : Str)) = false) :
    wpAny (model prog w) A (eval (.Name x p) (compEnvC scope cl C env)) Q E s :=
  wpAny_Name (wpAny_loadName_local (by simp [compEnvC, relabel, hkind]) (lookup_relabel_local hx) (hn.ns (N _ hm).1) hv h) hd
theorem unpackC {elts : List Expr} {x1} {tp : Pos} {T : Addr} {vs : List Value} {env : Env} {Q : Unit → Shared → Prop} (hh : A.handled = none) (F : Fr h₀ L hp m) (N : News h₀ L hp news) (hm : (T, tupO vs) ∈ news)
    (hn : (assignEach elts env).length = vs.length) (hstar : (assignEach elts env).findIdx? (·.1) = none)
    (h : ∀ h', Fr h₀ L h' m → News h₀ L h' news → wpAny (model prog w) A (assignInOrder ((assignEach elts env).map (·.2)) vs) Q E ⟨h', gs, dr, tk₀, oo⟩) :
    wpAny (model prog w) A (assign (.Tuple elts x1 tp) env (.ref T)) Q E ⟨hp, gs, dr, tk₀, oo⟩ := by
  refine wpAny_assign_Tuple hh (items := vs.toArray) ⟨_, (N _ hm).1, rfl, _, rfl⟩ (by simpa using hn) hstar fun h' he => ?_
  have up : ∀ c o, hp.get? c = some o → h'.get? c = some o := fun c o e => he c o (Nat.ne_of_lt (Heap.lt_size e)) e
  exact h h' (F.kept up) (N.grown up)
end

open PyProof.Rows.LCg (NsObj ns_obj)
section
variable {prog : Program} {w : World} {A : Around} {E : Value → Shared → Prop} {s : Shared} {hp : Heap} {gs : Array GenState} {dr : Drawn} {tk₀ : Nat} {oo : OsState} {h₀ : Heap} {L l : Addr} {m : Str → Option Value} {news : List (Addr × Obj)} {env : Env} {vs us : List Value} {e : Nat}
theorem dropN1 {value slice : Expr} {t : Tok} {Q : Value → Shared → Prop} (F : Fr h₀ L hp m) (N : News h₀ L hp news) (hl : hp.IsList l vs.toArray) (hz : vs.length < 1000) (h1 : 1 ≤ vs.length)
    (h : ∀ D h', Fr h₀ L h' m → News h₀ L h' ((D, listOf (vs.drop 1).toArray 0) :: news) → (∀ p ∈ news, p.1 ≠ D) → Q (.ref D) ⟨h', gs, dr, tk₀, oo⟩)
    (hs : subscripted slice false (.ref l) (.ref hp.objs.size) = operate [.ref hp.objs.size, .ref l] (getItem (.ref l) (.ref hp.objs.size))) (ht : ∀ r, letTemporaryGo value (.ref l) r = pure ()) :
    wpAny (model prog w) A (subscriptTail value slice (.ref l) (.ref hp.objs.size)) Q E ⟨hp.push { cls := .type "slice", data := .fields #[.int 1 t, .none, .none] }, gs, dr, tk₀, oo⟩ := by
  refine kms_slice_lit (s := ⟨hp, gs, dr, tk₀, oo⟩) F N hl (.int 1 t) .none (zs := vs.drop 1) ?_ (fun D h' F' N' hD => h D h' F' N' fun p hp => Nat.ne_of_lt (hD p hp)) hs ht (by rw [List.size_toArray, sizeLine_eq]; exact zq451 hz h1)
  show (vs.drop (min 1 vs.length)).take (vs.length - min 1 vs.length) = vs.drop 1
  rw [Nat.min_eq_left h1]
  exact List.take_of_length_le (by simp)
theorem takeN6 {value slice : Expr} {t : Tok} {Q : Value → Shared → Prop} (F : Fr h₀ L hp m) (N : News h₀ L hp news) (hl : hp.IsList l vs.toArray) (hz : vs.length < 1000)
    (h : ∀ D h', Fr h₀ L h' m → News h₀ L h' ((D, listOf (vs.take 6).toArray 0) :: news) → (∀ p ∈ news, p.1 ≠ D) → Q (.ref D) ⟨h', gs, dr, tk₀, oo⟩)
    (hs : subscripted slice false (.ref l) (.ref hp.objs.size) = operate [.ref hp.objs.size, .ref l] (getItem (.ref l) (.ref hp.objs.size))) (ht : ∀ r, letTemporaryGo value (.ref l) r = pure ()) :
    wpAny (model prog w) A (subscriptTail value slice (.ref l) (.ref hp.objs.size)) Q E ⟨hp.push { cls := .type "slice", data := .fields #[.none, .int 6 t, .none] }, gs, dr, tk₀, oo⟩ := by
  refine kms_slice_lit (s := ⟨hp, gs, dr, tk₀, oo⟩) F N hl .none (.int 6 t) (zs := vs.take 6) ?_ (fun D h' F' N' hD => h D h' F' N' fun p hp => Nat.ne_of_lt (hD p hp)) hs ht (by rw [List.size_toArray, sizeLine_eq]; exact zq19 hz)
  show (vs.drop 0).take (min 6 vs.length - 0) = vs.take 6
  rw [List.drop_zero, Nat.sub_zero]
  exact kmk_take_min vs 6
theorem addN {b : Addr} {Q : Value → Shared → Prop} (F : Fr h₀ L hp m) (N : News h₀ L hp news) (hl : hp.IsList l vs.toArray) (hb : hp.IsList b us.toArray) (hz : vs.length + us.length < 1000)
    (h : ∀ D h', Fr h₀ L h' m → News h₀ L h' ((D, listOf (vs ++ us).toArray 0) :: news) → (∀ p ∈ news, p.1 ≠ D) → Q (.ref D) ⟨h', gs, dr, tk₀, oo⟩) : wpAny (model prog w) A (binaryOp .Add (.ref l) (.ref b)) Q E ⟨hp, gs, dr, tk₀, oo⟩ :=
  add_lists (s := ⟨hp, gs, dr, tk₀, oo⟩) F N hl hb (fun h' F' N' => h _ h' F' N' fun p hp => Nat.ne_of_lt (Heap.lt_size (N p hp).1)) (by rw [sizeLine_eq]; exact zq452 hz)
theorem itemL1 {value slice : Expr} {u : Tok} {Q : Value → Shared → Prop} {x : Value} (N : News h₀ L s.heap news) (hm : (l, listOf (vs ++ [x]).toArray e) ∈ news) (hb : vs.length < 1000) (h : Q x s)
    (hs : subscripted slice false (.ref l) (.int (-1) u) = operate [.ref l, .int (-1) u] (getItem (.ref l) (.int (-1) u))) (hg : ∀ r, letTemporaryGo value (.ref l) r = pure ()) :
    wpAny (model prog w) A (subscriptTail value slice (.ref l) (.int (-1) u)) Q E s := by
  have hl := N.isList hm
  refine subscriptTail_builtin hl.typeIs slot_list_getitem.lookup (wpAny_getItem_list_neg hl (by decide) (by simp; exact zq453 hb) (by decide) (x := x) ?_ h) hs hg
  have e : ((-1 : Int) + ((vs ++ [x]).toArray.size : Int)).toNat = vs.length := by simp; exact zq454 hb
  first | rw [e] | (rw [Int.add_comm] at e; rw [e])
  simp
theorem slcFrom {ex : Expr} {p : Pos} {Q : Value → Shared → Prop} (h : wpAny (model prog w) A (eval ex env) (fun v s₁ => Q (.ref s₁.heap.objs.size) { s₁ with heap := s₁.heap.push { cls := .type "slice", data := .fields #[v, .none, .none] } }) E s) :
    wpAny (model prog w) A (eval (.Slice (some ex) none none p) env) Q E s := wpAny_Slice (wpAny_mono h (fun _ _ h => wpAny_evalPart_none (wpAny_evalPart_none h)) fun _ _ x => x)
theorem slcTo {ex : Expr} {p : Pos} {Q : Value → Shared → Prop} (h : wpAny (model prog w) A (eval ex env) (fun v s₁ => Q (.ref s₁.heap.objs.size) { s₁ with heap := s₁.heap.push { cls := .type "slice", data := .fields #[.none, v, .none] } }) E s) :
    wpAny (model prog w) A (eval (.Slice none (some ex) none p) env) Q E s := wpAny_Slice (wpAny_evalPart_none (wpAny_mono h (fun _ _ h => wpAny_evalPart_none h) fun _ _ x => x))
theorem nord {L : Addr} {h₀ h : Heap} {a b c d : Addr × Obj} {r s : List (Addr × Obj)} (N : News h₀ L h (a :: b :: c :: r ++ d :: s)) : News h₀ L h (b :: d :: a :: r ++ s) := nsub N (by grind)
end
noncomputable def Tups (ts : List (Addr × Obj)) : Prop := ∀ p ∈ ts, ∃ xs, p.2 = tupO xs
theorem Tups.off {h₀ h : Heap} {L l : Addr} {ts news : List (Addr × Obj)} {vs : List Value} {e : Nat} (T : Tups ts) (N : News h₀ L h news) (hs : ∀ p ∈ ts, p ∈ news) (hm : (l, listOf vs.toArray e) ∈ news) : ∀ p ∈ ts, p.1 ≠ l := fun p hp q => by
  obtain ⟨xs, hx⟩ := T p hp
  have h1 := (N p (hs p hp)).1
  have h2 := (N _ hm).1
  rw [q, hx] at h1
  have := congrArg Obj.cls (Option.some.inj (h1.symm.trans h2))
  injection this with this
  revert this
  decide
-- what a comprehension has made so far
theorem cl_k {k i n : Nat} (h : k + i = n) (hi : i < n) : k - 1 < k ∧ k - 1 + (i + 1) = n := by exact zq455 h hi
structure Tr (P : Nat → Value → List (Addr × Obj) → Nat → Nat → Prop) (tk₀ i : Nat) (ys : List Value) (ts : List (Addr × Obj)) (lo hi : Nat → Nat) (tk : Nat) : Prop where
  len : ys.length = i
  tups : Tups ts
  each : ∀ j, j < i → P j (ys.getD j .none) ts (lo j) (hi j)
  rng : ∀ j, j < i → tk₀ ≤ lo j ∧ hi j ≤ tk
  mono : ∀ j j', j < j' → j' < i → hi j ≤ lo j'
  tok : tk₀ ≤ tk
theorem Tr.nil {P : Nat → Value → List (Addr × Obj) → Nat → Nat → Prop} {tk₀ : Nat} : Tr P tk₀ 0 [] [] (fun _ => 0) (fun _ => 0) tk₀ :=
  ⟨rfl, fun _ h => (nomatch h), fun _ h => absurd h (Nat.not_lt_zero _), fun _ h => absurd h (Nat.not_lt_zero _), fun _ _ _ h => absurd h (Nat.not_lt_zero _), Nat.le_refl _⟩
theorem Tr.push {P : Nat → Value → List (Addr × Obj) → Nat → Nat → Prop} {tk₀ i : Nat} {ys : List Value} {ts us : List (Addr × Obj)} {lo hi : Nat → Nat} {tk l t : Nat} {x : Value} (T : Tr P tk₀ i ys ts lo hi tk)
    (hP : ∀ j v ts' us' lo hi, P j v ts' lo hi → (∀ p ∈ ts', p ∈ us') → P j v us' lo hi) (hu : Tups us) (h1 : tk ≤ l) (h2 : l ≤ t) (hx : P i x (us ++ ts) l t) :
    Tr P tk₀ (i + 1) (ys ++ [x]) (us ++ ts) (fun j => if j = i then l else lo j) (fun j => if j = i then t else hi j) t := by
  have hyl := T.len
  refine ⟨by simp [hyl], fun p hp => (List.mem_append.mp hp).elim (hu p) (T.tups p), fun j hj => ?_, fun j hj => ?_, fun j j' hjj hj' => ?_, Nat.le_trans T.tok (Nat.le_trans h1 h2)⟩
  · skip
    by_cases ej : j = i
    · subst ej
      have e1 : (ys ++ [x]).getD j .none = x := by simp [List.getD, ← hyl]
      rw [if_pos rfl, if_pos rfl, e1]; exact hx
    · have hj := Nat.lt_of_le_of_ne (Nat.le_of_lt_succ hj) ej
      have e1 : (ys ++ [x]).getD j .none = ys.getD j .none := by simp only [List.getD_eq_getElem?_getD]; rw [List.getElem?_append_left (hyl.symm ▸ hj)]
      rw [if_neg ej, if_neg ej, e1]
      exact hP _ _ _ _ _ _ (T.each j hj) fun p hp => List.mem_append_right _ hp
  · skip
    by_cases ej : j = i
    · rw [if_pos ej, if_pos ej]; exact ⟨Nat.le_trans T.tok h1, Nat.le_refl _⟩
    · have hj := T.rng j (Nat.lt_of_le_of_ne (Nat.le_of_lt_succ hj) ej)
      rw [if_neg ej, if_neg ej]; exact ⟨hj.1, Nat.le_trans hj.2 (Nat.le_trans h1 h2)⟩
  · skip
    have hj : j < i := Nat.lt_of_lt_of_le hjj (Nat.le_of_lt_succ hj')
    rw [if_neg (Nat.ne_of_lt hj)]
    by_cases ej : j' = i
    · rw [if_pos ej]; exact Nat.le_trans (T.rng j hj).2 h1
    · rw [if_neg ej]; exact T.mono j j' hjj (Nat.lt_of_le_of_ne (Nat.le_of_lt_succ hj') ej)
theorem five {z TI TO i1 i2 C : Addr} {oz oI oO o1 o2 : Obj} {news : List (Addr × Obj)} (d : C ≠ z ∧ C ≠ TI ∧ C ≠ TO ∧ C ≠ i1 ∧ C ≠ i2) (h : ∀ p ∈ news, p.1 ≠ C) : ∀ p ∈ (z, oz) :: (TI, oI) :: (TO, oO) :: (i1, o1) :: (i2, o2) :: news, p.1 ≠ C :=
  List.forall_mem_cons.mpr ⟨Ne.symm d.1, List.forall_mem_cons.mpr ⟨Ne.symm d.2.1, List.forall_mem_cons.mpr ⟨Ne.symm d.2.2.1, List.forall_mem_cons.mpr ⟨Ne.symm d.2.2.2.1, List.forall_mem_cons.mpr ⟨Ne.symm d.2.2.2.2, h⟩⟩⟩⟩⟩

open PyProof.Rows.LCg (NsObj ns_obj)
section
variable {prog : Program} {w : World} {A : Around} {E : Value → Shared → Prop} {hp : Heap} {gs : Array GenState} {dr : Drawn} {tk₀ : Nat} {oo : OsState} {h₀ : Heap} {L : Addr} {m : Str → Option Value} {news : List (Addr × Obj)} {env : Env} {vs us : List Value}
theorem mem1 {q c d : Addr × Obj} {ts news : List (Addr × Obj)} (h : q ∈ news) : ∀ p ∈ [q], p ∈ c :: d :: (ts ++ news) := fun p hp => by
  rw [List.mem_singleton.mp hp]; exact .tail _ (.tail _ (List.mem_append_right _ h))
inductive ZpI (h₀ : Heap) (L z TI TO i1 i2 C D l1 l2 : Addr) (m : Str → Option Value) (nw : List (Addr × Obj)) (P : Nat → Value → List (Addr × Obj) → Nat → Nat → Prop) (tk₀ n k : Nat) (h' : Heap) (tk : Nat) : Prop
  | mk (i : Nat) (ys : List Value) (oC : Obj) (mc : Str → Option Value) (ts : List (Addr × Obj)) (lo hi : Nat → Nat) (va vb : Value) (o1 o2 : Obj) (hki : k + i = n) (F : Fr h₀ L h' m)
    (N : News h₀ L h' (zl z TI TO i1 i2 .none va vb o1 o2 ((C, oC) :: (D, listOf ys.toArray ys.length) :: (ts ++ nw)))) (Z : Zd z TI TO i1 i2 ((C, oC) :: (D, listOf ys.toArray ys.length) :: (ts ++ nw)))
    (l1' : LI o1 l1 i) (l2' : LI o2 l2 i) (hn : NsObj oC mc) (oC1 : ∀ p ∈ ts ++ nw, p.1 ≠ C) (oD1 : ∀ p ∈ ts ++ nw, p.1 ≠ D) (T : Tr P tk₀ i ys ts lo hi tk) : ZpI h₀ L z TI TO i1 i2 C D l1 l2 m nw P tk₀ n k h' tk
theorem zipPairs {use : Option (Value → Sem Unit)} {Q : Value → Shared → Prop} {a b : Str} {pa pb tp p1 p2 p3 p4 p5 pos : Pos} {kk k5 : Nat} {iter : Expr} {scope : Scope} {cl : List (Str × Addr)} {z TI TO i1 i2 l1 l2 : Addr} {o1 o2 : Obj} {e1 e2 : Nat} {x : Nat → Nat → Value}
    (hh : A.handled = none) (F : Fr h₀ L hp m) (N : News h₀ L hp (zl z TI TO i1 i2 .none .none .none o1 o2 news)) (Z : Zd z TI TO i1 i2 news) (ho1 : LI o1 l1 0) (ho2 : LI o2 l2 0) (hm1 : (l1, listOf vs.toArray e1) ∈ news) (hm2 : (l2, listOf us.toArray e2) ∈ news) (hlen : us.length = vs.length) (hb : vs.length < 900)
    (sub : ∀ i, i < vs.length → ∀ (A : Around) (s : Shared) (Q : Value → Shared → Prop) (E : Value → Shared → Prop), Q (x i s.toks) { s with toks := s.toks + 1 } → wpAny (model prog w) A (binaryOp .Sub (vs.getD i .none) (us.getD i .none)) Q E s)
    (hcell : ∀ y ∈ scope.names, y.2 ≠ .cell) (hkind : scope.kind = .function) (hxa : scope.names.lookup a = some .local) (hxb : scope.names.lookup b = some .local) (hab : a ≠ b) (hda : (a == ("__debug__" : Str)) = false) (hdb : (b == ("__debug__" : Str)) = false)
    (post : ∀ C D oC mc h' tk ts (ys : List Value) (τ : Nat → Nat), Fr h₀ L h' m → News h₀ L h' ((C, oC) :: (D, listOf ys.toArray ys.length) :: (ts ++ news)) → NsObj oC mc → C ≠ D → (∀ p ∈ ts ++ news, p.1 ≠ C) → (∀ p ∈ ts ++ news, p.1 ≠ D) → Tups ts → ys.length = vs.length →
      (∀ i, i < vs.length → ∃ T, ys.getD i .none = .ref T ∧ (T, tupO [x i (τ i), vs.getD i .none]) ∈ ts) → (∀ i, i < vs.length → tk₀ ≤ τ i ∧ τ i < tk) → (∀ i j, i < j → j < vs.length → τ i < τ j) → tk₀ ≤ tk →
      compPost (model prog w) A E use Q (.ref D) C (.ok .next) ⟨h', gs, dr, tk, oo⟩) :
    CompB prog w A env (.Tuple [.BinOp (.Name a p1) .Sub (.Name b p2) p3, .Name a p4] k5 p5) (.Tuple [.Name a pa, .Name b pb] kk tp) iter scope cl pos use E Q (.ref z) ⟨hp, gs, dr, tk₀, oo⟩ := by
  refine compB F N hcell hkind (fun s' hs Q E h => wpAny_pyIter_zip (hs _ _ (N _ (.head _)).1) h) fun C D oC h₁ F₁ N₁ hC hCD hnC hnD => ?_
  have hsub5 : ∀ p ∈ news, p ∈ zl z TI TO i1 i2 .none .none .none o1 o2 news := fun p hp => .tail _ (.tail _ (.tail _ (.tail _ (.tail _ hp))))
  have dC : C ≠ z ∧ C ≠ TI ∧ C ≠ TO ∧ C ≠ i1 ∧ C ≠ i2 := ⟨Ne.symm (hnC _ (.head _)), Ne.symm (hnC _ (.tail _ (.head _))), Ne.symm (hnC _ (.tail _ (.tail _ (.head _)))), Ne.symm (hnC _ (.tail _ (.tail _ (.tail _ (.head _))))), Ne.symm (hnC _ (.tail _ (.tail _ (.tail _ (.tail _ (.head _))))))⟩
  have dD : D ≠ z ∧ D ≠ TI ∧ D ≠ TO ∧ D ≠ i1 ∧ D ≠ i2 := ⟨Ne.symm (hnD _ (.head _)), Ne.symm (hnD _ (.tail _ (.head _))), Ne.symm (hnD _ (.tail _ (.tail _ (.head _)))), Ne.symm (hnD _ (.tail _ (.tail _ (.tail _ (.head _))))), Ne.symm (hnD _ (.tail _ (.tail _ (.tail _ (.tail _ (.head _))))))⟩
  refine compLI (ZpI h₀ L z TI TO i1 i2 C D l1 l2 m news (fun i v ts lo hi => hi = lo + 1 ∧ ∃ T, v = .ref T ∧ (T, tupO [x i lo, vs.getD i .none]) ∈ ts) tk₀ vs.length) ?_ vs.length
    ⟨0, [], oC, _, [], _, _, .none, .none, o1, o2, rfl, F₁, nsub N₁ (by lcg_sub), (Z.add (q := (D, _)) dD.1 dD.2.1 dD.2.2.1 dD.2.2.2.1 dD.2.2.2.2).add dC.1 dC.2.1 dC.2.2.1 dC.2.2.2.1 dC.2.2.2.2, ho1, ho2, hC, fun p hp => hnC p (hsub5 p hp), fun p hp => hnD p (hsub5 p hp), .nil⟩
  clear F₁ N₁ hC hnC hnD hsub5 N F Z ho1 ho2
  rintro k h' tk B Y hB hY ⟨i, ys, oC, mc, ts, lo, hi, va, vb, o1, o2, hki, F', N', Z', l1', l2', hn, oC1, oD1, T⟩
  by_cases hi' : i < vs.length
  · refine zipNextN (dp1 := [(l1, listOf vs.toArray e1)]) (dp2 := [(l2, listOf us.toArray e2)]) F' N' Z' (mem1 hm1) (mem1 hm2) (drawI_list l1' hi') (drawI_list l2' (hlen.symm ▸ hi')) ?_
    clear F' N'
    intro U0 h2 o1' o2' F2 N2 q1 q2 Z2 hT2
    have sub := sub i hi'
    generalize hv : vs.getD i .none = v at *
    generalize us.getD i .none = u at *
    refine zipGoN (rest := (U0, tupO [v, u]) :: (TI, tupO [.ref i1, .ref i2]) :: (TO, tupO [v, u]) :: (i1, o1') :: (i2, o2') :: (C, oC) :: (D, listOf ys.toArray ys.length) :: (ts ++ news)) F2 (nsub N2 (by lcg_sub)) ?_ ?_
    · exact List.forall_mem_cons.mpr ⟨Z2.nz (U0, _) (.head _), List.forall_mem_cons.mpr ⟨Z2.TIz, List.forall_mem_cons.mpr ⟨Z2.TOz, List.forall_mem_cons.mpr ⟨Z2.i1z, List.forall_mem_cons.mpr ⟨Z2.i2z, Z'.nz⟩⟩⟩⟩⟩
    clear F2 N2 hT2
    intro h3 F3 N3
    refine unpackC (vs := [v, u]) hh F3 N3 (.tail _ (.head _)) rfl rfl ?_
    clear F3 N3
    intro h4 F4 N4
    have nC : ∀ p ∈ zl z TI TO i1 i2 .none v u o1' o2' ((D, listOf ys.toArray ys.length) :: (ts ++ news)), p.1 ≠ C := five dC (List.forall_mem_cons.mpr ⟨Ne.symm hCD, oC1⟩)
    show wpAny _ _ (assignInOrder [assign (.Name a pa) (compEnvC scope cl C env), assign (.Name b pb) (compEnvC scope cl C env)] [_, _]) _ _ _
    refine assignInOrder_cons (PyProof.Rows.assign_Name (stC hxa hkind F4 (nsub N4 (news' := (C, oC) :: zl z TI TO i1 i2 .none v u o1' o2' ((D, listOf ys.toArray ys.length) :: (ts ++ news))) (by lcg_sub)) nC hn ?_))
    clear F4 N4
    intro h5 oC5 F5 N5 hn5
    refine assignInOrder_cons (PyProof.Rows.assign_Name (stC hxb hkind F5 N5 nC hn5 ?_))
    clear F5 N5 nC
    intro h6 oC6 F6 N6 hn6
    refine assignInOrder_nil ?_
    refine Tuple_ (spliced_more ?_ rfl)
    refine wpAny_BinOp (ldC hxa hkind N6 (.head _) hn6 ((if_neg hab).trans (if_pos rfl)) (ldC hxb hkind N6 (.head _) hn6 (if_pos rfl) ?_ hdb) hda)
    refine sub _ _ _ _ ?_
    refine spliced_more ?_ rfl
    refine ldC hxa hkind N6 (.head _) hn6 ((if_neg hab).trans (if_pos rfl)) ?_ hda
    refine spliced_none ?_
    refine tupN F6 N6 (by show 2 < 1000; decide) ?_
    clear F6 N6
    intro U h7 F7 N7 hU
    subst hv
    refine appendN F7 (nsub N7 (news' := (D, listOf ys.toArray ys.length) :: (U, tupO [x i (tk + 0 + 0 + 1 + 1), vs.getD i .none]) :: zl z TI TO i1 i2 .none (vs.getD i .none) u o1' o2' ((C, oC6) :: (ts ++ news))) (by lcg_sub)) ?_ (Nat.lt_trans (T.len ▸ hi') (Nat.lt_trans hb (by decide))) ?_
    · exact List.forall_mem_cons.mpr ⟨Ne.symm (hU (D, listOf ys.toArray ys.length) (by kt_ors)), five dD (List.forall_mem_cons.mpr ⟨hCD, oD1⟩)⟩
    clear F7 N7
    intro h8 F8 N8
    refine hB (k - 1) (cl_k hki hi').1 ⟨i + 1, ys ++ [.ref U], oC6, _, [(U, tupO [x i (tk + 0 + 0 + 1 + 1), vs.getD i .none])] ++ ts, _, _, vs.getD i .none, u, o1', o2', (cl_k hki hi').2, F8, ?_, ?_, q1, q2, hn6, ?_, ?_, T.push (fun j v ts us lo hi h hs => ⟨h.1, ?_⟩) (fun p hp => ⟨_, congrArg Prod.snd (List.mem_singleton.mp hp)⟩) (Nat.le_add_right tk 2) (Nat.le_succ _) ⟨rfl, U, rfl, .head _⟩⟩
    · rw [show (ys ++ [Value.ref U]).length = ys.length + 1 by simp]
      exact nsub N8 (by lcg_sub)
    · refine (((Z'.sub (news' := ts ++ news) (fun p hp => .tail _ (.tail _ hp))).add (q := (U, tupO [x i (tk + 0 + 0 + 1 + 1), vs.getD i .none])) ?_ ?_ ?_ ?_ ?_).add (q := (D, _)) dD.1 dD.2.1 dD.2.2.1 dD.2.2.2.1 dD.2.2.2.2).add (q := (C, _)) dC.1 dC.2.1 dC.2.2.1 dC.2.2.2.1 dC.2.2.2.2
      · exact Ne.symm (hU (z, zipO TI TO .none) (by kt_ors))
      · exact Ne.symm (hU (TI, tupO [.ref i1, .ref i2]) (by kt_ors))
      · exact Ne.symm (hU (TO, tupO [vs.getD i .none, u]) (by kt_ors))
      · exact Ne.symm (hU (i1, o1') (by kt_ors))
      · exact Ne.symm (hU (i2, o2') (by kt_ors))
    · exact List.forall_mem_cons.mpr ⟨Ne.symm (hU (C, oC6) (by kt_ors)), oC1⟩
    · exact List.forall_mem_cons.mpr ⟨Ne.symm (hU (D, listOf ys.toArray ys.length) (by kt_ors)), oD1⟩
    · obtain ⟨_, T', a1, a2⟩ := h; exact ⟨T', a1, hs _ a2⟩
  · obtain rfl : i = vs.length := Nat.le_antisymm (hki ▸ Nat.le_add_left _ _) (Nat.not_lt.mp hi')
    refine zipEndN (dp1 := [(l1, listOf vs.toArray e1)]) hh F' N' Z' (mem1 hm1) (drawE_list l1' (Nat.le_refl _)) ?_
    intro h2 F2 N2
    exact hY _ (post C D oC mc h2 tk ts ys lo F2 (nsub N2 (by lcg_sub)) hn hCD oC1 oD1 T.tups T.len (fun i hi => (T.each i hi).2) (fun i hi' => ⟨(T.rng i hi').1, Nat.le_trans (Nat.le_of_eq (T.each i hi').1.symm) (T.rng i hi').2⟩) (fun i j hij hj => Nat.le_trans (Nat.le_of_eq (T.each i (Nat.lt_trans hij hj)).1.symm) (T.mono i j hij hj)) T.tok)
end

open PyProof.Rows.LCg (NsObj ns_obj)
noncomputable def gapsOf (row : List Int) : List (Int × Int) := (row.zip (row.drop 1 ++ [row.getD 0 0 + 1024])).map fun p => (p.1 - p.2, p.1)
noncomputable def Rel2 {α : Type} [Inhabited α] (P : Value → α → Prop) (ys : List Value) (zs : List α) : Prop := ys.length = zs.length ∧ ∀ i, i < zs.length → P (ys.getD i .none) (zs.getD i default)
theorem intsAt {vs : List Value} {ns : List Int} (h : IntsAre vs ns) : ∀ {i : Nat}, i < ns.length → ∃ t, vs.getD i .none = .int (ns.getD i 0) t := by
  induction h with
  | nil => intro i hi; exact absurd hi (Nat.not_lt_zero _)
  | cons n t _ ih =>
    intro i hi
    cases i with
    | zero => exact ⟨t, rfl⟩
    | succ i => obtain ⟨t', e⟩ := ih (i := i) (by simpa using hi); exact ⟨t', by simpa using e⟩
theorem gapsOf_length (row : List Int) (h : 1 ≤ row.length) : (gapsOf row).length = row.length := by
  unfold gapsOf; simp; exact zq457 h
theorem zipmap_get {a b : List Int} {i : Nat} (h1 : i < a.length) (h2 : i < b.length) : ((a.zip b).map fun p => (p.1 - p.2, p.1)).getD i default = (a.getD i 0 - b.getD i 0, a.getD i 0) := by
  have h3 : i < (a.zip b).length := by simp; exact zq458 h1 h2
  simp only [List.getD_eq_getElem?_getD, List.getElem?_map, List.getElem?_eq_getElem h1, List.getElem?_eq_getElem h2, List.getElem?_eq_getElem h3]
  simp
theorem gapsOf_get {row : List Int} {i : Nat} (hi : i < row.length) : (gapsOf row).getD i default = (row.getD i 0 - (row.drop 1 ++ [row.getD 0 0 + 1024]).getD i 0, row.getD i 0) := by
  have h2 : i < (row.drop 1 ++ [row.getD 0 0 + 1024]).length := by simp; exact zq459 hi
  exact zipmap_get hi h2
section
variable {prog : Program} {w : World} {n : Nat} {A : Around} {h₀ : Heap} {L : Addr} {m : Str → Option Value} {news : List (Addr × Obj)} {hp : Heap} {gs : Array GenState} {dr : Drawn} {tk₀ : Nat} {oo : OsState} {R : Result → Shared → Prop} {E : Value → Shared → Prop}
theorem sortedI {l : Addr} {vs : List Value} {ns : List Int} {e : Nat} {Q : Value → Shared → Prop} (F : Fr h₀ L hp m) (N : News h₀ L hp news) (hm : (l, listOf vs.toArray e) ∈ news) (hI : IntsAre vs ns) (h64 : ns.length < 64)
    (h : ∀ D h' vs' ns' e', Fr h₀ L h' m → News h₀ L h' ((D, listOf (List.toArray vs') e') :: news) → (∀ p ∈ news, p.1 ≠ D) → IntsAre vs' ns' → ns'.Perm ns → ns'.Pairwise (· ≤ ·) → Q (.ref D) ⟨h', gs, dr, tk₀, oo⟩) :
    wpAny (model prog w) A (call (.builtin "sorted") [.ref l]) Q E ⟨hp, gs, dr, tk₀, oo⟩ :=
  sorted_N (s := ⟨hp, gs, dr, tk₀, oo⟩) F N (N.isList hm) hI (by rw [hI.length]; exact h64) fun h' vs' ns' e' F' N' a b c => h _ h' vs' ns' e' F' N' (fun p hp' q => by
    have h1 : p.1 < hp.objs.size := Heap.lt_size (N p hp').1
    have q' : p.1 = hp.objs.size + 1 := q
    rw [q'] at h1; exact absurd h1 (by show ¬ hp.objs.size + 1 < hp.objs.size; exact zq450)) a b c
theorem gaps_call {l : Addr} {vs : List Value} {S : List Int} {e : Nat} (c : Cx (n + 2) w A h₀ L) (F : Fr h₀ L hp m) (N : News h₀ L hp news) (hm : (l, listOf vs.toArray e) ∈ news) (hI : IntsAre vs S) (h1 : 1 ≤ S.length) (h64 : S.length < 64)
    (post : ∀ h' tk D ts ys row, Fr h₀ L h' m → News h₀ L h' ((D, listOf (List.toArray ys) ys.length) :: (ts ++ news)) → (∀ p ∈ ts ++ news, p.1 ≠ D) → Tups ts → row.Perm S → row.Pairwise (· ≤ ·) → Rel2 (PI ts) ys (gapsOf row) → tk₀ ≤ tk → R (.ok (.ret (.ref D))) ⟨h', gs, dr, tk, oo⟩) :
    codeAny (model prog w) A (.call (.ref 123) ⟨[.ref l], []⟩) R ⟨hp, gs, dr, tk₀, oo⟩ := by
  refine c.call F N (f := 123) (binds := [(Str.ofString "spots", .ref l)]) (nb := 1) (ho := rfl) (hcd := rfl) (BindsTo.of_eq rfl) (locs rfl) ?_ rfl rfl rfl rfl (by decide)
  clear F N c
  intro g L' h₁ m' hm' c' F' N'
  have k1 : m' (Str.ofString "spots") = some (.ref l) := (hm' _).trans rfl
  clear hm'
  repeat kt_at_item
  refine sortedI F' N' hm hI h64 ?_
  intro D1 h2 vs' row e' F2 N2 hD1 hI' hP hS
  have hlr : row.length = S.length := hP.length_eq
  have hlv : vs'.length = row.length := hI'.length
  repeat kt_at_item
  refine compE (cl := []) (by with_unfolding_all rfl) (by rfl) (by decide) (by intro _; with_unfolding_all rfl) ?_
  repeat kt_at_item
  refine slcFrom ?_
  repeat kt_at_item
  refine dropN1 (vs := vs') (by assumption) (by assumption) (News.isList (by assumption) (.head _)) (by exact zq460 h1 h64 hlr hlv) (by exact zq461 h1 h64 hlr hlv) ?_ (by with_unfolding_all rfl) (by intro _; with_unfolding_all rfl)
  intro D2 h4 F4 N4 hD2
  repeat kt_at_item
  refine itemN0 (vs := vs') (by assumption) (.tail _ (.head _)) (by exact zq462 h1 h64 hlr hlv) (by exact zq460 h1 h64 hlr hlv) ?_ (by with_unfolding_all rfl) (by intro _; with_unfolding_all rfl)
  obtain ⟨t0, et0⟩ := intsAt hI' (i := 0) (by exact zq463 h1 h64 hlr hlv)
  rw [et0]
  repeat kt_at_item
  refine listN (by assumption) (by assumption) (by show 1 < 1000; decide) ?_
  intro D3 h5 F5 N5 hD3
  repeat kt_at_item
  refine addN (vs := vs'.drop 1) F5 N5 (N5.isList (.tail _ (.head _))) (N5.isList (.head _)) (by simp; exact zq464 h1 h64 hlr hlv) ?_
  intro D4 h6 F6 N6 hD4
  repeat kt_at_item
  refine zipLists F6 N6 (.tail _ (.tail _ (.tail _ (.head _)))) (.head _) ?_
  intro z TI TO i1 i2 o1 o2 h7 F7 N7 Z7 q1 q2
  refine zipSelf N7 ?_
  have hI2 : IntsAre (vs'.drop 1 ++ [Value.int (row.getD 0 0 + 1024) (tk₀ + 1 + 1 + 1 + 1 + 1)]) (row.drop 1 ++ [row.getD 0 0 + 1024]) := (hI'.drop 1).append (.cons _ _ .nil)
  refine zipPairs (x := fun i t => .int (row.getD i 0 - (row.drop 1 ++ [row.getD 0 0 + 1024]).getD i 0) t) c'.hh F7 N7 Z7 q1 q2 (.tail _ (.tail _ (.tail _ (.head _)))) (.head _) (by simp; exact zq465 h1 h64 hlr hlv) (by exact zq466 h1 h64 hlr hlv) ?_ (by decide) rfl rfl rfl (by decide) (by decide) (by decide) ?_
  · intro i hi A s Q E h
    obtain ⟨ta, ea⟩ := intsAt hI' (i := i) (by exact zq467 hlv hi)
    obtain ⟨tb, eb⟩ := intsAt hI2 (i := i) (by simp; exact zq468 h1 h64 hlr hlv hi)
    rw [ea]
    refine Eq.mpr (congrArg (fun v => wpAny (model prog w) A (binaryOp .Sub _ v) Q E s) eb) ?_
    obtain ⟨sh, sg, sd, st, so⟩ := s
    exact iSub h
  · intro C D oC mc h8 tk8 ts ys τ F8 N8 hn hCD hC hD hT hyl hys hτ hmono htk
    refine compEndE F8 N8 hn (List.forall_mem_cons.mpr ⟨Ne.symm hCD, hC⟩) fun h9 F9 N9 => ?_
    refine leaveK_ F9 (nsub N9 (news' := (D, listOf ys.toArray ys.length) :: (ts ++ news)) (by lcg_sub)) fun F10 N10 => ?_
    refine post _ _ D ts ys row F10 N10 (fun p hp => hD p ?_) hT hP hS ⟨?_, ?_⟩ ?_
    · revert p; lcg_sub
    · rw [hyl, hlv, gapsOf_length _ (by exact zq469 h1 h64 hlr hlv hyl)]
    · intro i hi
      rw [gapsOf_length _ (by exact zq469 h1 h64 hlr hlv hyl)] at hi
      obtain ⟨T, e1, e2⟩ := hys i (by exact zq470 hlv hyl hi)
      obtain ⟨ta, ea⟩ := intsAt hI' (i := i) (by omega)
      rw [gapsOf_get hi]
      rw [ea] at e2
      exact ⟨T, τ i, ta, e1, e2⟩
    · have : tk₀ + 1 + 1 + 1 + 1 + 1 + 1 ≤ tk8 := htk
      exact zq471 this
end

-- calls of a def with cells; a try whose own frame raises
theorem len_li {prog : Program} {w : World} {A : Around} {E : Value → Shared → Prop} {Q : Value → Shared → Prop} {s : Shared} {I l : Addr} {i : Nat} {o : Obj} (hh : A.handled = none) (hI : s.heap.get? I = some o) (ho : LI o l i)
    (h : ∀ h' tk e, Heap.NewExc s.heap h' e "TypeError" → E (.ref e) { s with heap := h', toks := tk }) : wpAny (model prog w) A (call (.builtin "len") [.ref I]) Q E s := by
  have hT : s.TypeIs (.ref I) "list_iterator" := ⟨_, hI, ho.1⟩
  refine Calls.call_function_entry kind_len plain_len entry_len (args_len1 _) ?_
  unfold Builtin.«len»
  refine wpAny_bind (m := oneArg "len" _) (wpAny_pure ?_)
  refine wpAny_bind (m := callSpecial? (.ref I) (Str.ofString "__len__")) (wpAny_callSpecial?_none hT PySem.F.nolen_li ?_)
  refine wpAny_bind (wpAny_rule ?_)
  refine wpAny_bind (wpAny_typeNameOf' hT (by decide) ?_)
  exact wpAny_raiseTypeError hh h
theorem sTry {prog : Program} {w : World} {A : Around} {E : Value → Shared → Prop} {s : Shared} {env : Env} {Q : Flow → Shared → Prop} {body orelse rest : List Stmt} {h₀ : ExceptHandler} {hs : List ExceptHandler} {pos : Pos}
    (h : wpAny (model prog w) A (execs body env) (fun f s₁ => match f with | .next => wpAny (model prog w) A (execs orelse env) (Sq (model prog w) A rest env Q E) E s₁ | f => Sq (model prog w) A rest env Q E f s₁)
      (fun e s₁ => wpAny (model prog w) A (noteFrame e env) (fun _ s₂ => wpAny (model prog w) A (setFlight e none) (fun _ s₃ => wpAny (model prog w) A (handleBy e env (h₀ :: hs)) (Sq (model prog w) A rest env Q E) E s₃) E s₂) E s₁) s) :
    wpAny (model prog w) A (execs (.Try body (h₀ :: hs) orelse [] pos :: rest) env) Q E s := sq (wpAny_Try_except h)
theorem caught_own {prog : Program} {w : World} {A : Around} {base g h : Heap} {outer : List Env} {L e : Addr} {m : Str → Option Value} {env : Env} {news : List (Addr × Obj)} {s' : Shared} {b₀ : Stmt} {suite : List Stmt} {rest : List ExceptHandler} {Q : Flow → Shared → Prop} {tt : Expr} {pos : Pos}
    (hf : env.frame = some L) (hk : env.scope.kind = .function) (K : Below A base outer g) (F : Fr g L h m) (N : News g L h news) (hx : Heap.NewExc h s'.heap e "TypeError")
    (test : ∀ (g₅ : Heap) (Q : Bool → Shared → Prop) (s : Shared), Below A base outer g₅ → Fr g₅ L s.heap m → Looks (model prog w) s.heap (typeOf (.ref e)) (.type "TypeError") → (∀ h' tk, (∀ q o, s.heap.get? q = some o → h'.get? q = some o) → Q true { s with heap := h', toks := tk }) →
      wpAny (model prog w) ((A.deeper env).mark (some (.ref e))) (eval tt env) (fun c s₁ => wpAny (model prog w) ((A.deeper env).mark (some (.ref e))) (excMatches (.ref e) c) Q (fun _ _ => False) s₁) (fun _ _ => False) s)
    (k : ∀ h' g' tk, KtsTurn (outer.filterMap (·.frame)) g g' → Fr g' L h' m → News g' L h' news → Below A base outer g' →
      wpAny (model prog w) ((A.deeper env).mark (some (.ref e))) (execs (b₀ :: suite) env) Q (fun _ _ => False) { s' with heap := h', toks := tk }) :
    wpAny (model prog w) (A.deeper env) (noteFrame (.ref e) env) (fun _ s₂ => wpAny (model prog w) (A.deeper env) (setFlight (.ref e) none) (fun _ s₃ =>
      wpAny (model prog w) (A.deeper env) (handleBy (.ref e) env (.ExceptHandler (some tt) none (b₀ :: suite) pos :: rest)) Q (fun _ _ => False) s₃) (fun _ _ => False) s₂) (fun _ _ => False) s' := by
  have K' := pushX K F hf hk
  have hfr : (env :: outer).filterMap (·.frame) = L :: outer.filterMap (·.frame) := by simp [hf]
  have hin : ∀ env' ∈ (env :: outer), ∀ b, env'.frame = some b → b ∈ (env :: outer).filterMap (·.frame) := fun env' he b hb => List.mem_filterMap.mpr ⟨env', he, hb⟩
  have hBG : ∀ b o, h.get? b = some o → b ∉ (envOf env.qual env.scope L 0 .none :: outer).filterMap (·.frame) → (hideAll h ((env :: outer).filterMap (·.frame))).get? b = some o := fun b o q nm => hideAll_get _ q (by rw [hfr]; exact nm)
  obtain ⟨ob, tp, he, hcls, hd⟩ := hx.there
  have hen : (hideAll h ((env :: outer).filterMap (·.frame))).get? e = none := by
    cases q : (hideAll h ((env :: outer).filterMap (·.frame))).get? e with
    | none => rfl
    | some o => have := of_hideAll _ q; rw [hx.new] at this; cases this
  have hsm : h.UpToSlots s'.heap := .of_keeps hx.keeps
  unfold noteFrame
  simp only [hf]
  refine wpAny_bind (wpAny_field he hd (x := .none) rfl ?_)
  rw [if_neg (by decide)]
  refine wpAny_entryW (a0 := tp) K'.stack ((funFrames_hide K'.frames hin).of_keeps fun b o hb _ => ⟨o, hx.keeps b o hb, rfl⟩) hf he (fun b o hb => hx.keeps b o (of_hideAll _ hb)) hen hd (by show 1 < 6; decide) rfl fun h₄ hN => ?_
  rw [hcls] at hN
  obtain ⟨k1, k2, k3, k4⟩ := hN
  refine wpAny_landsW (show Heap.HeldW _ _ _ _ _ L h₄ from ⟨k1, hen, k2, k3⟩) fun h₅ hfl hsm5 => ?_
  have hsm₅ := hsm.trans (Heap.UpToSlots.trans k4 hsm5)
  obtain ⟨g₅, T₅, F₅, K₅⟩ := kts_ground K F hBG hfl.1 hsm₅
  refine wpAny_handleBy_cons (codeAny_handlers_test (wpAny_mono (test g₅ _ _ K₅ F₅ ?_ ?_) (fun c s₁ hc => wpAny_mono hc (fun _ _ x => x) fun _ _ x => x.elim) fun _ _ x => x.elim)) (by intro q; cases q)
  · obtain ⟨ob, hob, hc⟩ := hfl.there
    rw [← hc]
    exact (Looks.ld hob).andThen .now
  intro h₆ tk kp
  have hfl₆ := flying_keeps hfl kp
  have hsm₆ := hsm₅.trans (Heap.UpToSlots.of_keeps kp)
  have hLn : (hideAll h ((env :: outer).filterMap (·.frame))).get? L = none := by
    obtain ⟨_, ⟨L', _, hf', hn', _⟩, _⟩ := hfl₆.2.2.1
    obtain rfl : L = L' := Option.some.inj (hf.symm.trans hf')
    exact hn'
  refine codeAny_handlers_suite ?_
  refine wpAny_mono (?_ : wpAny _ _ _ _ (fun _ _ => False) _) (fun _ _ x => x) fun _ _ x => x.elim
  refine lands_againW hfl₆ fun h₇ hfl₇ hsm₇ => ?_
  obtain ⟨g₇, T₇, F₇, K₇⟩ := kts_ground K F hBG hfl₇.1 (hsm₆.trans hsm₇)
  refine wpAny_mono (k h₇ g₇ tk T₇ F₇ (fun q hq => ?_) K₇) (fun _ _ x => x) fun _ _ x => x.elim
  have n1 := N q hq
  refine ⟨hfl₇.1 _ _ (hBG _ _ n1.1 fun hm => ?_), n1.2.1, T₇.none_ _ n1.2.2⟩
  rcases kts_mem hm with z | z
  · exact n1.2.1 z
  · obtain ⟨_, o, ho, _⟩ := K.frames.mem z
    rw [n1.2.2] at ho; cases ho

theorem Cx.callC {n : Nat} {prog : Program} {w : World} {A : Around} {h₀ : Heap} {L : Addr} {hp : Heap} {gs : Array GenState} {dr : Drawn} {tk₀ : Nat} {oo : OsState} {m : Str → Option Value} {news : List (Addr × Obj)}
    {R : Result → Shared → Prop} {name qual : Str} {params : Arguments} {body : List Stmt} {scope : Scope} {dV kV doc pm cdv ct oc : Value} {an od : Option Addr} {osl : Array (Option Value)} {f : Addr} {args : Args} {binds : List (Str × Value)} {nc : Str}
    (c : Cx (n + 1) w A h₀ L) (F : Fr h₀ L hp m) (N : News h₀ L hp news)
    (ho : (KH w.params).lookup f = some ⟨oc, od, .func (fnOf name qual params body scope dV kV doc pm an cdv ct), osl⟩) (hcd : codeIn (KH w.params) cdv qual = true)
    (hbind : BindsTo ⟨hp, gs, dr, tk₀, oo⟩ (fnOf name qual params body scope dV kV doc pm an cdv ct) args binds)
    (hkind : (binds.all fun y => scope.names.lookup y.1 == some .local || scope.names.lookup y.1 == some .cell) = true) (hone : ∀ k, cellsFrom k scope.names [] = [(nc, k)])
    (h : ∀ g L' h₁ m' tk cc oc, (∀ y, m' y = bindL (envOfC qual scope L' f cdv).kindOf binds (fun _ => none) y) → oc.data = .cell (bindC (envOfC qual scope L' f cdv).kindOf binds (fun _ => none) nc) → (envOfC qual scope L' f cdv).cells.lookup nc = some cc →
      Cx n w (A.deeper (envOfC qual scope L' f cdv)) g L' → Fr g L' h₁ m' → News g L' h₁ ((cc, oc) :: news) → (∀ p ∈ news, p.1 ≠ cc) →
      wpAny (model prog w) (A.deeper (envOfC qual scope L' f cdv)) (execs body (envOfC qual scope L' f cdv))
        (fun fl s' => LeaveK h₀ L m g R (match fl with | .ret v => v | _ => .none) s') (fun _ _ => False)
        ⟨h₁, gs, dr, tk, oo⟩)
    (hco : scope.isCoroutine = false) (hgen : scope.isGenerator = false) (hk : scope.kind = .function) :
    codeAny (model prog w) A (.call (.ref f) args) R ⟨hp, gs, dr, tk₀, oo⟩ := by
  obtain ⟨loose, mean, mg, mb, T⟩ := c.T
  obtain ⟨A₀, base, outer, env, B, hA, hf, hke⟩ := c.B
  refine code_defC B F c.X N T hA hf hke ho hcd (by have := c.dep; exact zq0 this) hbind hkind ?_ ?_ hco hgen hk
  · rw [hone]; simp
  intro g L' h₁ tk cells FG F' N' Y B' X' T' hlt
  rw [hone] at Y
  obtain ⟨o, rfl, hd⟩ := Y.one
  have hcl : (envOfC qual scope L' f cdv).cells = [(nc, L' + 1)] := hone (L' + 1)
  refine wpAny_mono (h g L' h₁ _ tk (L' + 1) o (fun _ => rfl) hd (by rw [hcl]; simp) ⟨X', ⟨_, _, _, _, T'⟩, ⟨_, _, _, envOfC qual scope L' f cdv, B', ?_, rfl, hk⟩, c.hh, ?_, ?_⟩ F' N' (fun p hp => Nat.ne_of_lt (Nat.lt_succ_of_lt (hlt p hp)))) (fun _ _ x => x) (fun _ _ x => x.elim)
  · show A.frames.map _ = _
    rw [hA]; rfl
  · have := c.dep; show A.depth + 1 + n < _; exact zq1 this
  · have := c.uni; show A.units + 3 + 20 * n < _; exact zq2 this

-- the same, where the frames below may be touched by an exception that the def itself catches; the caller stands on no other def
structure CxT (n : Nat) (w : World) (A A₀ : Around) (base h₀ : Heap) (L : Addr) (env : Env) : Prop where
  c : Cx n w A h₀ L
  B : Below A₀ base [] h₀
  hA : A.frames = some [env]
  hf : env.frame = some L
  hk : env.scope.kind = .function
  XB : (KH w.params).In base
  TB : ∃ loose mean mg mb, Top vw loose mean mg mb base
theorem Cx.ofBelow {n : Nat} {w : World} {A : Around} {base g : Heap} {L' : Addr} {env env' : Env} (K : Below A base [env] g) (XB : (KH w.params).In base) (TB : ∃ loose mean mg mb, Top vw loose mean mg mb base) (hf : env'.frame = some L') (hk : env'.scope.kind = .function)
    (hh : A.handled = none) (dep : A.depth + 1 + n < recursionLimit) (uni : A.units + 3 + 20 * n < cLine) : Cx n w (A.deeper env') g L' := by
  obtain ⟨loose, mean, mg, mb, T⟩ := TB
  refine ⟨XB.keeps K.stays, ⟨_, _, _, _, T.keeps K.stays⟩, ⟨_, _, _, env', K, ?_, hf, hk⟩, hh, dep, uni⟩
  show A.frames.map _ = _
  rw [K.stack]; rfl
theorem CxT.callT {n : Nat} {prog : Program} {w : World} {A A₀ : Around} {base h₀ : Heap} {L : Addr} {env : Env} {hp : Heap} {gs : Array GenState} {dr : Drawn} {tk₀ : Nat} {oo : OsState} {m : Str → Option Value} {news : List (Addr × Obj)}
    {R : Result → Shared → Prop} {name qual : Str} {params : Arguments} {body : List Stmt} {scope : Scope} {dV kV doc pm cdv ct oc : Value} {an od : Option Addr} {osl : Array (Option Value)} {f : Addr} {args : Args} {binds : List (Str × Value)} {nc : Str}
    (c : CxT (n + 1) w A A₀ base h₀ L env) (F : Fr h₀ L hp m) (N : News h₀ L hp news)
    (ho : (KH w.params).lookup f = some ⟨oc, od, .func (fnOf name qual params body scope dV kV doc pm an cdv ct), osl⟩) (hcd : codeIn (KH w.params) cdv qual = true)
    (hbind : BindsTo ⟨hp, gs, dr, tk₀, oo⟩ (fnOf name qual params body scope dV kV doc pm an cdv ct) args binds)
    (hkind : (binds.all fun y => scope.names.lookup y.1 == some .local || scope.names.lookup y.1 == some .cell) = true) (hone : ∀ k, cellsFrom k scope.names [] = [(nc, k)])
    (h : ∀ g L' h₁ m' tk cc oc, (∀ y, m' y = bindL (envOfC qual scope L' f cdv).kindOf binds (fun _ => none) y) → oc.data = .cell (bindC (envOfC qual scope L' f cdv).kindOf binds (fun _ => none) nc) → (envOfC qual scope L' f cdv).cells.lookup nc = some cc →
      Below A base [env] g → Fr g L' h₁ m' → News g L' h₁ ((cc, oc) :: news) → (∀ p ∈ news, p.1 ≠ cc) →
      wpAny (model prog w) (A.deeper (envOfC qual scope L' f cdv)) (execs body (envOfC qual scope L' f cdv))
        (fun fl s' => LeaveS0 [L] h₀ L m g R (match fl with | .ret v => v | _ => .none) s') (fun _ _ => False)
        ⟨h₁, gs, dr, tk, oo⟩)
    (hco : scope.isCoroutine = false) (hgen : scope.isGenerator = false) (hk : scope.kind = .function) :
    codeAny (model prog w) A (.call (.ref f) args) R ⟨hp, gs, dr, tk₀, oo⟩ := by
  have X := c.c.X.keeps F.keep
  obtain ⟨loose, mean, mg, mb, T⟩ := c.c.T
  obtain ⟨FG, BG, st, _⟩ := groundX (s := ⟨hp, gs, dr, tk₀, oo⟩) (R := R) c.B F N c.hA c.hf c.hk
  refine codeAny_call_function (by have := c.c.dep; exact zq0 this) (X _ _ ho) rfl hco hgen rfl (codeRec_of X hcd) (hbind _ _ _ _ ?_)
  refine wpAny_newFunctionEnv_cells hk (kindsX hkind _) fun env' he s' x => ?_
  subst he
  refine ⟨(T.nolimit.keeps F.keep).keeps x.toInCall.keep, codeAny_func ?_⟩
  obtain ⟨h₁, tk, rfl, _⟩ := x.done
  have hk₁ := x.toInCall.keep
  obtain ⟨cells, NC, Y⟩ := Cl.news (h₀ := hp) (Nat.le_refl _) fun n c hm => ⟨x.cell n c (lookup_of_mem_nodup (cs := cellsFrom (hp.objs.size + 1) scope.names []) (by rw [hone]; simp) hm), x.above n c hm⟩
  rw [hone] at Y
  obtain ⟨o, rfl, hd⟩ := Y.one
  have hcl : (envOfC qual scope hp.objs.size f cdv).cells = [(nc, hp.objs.size + 1)] := hone (hp.objs.size + 1)
  have fresh : ∀ b, hp.objs.size ≤ b → (hideAll hp (news.map (·.1))).get? b = none := fun b hb => by
    cases q : (hideAll hp (news.map (·.1))).get? b with
    | none => rfl
    | some o => exact absurd (Heap.lt_size (of_hideAll _ q)) (Nat.not_lt.mpr hb)
  have N₁ : News (hideAll hp (news.map (·.1))) hp.objs.size h₁ ((hp.objs.size + 1, o) :: news) := by
    intro p hp'
    rcases List.mem_cons.mp hp' with rfl | hp'
    · exact ⟨(NC _ (.head _)).1, (NC _ (.head _)).2.1, fresh _ (Nat.le_succ _)⟩
    · exact ⟨hk₁ _ _ (N p hp').1, Nat.ne_of_lt (Heap.lt_size (N p hp').1), hideAll_none _ (List.mem_map_of_mem hp')⟩
  refine wpAny_mono (h _ hp.objs.size h₁ _ tk (hp.objs.size + 1) o (fun _ => rfl) hd (by rw [hcl]; simp) BG ⟨x.toInCall.ns, fun b o e => hk₁ b o (of_hideAll _ e), Nat.le_of_eq (hideAll_size _ _)⟩ N₁ (fun p hp => Nat.ne_of_lt (Nat.lt_succ_of_lt (Heap.lt_size (N p hp).1)))) (fun fl s' hl => ?_) (fun _ _ x => x.elim)
  obtain ⟨g', L', m', news', T', F', N', k⟩ := hl
  have nL₀ : h₀.get? L = none := kts_self F
  obtain ⟨oL, es, ep, hL, hLd, hLk, hLf⟩ := FG.ns
  obtain ⟨sl, hs⟩ := T'.up hL
  refine k ⟨⟨_, es, ep, F'.keep _ _ hs, hLd, hLk, hLf⟩, fun b o e => F'.keep b o (T'.other b o (st b o e) (fun q => ?_)), F.above⟩ fun p hp => ⟨(N' p hp).1, fun q => ?_, ?_⟩
  · obtain rfl : b = L := by simpa using q
    rw [nL₀] at e; cases e
  · have := (N' p hp).2.2; rw [q, hs] at this; cases this
  · cases q : h₀.get? p.1 with
    | none => rfl
    | some o =>
      obtain ⟨sl', hs'⟩ := T'.up (st _ _ q)
      have := (N' p hp).2.2
      rw [hs'] at this
      cases this

open PyProof.Rows.LCg (NsObj ns_obj)
section
variable {prog : Program} {w : World} {A : Around} {E : Value → Shared → Prop} {hp : Heap} {gs : Array GenState} {dr : Drawn} {tk₀ : Nat} {oo : OsState} {h₀ : Heap} {L : Addr} {m : Str → Option Value} {news : List (Addr × Obj)} {env : Env} {vs : List Value}
inductive ZrI (h₀ : Heap) (L z TI TO i1 it C D l : Addr) (m : Str → Option Value) (nw : List (Addr × Obj)) (P : Nat → Value → List (Addr × Obj) → Nat → Nat → Prop) (tk₀ n k : Nat) (h' : Heap) (tk : Nat) : Prop
  | mk (i : Nat) (ys : List Value) (oC : Obj) (mc : Str → Option Value) (ts : List (Addr × Obj)) (lo hi : Nat → Nat) (va vb : Value) (o2 : Obj) (hki : k + i = n) (F : Fr h₀ L h' m)
    (N : News h₀ L h' (zl z TI TO i1 it .none va vb (riO i ((n : Int) - i) 1) o2 ((C, oC) :: (D, listOf ys.toArray ys.length) :: (ts ++ nw)))) (Z : Zd z TI TO i1 it ((C, oC) :: (D, listOf ys.toArray ys.length) :: (ts ++ nw)))
    (hLI : LI o2 l i) (hn : NsObj oC mc) (oC1 : ∀ p ∈ ts ++ nw, p.1 ≠ C) (oD1 : ∀ p ∈ ts ++ nw, p.1 ≠ D) (T : Tr P tk₀ i ys ts lo hi tk) : ZrI h₀ L z TI TO i1 it C D l m nw P tk₀ n k h' tk
theorem ri_next (i n : Nat) : riO ((i : Int) + 1) ((n : Int) - i - 1) 1 = riO ((i + 1 : Nat) : Int) ((n : Int) - ((i + 1 : Nat) : Int)) 1 := by
  rw [show ((i + 1 : Nat) : Int) = (i : Int) + 1 by exact zq581, show (n : Int) - ((i : Int) + 1) = (n : Int) - i - 1 by exact zq753]
theorem zipRng {use : Option (Value → Sem Unit)} {Q : Value → Shared → Prop} {a b : Str} {pa pb tp pos : Pos} {kk : Nat} {elt iter : Expr} {scope : Scope} {cl : List (Str × Addr)} {z TI TO i1 it l : Addr} {oi : Obj} {e1 : Nat} {n : Nat} {P : Nat → List Value → Nat → Nat → Prop}
    (hh : A.handled = none) (F : Fr h₀ L hp m) (N : News h₀ L hp (zl z TI TO i1 it .none .none .none (riO 0 n 1) oi news)) (Z : Zd z TI TO i1 it news) (hI : LI oi l 0) (hm1 : (l, listOf vs.toArray e1) ∈ news) (hn : n ≤ vs.length) (hb : n < 900)
    (el : ∀ i, i < n → ∀ (h' : Heap) (tk t : Nat) (C : Addr) (oC : Obj) (mc : Str → Option Value) (nw : List (Addr × Obj)) (Q : Value → Shared → Prop), Fr h₀ L h' m → News h₀ L h' nw → (C, oC) ∈ nw → (∀ p ∈ news, p ∈ nw) → NsObj oC mc → mc a = some (.int (i : Int) t) → mc b = some (vs.getD i .none) → 1 ≤ tk → tk₀ ≤ tk →
      (∀ U xs h'' tk'', Fr h₀ L h'' m → News h₀ L h'' ((U, tupO xs) :: nw) → (∀ p ∈ nw, p.1 ≠ U) → P i xs tk tk'' → tk ≤ tk'' → Q (.ref U) ⟨h'', gs, dr, tk'', oo⟩) →
      wpAny (model prog w) A (eval elt (compEnvC scope cl C env)) Q (fun _ _ => False) ⟨h', gs, dr, tk, oo⟩)
    (hcell : ∀ y ∈ scope.names, y.2 ≠ .cell) (hkind : scope.kind = .function) (hxa : scope.names.lookup a = some .local) (hxb : scope.names.lookup b = some .local) (hab : a ≠ b)
    (post : ∀ C D oC mc h' tk ts (ys : List Value) (lo hi : Nat → Nat) oi', Fr h₀ L h' m → News h₀ L h' ((C, oC) :: (D, listOf ys.toArray ys.length) :: (it, oi') :: (ts ++ news)) → NsObj oC mc → LI oi' l n → C ≠ D → C ≠ it → D ≠ it → (∀ p ∈ ts ++ news, p.1 ≠ C) → (∀ p ∈ ts ++ news, p.1 ≠ D) → (∀ p ∈ ts ++ news, p.1 ≠ it) → Tups ts → ys.length = n →
      (∀ i, i < n → ∃ T xs, ys.getD i .none = .ref T ∧ (T, tupO xs) ∈ ts ∧ P i xs (lo i) (hi i)) → (∀ i, i < n → tk₀ ≤ lo i ∧ 1 ≤ lo i ∧ hi i ≤ tk) → (∀ i j, i < j → j < n → hi i ≤ lo j) → tk₀ ≤ tk →
      compPost (model prog w) A E use Q (.ref D) C (.ok .next) ⟨h', gs, dr, tk, oo⟩) :
    CompB prog w A env elt (.Tuple [.Name a pa, .Name b pb] kk tp) iter scope cl pos use E Q (.ref z) ⟨hp, gs, dr, tk₀, oo⟩ := by
  refine compB F N hcell hkind (fun s' hs Q E h => wpAny_pyIter_zip (hs _ _ (N _ (.head _)).1) h) fun C D oC h₁ F₁ N₁ hC hCD hnC hnD => ?_
  have hsub5 : ∀ p ∈ news, p ∈ zl z TI TO i1 it .none .none .none (riO 0 n 1) oi news := fun p hp => .tail _ (.tail _ (.tail _ (.tail _ (.tail _ hp))))
  have dC : C ≠ z ∧ C ≠ TI ∧ C ≠ TO ∧ C ≠ i1 ∧ C ≠ it := ⟨Ne.symm (hnC _ (.head _)), Ne.symm (hnC _ (.tail _ (.head _))), Ne.symm (hnC _ (.tail _ (.tail _ (.head _)))), Ne.symm (hnC _ (.tail _ (.tail _ (.tail _ (.head _))))), Ne.symm (hnC _ (.tail _ (.tail _ (.tail _ (.tail _ (.head _))))))⟩
  have dD : D ≠ z ∧ D ≠ TI ∧ D ≠ TO ∧ D ≠ i1 ∧ D ≠ it := ⟨Ne.symm (hnD _ (.head _)), Ne.symm (hnD _ (.tail _ (.head _))), Ne.symm (hnD _ (.tail _ (.tail _ (.head _)))), Ne.symm (hnD _ (.tail _ (.tail _ (.tail _ (.head _))))), Ne.symm (hnD _ (.tail _ (.tail _ (.tail _ (.tail _ (.head _))))))⟩
  refine compLI (ZrI h₀ L z TI TO i1 it C D l m news (fun i v ts lo hi => 1 ≤ lo ∧ ∃ T xs, v = .ref T ∧ (T, tupO xs) ∈ ts ∧ P i xs lo hi) tk₀ n) ?_ n
    ⟨0, [], oC, _, [], _, _, .none, .none, oi, rfl, F₁, ?_, (Z.add (q := (D, _)) dD.1 dD.2.1 dD.2.2.1 dD.2.2.2.1 dD.2.2.2.2).add dC.1 dC.2.1 dC.2.2.1 dC.2.2.2.1 dC.2.2.2.2, hI, hC, fun p hp => hnC p (hsub5 p hp), fun p hp => hnD p (hsub5 p hp), .nil⟩
  rotate_left
  · have e : riO ((0 : Nat) : Int) ((n : Int) - ((0 : Nat) : Int)) 1 = riO 0 n 1 := by simp
    rw [e]
    exact nsub N₁ (by lcg_sub)
  clear F₁ N₁ hC hnC hnD hsub5 N F Z hI
  rintro k h' tk B Y hB hY ⟨i, ys, oC, mc, ts, lo, hi, va, vb, o2, hki, F', N', Z', l2', hn', oC1, oD1, T⟩
  by_cases hi' : i < n
  · have hiv := Nat.lt_of_lt_of_le hi' hn
    refine zipNextN (dp1 := []) (dp2 := [(l, listOf vs.toArray e1)]) F' N' Z' (fun p hp => nomatch hp) (mem1 hm1) (drawI_range (by exact zq827 hki hi')) (drawI_list l2' hiv) ?_
    clear F' N'
    intro U0 h2 o1' o2' F2 N2 q1 q2 Z2 hT2
    have er := q1.trans (ri_next i n)
    clear q1
    subst er
    generalize hv : vs.getD i .none = v at *
    generalize hro : riO ((i + 1 : Nat) : Int) ((n : Int) - ((i + 1 : Nat) : Int)) 1 = ro at *
    refine zipGoN (rest := (U0, tupO [.int (i : Int) tk, v]) :: (TI, tupO [.ref i1, .ref it]) :: (TO, tupO [.int (i : Int) tk, v]) :: (i1, ro) :: (it, o2') :: (C, oC) :: (D, listOf ys.toArray ys.length) :: (ts ++ news)) F2 (nsub N2 (by lcg_sub)) ?_ ?_
    · exact List.forall_mem_cons.mpr ⟨Z2.nz (U0, _) (.head _), List.forall_mem_cons.mpr ⟨Z2.TIz, List.forall_mem_cons.mpr ⟨Z2.TOz, List.forall_mem_cons.mpr ⟨Z2.i1z, List.forall_mem_cons.mpr ⟨Z2.i2z, Z'.nz⟩⟩⟩⟩⟩
    clear F2 N2 hT2
    intro h3 F3 N3
    refine unpackC (vs := [.int (i : Int) tk, v]) hh F3 N3 (.tail _ (.head _)) rfl rfl ?_
    clear F3 N3
    intro h4 F4 N4
    have nC : ∀ p ∈ zl z TI TO i1 it .none (.int (i : Int) tk) v ro o2' ((D, listOf ys.toArray ys.length) :: (ts ++ news)), p.1 ≠ C := five dC (List.forall_mem_cons.mpr ⟨Ne.symm hCD, oC1⟩)
    show wpAny _ _ (assignInOrder [assign (.Name a pa) (compEnvC scope cl C env), assign (.Name b pb) (compEnvC scope cl C env)] [_, _]) _ _ _
    refine assignInOrder_cons (PyProof.Rows.assign_Name (stC hxa hkind F4 (nsub N4 (news' := (C, oC) :: zl z TI TO i1 it .none (.int (i : Int) tk) v ro o2' ((D, listOf ys.toArray ys.length) :: (ts ++ news))) (by lcg_sub)) nC hn' ?_))
    clear F4 N4
    intro h5 oC5 F5 N5 hn5
    refine assignInOrder_cons (PyProof.Rows.assign_Name (stC hxb hkind F5 N5 nC hn5 ?_))
    clear F5 N5
    intro h6 oC6 F6 N6 hn6
    refine assignInOrder_nil ?_
    refine el i hi' _ _ _ C oC6 _ _ _ F6 N6 (.head _) (fun p hp => .tail _ (.tail _ (.tail _ (.tail _ (.tail _ (.tail _ (.tail _ (List.mem_append_right _ hp)))))))) hn6 ((if_neg hab).trans (if_pos rfl)) ((if_pos rfl).trans (congrArg some hv.symm)) (Nat.succ_le_succ (Nat.zero_le _)) (Nat.le_add_right_of_le (k := 3) T.tok) ?_
    clear F6 N6 nC
    intro U xs h7 tk7 F7 N7 hU hP htk7
    refine appendN F7 (nsub N7 (news' := (D, listOf ys.toArray ys.length) :: (U, tupO xs) :: zl z TI TO i1 it .none (.int (i : Int) tk) v ro o2' ((C, oC6) :: (ts ++ news))) (by lcg_sub)) ?_ (Nat.lt_trans (T.len ▸ hi') (Nat.lt_trans hb (by decide))) ?_
    · exact List.forall_mem_cons.mpr ⟨Ne.symm (hU (D, listOf ys.toArray ys.length) (by kt_ors)), five dD (List.forall_mem_cons.mpr ⟨hCD, oD1⟩)⟩
    clear F7 N7
    intro h8 F8 N8
    subst hro
    refine hB (k - 1) (cl_k hki hi').1 ⟨i + 1, ys ++ [.ref U], oC6, _, [(U, tupO xs)] ++ ts, _, _, .int (i : Int) tk, v, o2', (cl_k hki hi').2, F8, ?_, ?_, q2, hn6, ?_, ?_, T.push (fun j v ts us lo hi h hs => ⟨h.1, ?_⟩) (fun p hp => ⟨_, congrArg Prod.snd (List.mem_singleton.mp hp)⟩) (Nat.le_add_right tk 3) htk7 ⟨Nat.succ_le_succ (Nat.zero_le _), U, xs, rfl, .head _, hP⟩⟩
    · rw [show (ys ++ [Value.ref U]).length = ys.length + 1 by simp]
      exact nsub N8 (by lcg_sub)
    · refine (((Z'.sub (news' := ts ++ news) (fun p hp => .tail _ (.tail _ hp))).add (q := (U, tupO xs)) ?_ ?_ ?_ ?_ ?_).add (q := (D, _)) dD.1 dD.2.1 dD.2.2.1 dD.2.2.2.1 dD.2.2.2.2).add (q := (C, _)) dC.1 dC.2.1 dC.2.2.1 dC.2.2.2.1 dC.2.2.2.2
      · exact Ne.symm (hU (z, zipO TI TO .none) (by kt_ors))
      · exact Ne.symm (hU (TI, tupO [.ref i1, .ref it]) (by kt_ors))
      · exact Ne.symm (hU (TO, tupO [.int (i : Int) tk, v]) (by kt_ors))
      · exact Ne.symm (hU (i1, riO ((i + 1 : Nat) : Int) ((n : Int) - ((i + 1 : Nat) : Int)) 1) (by kt_ors))
      · exact Ne.symm (hU (it, o2') (by kt_ors))
    · exact List.forall_mem_cons.mpr ⟨Ne.symm (hU (C, oC6) (by kt_ors)), oC1⟩
    · exact List.forall_mem_cons.mpr ⟨Ne.symm (hU (D, listOf ys.toArray ys.length) (by kt_ors)), oD1⟩
    · obtain ⟨_, T', xs', a1, a2, a3⟩ := h; exact ⟨T', xs', a1, hs _ a2, a3⟩
  · obtain rfl : i = n := Nat.le_antisymm (hki ▸ Nat.le_add_left _ _) (Nat.not_lt.mp hi')
    refine zipEndN (dp1 := []) hh F' N' Z' (fun p hp => nomatch hp) (drawE_range (by exact zq828)) ?_
    intro h2 F2 N2
    exact hY _ (post C D oC mc h2 tk ts ys lo hi o2 F2 (nsub N2 (by lcg_sub)) hn' l2' hCD dC.2.2.2.2 dD.2.2.2.2 oC1 oD1 (fun p hp => Z'.n2 p (List.mem_cons_of_mem _ (List.mem_cons_of_mem _ hp))) T.tups T.len (fun i hi => (T.each i hi).2) (fun i hi => ⟨(T.rng i hi).1, (T.each i hi).1, (T.rng i hi).2⟩) T.mono T.tok)
end

open PyProof.Rows.LCg (NsObj ns_obj)
section
variable {prog : Program} {w : World} {A : Around} {E : Value → Shared → Prop} {s : Shared} {hp : Heap} {gs : Array GenState} {dr : Drawn} {tk₀ : Nat} {oo : OsState} {h₀ : Heap} {L : Addr} {m : Str → Option Value} {news : List (Addr × Obj)} {env : Env} {vs : List Value}
theorem callIter {x : Value} {Q : Value → Shared → Prop} (h : wpAny (model prog w) A.in1 (pyIter x) Q E s) : wpAny (model prog w) A (call (.builtin "iter") [x]) Q E s := by
  refine Calls.call_function_entry (by decide +kernel) (by decide +kernel) (entryFor_of_fast (by kernel_rfl) : entryFor table "iter" = some Builtin.«iter») (by unfold argsOk; kernel_rfl) ?_
  unfold Builtin.«iter»
  refine wpAny_bind (m := someArgs "iter" 1 2 _) (wpAny_of_eq (a := [x]) (by first | rfl | kernel_rfl) ?_)
  exact wpAny_bind (wpAny_mono h (fun v s' hq => wpAny_pure ⟨v, rfl, hq⟩) fun _ _ x => x)
theorem ldCell {x : Str} {pos : Pos} {v : Value} {cc : Addr} {oc : Obj} {Q : Value → Shared → Prop} (hl : env.kindOf x = some .cell) (N : News h₀ L s.heap news) (hc : env.cells.lookup x = some cc) (hm : (cc, oc) ∈ news) (hd : oc.data = .cell (some v)) (h : Q v s)
    (hk : env.scope.kind = .function) (hb : (x == ("__debug__" : Str)) = false) : wpAny (model prog w) A (eval (.Name x pos) env) Q E s := wpAny_Name (wpAny_loadName_cell hk hl hc ⟨oc, (N _ hm).1, hd⟩ h) hb
theorem ldFree {x : Str} {pos : Pos} {v : Value} {cc : Addr} {oc : Obj} {Q : Value → Shared → Prop} (hl : env.kindOf x = some .free) (N : News h₀ L s.heap news) (hc : env.cells.lookup x = some cc) (hm : (cc, oc) ∈ news) (hd : oc.data = .cell (some v)) (h : Q v s)
    (hk : env.scope.kind = .function) (hb : (x == ("__debug__" : Str)) = false) (hn : (x == ("__classdict__" : Str)) = false) : wpAny (model prog w) A (eval (.Name x pos) env) Q E s := wpAny_Name (wpAny_loadName_free hk hl hc ⟨oc, (N _ hm).1, hd⟩ h hn) hb
theorem iterLI {I l : Addr} {i : Nat} {o : Obj} {Q : Value → Shared → Prop} (N : News h₀ L s.heap news) (hm : (I, o) ∈ news) (ho : LI o l i) (h : Q (.ref I) s) : wpAny (model prog w) A (pyIter (.ref I)) Q E s :=
  wpAny_pyIter_listiter (i := i) (l := l) ⟨o, (N _ hm).1, ho.1, ho.2⟩ h
theorem sAug {x : Str} {p pos : Pos} {op : Operator} {value : Expr} {rest : List Stmt} {Q : Flow → Shared → Prop}
    (h : wpAny (model prog w) A (loadName env x) (fun old s₁ => wpAny (model prog w) A (eval value env) (fun v s₂ => wpAny (model prog w) A (inplaceOp op old v) (fun r s₃ => wpAny (model prog w) A (storeName env x r) (fun _ s₄ => wpAny (model prog w) A (execs rest env) Q E s₄) E s₃) E s₂) E s₁) E s) :
    wpAny (model prog w) A (execs (.AugAssign (.Name x p) op value pos :: rest) env) Q E s := sq (wpAny_AugAssign_Name h)
theorem lnL {x : Str} {v : Value} {Q : Value → Shared → Prop} (hl : env.kindOf x = some .local) (F : Fr h₀ L s.heap m) (hL : env.locals = L) (hv : m x = some v) (h : Q v s) (hk : env.scope.kind = .function) : wpAny (model prog w) A (loadName env x) Q E s := by
  subst hL; exact wpAny_loadName_local hk hl F.ns hv h
theorem sTup {elts : List Expr} {k : Nat} {tpos pos : Pos} {value : Expr} {rest : List Stmt} {Q : Flow → Shared → Prop}
    (h : wpAny (model prog w) A (eval value env) (fun v s₁ => wpAny (model prog w) A (assign (.Tuple elts k tpos) env v) (fun _ s₂ => wpAny (model prog w) A (execs rest env) Q E s₂) E s₁) E s)
    (hs : swapsWithSole [.Tuple elts k tpos] value pos.line env = pure false) (hw : swappedStores [.Tuple elts k tpos] value env = pure none) :
    wpAny (model prog w) A (execs (.Assign [.Tuple elts k tpos] value pos :: rest) env) Q E s := sq (Assign_Tuple h hs hw)
theorem sTupS {elts : List Expr} {k : Nat} {tpos pos : Pos} {value : Expr} {rest : List Stmt} {names : List Str} {Q : Flow → Shared → Prop}
    (h : wpAny (model prog w) A (eval value env) (fun v s₁ => wpAny (model prog w) A (unpackItems v names.length none) (fun items s₂ =>
      wpAny (model prog w) A (assignInOrder (names.reverse.map fun n => bindName env n) items.reverse) (fun _ s₃ => wpAny (model prog w) A (execs rest env) Q E s₃) E s₂) E s₁) E s)
    (hs : swapsWithSole [.Tuple elts k tpos] value pos.line env = pure false) (hw : swappedStores [.Tuple elts k tpos] value env = pure (some names)) :
    wpAny (model prog w) A (execs (.Assign [.Tuple elts k tpos] value pos :: rest) env) Q E s := sq (Assign_Tuple_swapped h hs hw)
theorem unpackS {T : Addr} {n : Nat} {Q : List Value → Shared → Prop} (hh : A.handled = none) (F : Fr h₀ L hp m) (N : News h₀ L hp news) (hm : (T, tupO vs) ∈ news) (hn : n = vs.length) (h : ∀ h', Fr h₀ L h' m → News h₀ L h' news → Q vs ⟨h', gs, dr, tk₀, oo⟩) :
    wpAny (model prog w) A (unpackItems (.ref T) n none) Q E ⟨hp, gs, dr, tk₀, oo⟩ := by
  subst hn
  refine unpackItems_tuple (items := vs.toArray) hh ⟨_, (N _ hm).1, rfl, _, rfl⟩ fun h' he => ?_
  have up : ∀ c o, hp.get? c = some o → h'.get? c = some o := fun c o e => he c o (Nat.ne_of_lt (Heap.lt_size e)) e
  exact h h' (F.kept up) (N.grown up)

inductive ClI (h₀ : Heap) (L I C D l : Addr) (m : Str → Option Value) (nw : List (Addr × Obj)) (P : Nat → Value → List (Addr × Obj) → Nat → Nat → Prop) (tk₀ n k : Nat) (h' : Heap) (tk : Nat) : Prop
  | mk (i : Nat) (ys : List Value) (oC : Obj) (mc : Str → Option Value) (ts : List (Addr × Obj)) (lo hi : Nat → Nat) (o2 : Obj) (hki : k + i = n) (F : Fr h₀ L h' m) (N : News h₀ L h' ((I, o2) :: (C, oC) :: (D, listOf ys.toArray ys.length) :: (ts ++ nw)))
    (nI : ∀ p ∈ ts ++ nw, p.1 ≠ I) (hLI : LI o2 l i) (hn : NsObj oC mc) (oC1 : ∀ p ∈ ts ++ nw, p.1 ≠ C) (oD1 : ∀ p ∈ ts ++ nw, p.1 ≠ D) (T : Tr P tk₀ i ys ts lo hi tk) : ClI h₀ L I C D l m nw P tk₀ n k h' tk
-- a comprehension over a list
theorem compList {use : Option (Value → Sem Unit)} {Q : Value → Shared → Prop} {pos : Pos} {elt target iter : Expr} {scope : Scope} {cl : List (Str × Addr)} {I l : Addr} {o : Obj} {e1 : Nat} {P : Nat → Value → List (Addr × Obj) → Nat → Nat → Prop}
    (hh : A.handled = none) (F : Fr h₀ L hp m) (N : News h₀ L hp ((I, o) :: news)) (hne : ∀ p ∈ news, p.1 ≠ I) (hI : LI o l 0) (hm1 : (l, listOf vs.toArray e1) ∈ news) (hb : vs.length < 900)
    (hP : ∀ i x us ts lo hi, P i x us lo hi → (∀ p ∈ us, p ∈ ts) → P i x ts lo hi)
    (el : ∀ i, i < vs.length → ∀ (h' : Heap) (tk : Nat) (C : Addr) (oC o' : Obj) (mc : Str → Option Value) (nw : List (Addr × Obj)) (Q : Value → Shared → Prop), Fr h₀ L h' m → News h₀ L h' ((C, oC) :: (I, o') :: nw) → LI o' l (i + 1) → (∀ p ∈ (I, o') :: nw, p.1 ≠ C) → (∀ p ∈ news, p ∈ nw) → NsObj oC mc → tk₀ ≤ tk →
      (∀ x us h'' tk'' oC'' mc'', Fr h₀ L h'' m → News h₀ L h'' ((C, oC'') :: (I, o') :: (us ++ nw)) → (∀ p ∈ us, p.1 ≠ C ∧ ∀ q ∈ (I, o') :: nw, q.1 ≠ p.1) → NsObj oC'' mc'' → Tups us → P i x us tk tk'' → tk ≤ tk'' → Q x ⟨h'', gs, dr, tk'', oo⟩) →
      wpAny (model prog w) A (letOwnedTupleGo target (.ref I) (vs.getD i .none)) (fun _ s₀ => wpAny (model prog w) A (assign target (compEnvC scope cl C env) (vs.getD i .none)) (fun _ s₂ => wpAny (model prog w) A (eval elt (compEnvC scope cl C env)) Q (fun _ _ => False) s₂) (fun _ _ => False) s₀) (fun _ _ => False) ⟨h', gs, dr, tk, oo⟩)
    (hcell : ∀ y ∈ scope.names, y.2 ≠ .cell) (hkind : scope.kind = .function)
    (post : ∀ C D oC mc h' tk ts (ys : List Value) (lo hi : Nat → Nat), Fr h₀ L h' m → News h₀ L h' ((C, oC) :: (D, listOf ys.toArray ys.length) :: (ts ++ news)) → NsObj oC mc → C ≠ D → (∀ p ∈ ts ++ news, p.1 ≠ C) → (∀ p ∈ ts ++ news, p.1 ≠ D) → Tups ts → ys.length = vs.length →
      (∀ i, i < vs.length → P i (ys.getD i .none) ts (lo i) (hi i)) → (∀ i, i < vs.length → tk₀ ≤ lo i ∧ hi i ≤ tk) → (∀ i j, i < j → j < vs.length → hi i ≤ lo j) → tk₀ ≤ tk →
      compPost (model prog w) A E use Q (.ref D) C (.ok .next) ⟨h', gs, dr, tk, oo⟩) :
    CompB prog w A env elt target iter scope cl pos use E Q (.ref I) ⟨hp, gs, dr, tk₀, oo⟩ := by
  refine compB F N hcell hkind (fun s' hs Q E h => wpAny_pyIter_listiter (i := 0) (l := l) ⟨o, hs _ _ (N _ (.head _)).1, hI.1, hI.2⟩ h) fun C D oC h₁ F₁ N₁ hC hCD hnC hnD => ?_
  have dCI : C ≠ I := Ne.symm (hnC _ (.head _))
  have dDI : D ≠ I := Ne.symm (hnD _ (.head _))
  refine compLI (ClI h₀ L I C D l m news P tk₀ vs.length) ?_ vs.length
    ⟨0, [], oC, _, [], _, _, o, rfl, F₁, nsub N₁ (by lcg_sub), hne, hI, hC, fun p hp => hnC p (.tail _ hp), fun p hp => hnD p (.tail _ hp), .nil⟩
  rintro k h' tk B Y hB hY ⟨i, ys, oC, mc, ts, lo, hi, o2, hki, F', N', nI, l2', hn', oC1, oD1, T⟩
  have hneI : ∀ p ∈ (C, oC) :: (D, listOf ys.toArray ys.length) :: (ts ++ news), p.1 ≠ I := List.forall_mem_cons.mpr ⟨dCI, List.forall_mem_cons.mpr ⟨dDI, nI⟩⟩
  refine nextList hh F' N' l2' hneI (mem1 hm1 _ (.head _)) ?_ ?_
  · intro o' h2 hi' F2 N2 q2
    refine el i hi' _ _ C oC o' mc ((D, listOf ys.toArray ys.length) :: (ts ++ news)) _ F2 (nsub N2 (by lcg_sub)) q2 (List.forall_mem_cons.mpr ⟨Ne.symm dCI, List.forall_mem_cons.mpr ⟨Ne.symm hCD, oC1⟩⟩) (fun p hp => .tail _ (List.mem_append_right _ hp)) hn' T.tok ?_
    intro x us h3 tk3 oC3 mc3 F3 N3 hus hn3 hTu hPx htk3
    refine appendN F3 (nsub N3 (news' := (D, listOf ys.toArray ys.length) :: (I, o') :: (C, oC3) :: (us ++ (ts ++ news))) (by lcg_sub)) ?_ (Nat.lt_trans (T.len ▸ hi') (Nat.lt_trans hb (by decide))) ?_
    · exact List.forall_mem_cons.mpr ⟨Ne.symm dDI, List.forall_mem_cons.mpr ⟨hCD, fun p hp => (List.mem_append.mp hp).elim (fun hp => Ne.symm ((hus p hp).2 _ (.tail _ (.head _)))) (oD1 p)⟩⟩
    intro h4 F4 N4
    refine hB (k - 1) (cl_k hki hi').1 ⟨i + 1, ys ++ [x], oC3, _, us ++ ts, _, _, o', (cl_k hki hi').2, F4, nsub N4 ?_, ?_, q2, hn3, ?_, ?_, T.push hP hTu (Nat.le_refl _) htk3 (hP _ _ _ _ _ _ hPx fun p hp => List.mem_append_left _ hp)⟩
    · rw [show (ys ++ [x]).length = ys.length + 1 by simp]
      lcg_sub
    · exact fun p hp => (List.mem_append.mp (List.append_assoc us ts news ▸ hp)).elim (fun hp => Ne.symm ((hus p hp).2 _ (.head _))) (nI p)
    · exact fun p hp => (List.mem_append.mp (List.append_assoc us ts news ▸ hp)).elim (fun hp => (hus p hp).1) (oC1 p)
    · exact fun p hp => (List.mem_append.mp (List.append_assoc us ts news ▸ hp)).elim (fun hp => Ne.symm ((hus p hp).2 _ (.tail _ (.head _)))) (oD1 p)
  · intro h2 hi' F2 N2
    obtain rfl : i = vs.length := Nat.le_antisymm (hki ▸ Nat.le_add_left _ _) hi'
    exact hY _ (post C D oC mc h2 tk ts ys lo hi F2 N2 hn' hCD oC1 oD1 T.tups T.len T.each T.rng T.mono T.tok)
end

theorem HeapFrom.congr {lt lt' : Value → Value → Bool} {k : Nat} {vs : List Value} (h : HeapFrom lt k vs) (e : ∀ a ∈ vs, ∀ b ∈ vs, lt a b = lt' a b) : HeapFrom lt' k vs := fun i h0 h1 h2 => by
  rw [← e _ (getD_mem h1) _ (getD_mem (by exact zq727 h0 h1))]; exact h i h0 h1 h2
theorem HeapFrom.set0 {lt : Value → Value → Bool} {vs : List Value} {x : Value} (h : HeapFrom lt 0 vs) : HeapFrom lt 1 (vs.set 0 x) := fun i h0 h1 h2 => by
  have hl : (vs.set 0 x).length = vs.length := by simp
  rw [getD_set_ne (by exact zq761 h0 h1 hl) (by exact zq762 h0), getD_set_ne (by exact zq761 h0 h1 hl) (by exact zq763 h2)]
  exact h i h0 (by exact zq764 h1 hl) (Nat.zero_le _)
theorem plt_irr (a : Int × Int) : plt a a = false := by unfold plt; simp
theorem plt_iff {a b : Int × Int} : plt a b = false ↔ ¬ (a.1 < b.1 ∨ (a.1 = b.1 ∧ a.2 < b.2)) := by unfold plt; simp only [decide_eq_false_iff_not]
theorem plt_iff' {a b : Int × Int} : plt a b = true ↔ (a.1 < b.1 ∨ (a.1 = b.1 ∧ a.2 < b.2)) := by unfold plt; simp only [decide_eq_true_eq]
theorem plt_trans {a b c : Int × Int} (h1 : plt b a = false) (h2 : plt c b = false) : plt c a = false := by rw [plt_iff] at *; exact zq436 h1 h2
theorem plt_of_plt3 {a b : (Int × Int) × Int} (h : plt3 a b = false) : plt a.1 b.1 = false := by
  unfold plt3 at h
  by_cases e : a.1 = b.1
  · rw [e]; exact plt_irr _
  · rwa [if_neg e] at h
noncomputable abbrev ltM (κ : Value → (Int × Int) × Int) : Value → Value → Bool := fun a b => plt3 (κ b) (κ a)
theorem ltM_swo {κ : Value → (Int × Int) × Int} : SWO (ltM κ) := (plt3_swo (κ := κ)).flip
structure TopK (T : List (Int × Int)) (i : Nat) (κ : Value → (Int × Int) × Int) (rs : List Value) : Prop where
  len : rs.length = 10
  heap : HeapFrom (ltM κ) 0 rs
  split : ∃ rest, (rs.map (fun v => (κ v).1) ++ rest).Perm (T.take i) ∧ ∀ r ∈ rest, ∀ v ∈ rs, plt r (κ v).1 = false
section
variable {T : List (Int × Int)} {i : Nat} {κ κ' : Value → (Int × Int) × Int} {rs : List Value}
theorem TopK.congr (h : TopK T i κ rs) (e : ∀ v ∈ rs, κ' v = κ v) : TopK T i κ' rs := by
  obtain ⟨rest, hp, hr⟩ := h.split
  refine ⟨h.len, h.heap.congr fun a ha b hb => by unfold ltM; rw [e a ha, e b hb], rest, ?_, fun r h1 v hv => by rw [e v hv]; exact hr r h1 v hv⟩
  rw [List.map_congr_left (g := fun v => (κ v).1) fun v hv => by rw [e v hv]]
  exact hp
theorem TopK.top (h : TopK T i κ rs) : ∀ v ∈ rs, plt (κ (rs.getD 0 .none)).1 (κ v).1 = false := fun v hv => by
  obtain ⟨j, hj, rfl⟩ := List.getElem_of_mem hv
  have := heap_root ltM_swo h.heap j hj
  have e : rs.getD j .none = rs[j] := by simp [List.getD, hj]
  rw [e] at this
  exact plt_of_plt3 this
theorem take_next (hi : i < T.length) : T.take (i + 1) = T.take i ++ [T.getD i default] := by
  rw [List.take_succ]
  congr 1
  rw [List.getD_eq_getElem?_getD, List.getElem?_eq_getElem hi]; rfl
theorem TopK.skip (h : TopK T i κ rs) (hi : i < T.length) (hx : plt (T.getD i default) (κ (rs.getD 0 .none)).1 = false) : TopK T (i + 1) κ rs := by
  obtain ⟨rest, hp, hr⟩ := h.split
  refine ⟨h.len, h.heap, rest ++ [T.getD i default], ?_, fun r h1 v hv => ?_⟩
  · rw [take_next hi, ← List.append_assoc]
    exact hp.append_right _
  · rcases List.mem_append.mp h1 with h1 | h1
    · exact hr r h1 v hv
    · obtain rfl := List.mem_singleton.mp h1
      exact plt_trans (h.top v hv) hx
theorem TopK.swap (h : TopK T i κ rs) {x : Value} (hi : i < T.length) (hx : plt (T.getD i default) (κ (rs.getD 0 .none)).1 = true) (ex : (κ x).1 = T.getD i default) : TopK T (i + 1) κ (sup (ltM κ) (rs.set 0 x) 0) := by
  obtain ⟨rest, hp, hr⟩ := h.split
  have hl : (rs.set 0 x).length = 10 := by simp [h.len]
  have hperm := sup_perm (lt := ltM κ) (vs := rs.set 0 x) (pos := 0) (by exact zq655 hl)
  refine ⟨hperm.length_eq.trans hl, sup_heap ltM_swo (by exact zq655 hl) h.heap.set0, (κ (rs.getD 0 .none)).1 :: rest, ?_, fun r h1 v hv => ?_⟩
  · rw [take_next hi]
    cases rs with
    | nil => have := h.len; simp at this
    | cons r0 rs =>
      have p1 := hperm.map (fun v => (κ v).1)
      simp only [List.set_cons_zero, List.map_cons, List.getD_cons_zero, ex] at p1 hp ⊢
      have p2 : ((sup (ltM κ) (x :: rs) 0).map (fun v => (κ v).1) ++ (κ r0).1 :: rest).Perm (T.getD i default :: List.map (fun v => (κ v).1) rs ++ (κ r0).1 :: rest) := p1.append_right _
      refine p2.trans ?_
      have p3 : (T.getD i default :: List.map (fun v => (κ v).1) rs ++ (κ r0).1 :: rest).Perm (T.getD i default :: ((κ r0).1 :: List.map (fun v => (κ v).1) rs ++ rest)) := by
        rw [List.cons_append]
        exact List.Perm.cons _ List.perm_middle
      refine p3.trans ((List.Perm.cons _ hp).trans ?_)
      exact List.perm_append_comm (l₁ := [T.getD i default])
  · have hv' := hperm.mem_iff.mp hv
    have hxv : v ∈ rs ∨ v = x := List.mem_or_eq_of_mem_set hv'
    rcases List.mem_cons.mp h1 with rfl | h1
    · rcases hxv with hv | rfl
      · exact h.top v hv
      · rw [ex]; rw [plt_iff'] at hx; rw [plt_iff]; exact zq435 hx
    · have h3 : plt r (κ (rs.getD 0 .none)).1 = false := hr r h1 _ (getD_mem (by have := h.len; exact zq655 this))
      rcases hxv with hv | rfl
      · exact hr r h1 v hv
      · rw [ex]; rw [plt_iff'] at hx; rw [plt_iff] at h3 ⊢; exact zq765 hx h3
theorem TopK.init {us : List Value} (hl : us.length = 10) (h10 : 10 ≤ T.length) (he : ∀ j, j < 10 → (κ (us.getD j .none)).1 = T.getD j default) : TopK T 10 κ (hfy (ltM κ) (us.length / 2) us) := by
  have hp := hfy_perm (lt := ltM κ) (us.length / 2) us (by exact zq652 hl)
  refine ⟨hp.length_eq.trans hl, hfy_heap ltM_swo _ _ (by exact zq652 hl) (heapFrom_half us), [], ?_, fun r h1 => absurd h1 (by simp)⟩
  rw [List.append_nil]
  refine (hp.map _).trans (List.Perm.of_eq ?_)
  apply List.ext_getElem
  · simp; exact zq766 hl h10
  · intro j h1 h2
    have hj : j < 10 := by simp at h2; exact zq767 h10 h2
    have := he j hj
    have hjT : j < T.length := by exact zq768 h10 hj
    have hju : j < us.length := by exact zq651 hl hj
    simp only [List.getElem_map, List.getElem_take]
    rw [List.getD_eq_getElem?_getD, List.getD_eq_getElem?_getD, List.getElem?_eq_getElem hju, List.getElem?_eq_getElem hjT] at this
    exact this
theorem TopK.fin {us : List Value} (h : TopK T T.length κ rs) (hp : us.Perm rs) (hs : us.Pairwise (fun a b => plt3 (κ b) (κ a) = false)) :
    ∃ rest, ((us.map fun v => (κ v).1) ++ rest).Perm T ∧ (∀ r ∈ rest, ∀ z ∈ us.map (fun v => (κ v).1), plt r z = false) ∧ (us.map fun v => (κ v).1).Pairwise (fun a b => plt b a = false) := by
  obtain ⟨rest, hp', hr⟩ := h.split
  rw [List.take_length] at hp'
  refine ⟨rest, ((hp.map _).append_right _).trans hp', fun r h1 z hz => ?_, ?_⟩
  · obtain ⟨v, hv, rfl⟩ := List.mem_map.mp hz
    exact hr r h1 v (hp.mem_iff.mp hv)
  · rw [List.pairwise_map]
    exact hs.imp fun h => plt_of_plt3 h
end

open PyProof.Rows.LCg (NsObj ns_obj)
theorem Rel2.mono {α : Type} [Inhabited α] {P P' : Value → α → Prop} {ys : List Value} {zs : List α} (h : Rel2 P ys zs) (hp : ∀ v z, P v z → P' v z) : Rel2 P' ys zs := ⟨h.1, fun i hi => hp _ _ (h.2 i hi)⟩
theorem PI.weak {news news' : List (Addr × Obj)} {v : Value} {z : Int × Int} (h : PI news v z) (hs : ∀ p ∈ news, p ∈ news') : PI news' v z := by
  obtain ⟨a, t, u, e, hm⟩ := h; exact ⟨a, t, u, e, hs _ hm⟩
theorem PR.weak {news news' : List (Addr × Obj)} {v : Value} {z : (Int × Int) × Int} (h : PR news v z) (hs : ∀ p ∈ news, p ∈ news') : PR news' v z := by
  obtain ⟨a, p, t, e, hm, hp⟩ := h; exact ⟨a, p, t, e, hs _ hm, hp.weak hs⟩
theorem exists_kappa {β : Type} [Inhabited β] (ys : List Value) (f : Nat → β) (h : ∀ i j, i < ys.length → j < ys.length → ys.getD i .none = ys.getD j .none → f i = f j) : ∃ κ : Value → β, ∀ i, i < ys.length → κ (ys.getD i .none) = f i := by
  classical
  refine ⟨fun v => if hv : ∃ i, i < ys.length ∧ ys.getD i .none = v then f (Classical.choose hv) else default, fun i hi => ?_⟩
  have hv : ∃ j, j < ys.length ∧ ys.getD j .none = ys.getD i .none := ⟨i, hi, rfl⟩
  dsimp only
  rw [dif_pos hv]
  have := Classical.choose_spec hv
  exact h _ _ this.1 hi this.2
theorem exists_upd {β : Type} (κ : Value → β) (u : Value) (z : β) : ∃ κ' : Value → β, κ' u = z ∧ ∀ v, v ≠ u → κ' v = κ v := by
  classical
  exact ⟨fun v => if v = u then z else κ v, by simp, fun v hv => by simp [hv]⟩
theorem Cx.weak {n k : Nat} {w : World} {A : Around} {h₀ : Heap} {L : Addr} (c : Cx n w A h₀ L) (hk : k ≤ n) : Cx k w A h₀ L := ⟨c.X, c.T, c.B, c.hh, by have := c.dep; exact zq443 hk this, by have := c.uni; exact zq641 hk this⟩
theorem sExprA {prog : Program} {w : World} {A : Around} {E : Value → Shared → Prop} {s : Shared} {env : Env} {Q : Flow → Shared → Prop} {e : Expr} {rest : List Stmt} {pos : Pos} (h : wpAny (model prog w) A (eval e env) (fun _ s₁ => wpAny (model prog w) A (execs rest env) Q E s₁) E s)
    (hi : interactive env = false) (hs : swapsWith e none pos.line env = pure false) : wpAny (model prog w) A (execs (.Expr e pos :: rest) env) Q E s := sq (wpAny_Expr_any h hi hs)
section
variable {prog : Program} {w : World} {n : Nat} {A : Around} {h₀ : Heap} {L : Addr} {m : Str → Option Value} {news : List (Addr × Obj)} {hp : Heap} {gs : Array GenState} {dr : Drawn} {tk₀ : Nat} {oo : OsState} {R : Result → Shared → Prop} {E : Value → Shared → Prop}
theorem nsI_call {l : Addr} {vs : List Value} {T : List (Int × Int)} {e : Nat} {t1 : Tok} (c : Cx (n + 6) w A h₀ L) (F : Fr h₀ L hp m) (N : News h₀ L hp news) (hm : (l, listOf vs.toArray e) ∈ news) (hR : Rel2 (PI news) vs T) (h10 : 10 < T.length) (hb : T.length < 900)
    (post : ∀ h' tk D ts (ys : List Value) zs rest, Fr h₀ L h' m → News h₀ L h' ((D, listOf ys.toArray ys.length) :: (ts ++ news)) → (∀ p ∈ ts ++ news, p.1 ≠ D) → Tups ts → Rel2 (PI (ts ++ news)) ys zs → zs.length = 10 → zs.Pairwise (fun a b => plt b a = false) → (zs ++ rest).Perm T → (∀ r ∈ rest, ∀ z ∈ zs, plt r z = false) → tk₀ ≤ tk → R (.ok (.ret (.ref D))) ⟨h', gs, dr, tk, oo⟩) :
    codeAny (model prog w) A (.call (.ref 90) ⟨[.int 10 t1, .ref l], []⟩) R ⟨hp, gs, dr, tk₀, oo⟩ := by
  refine codeAny_mt ?_
  refine c.callC (nc := Str.ofString "key") F N (f := 90) (binds := [(Str.ofString "n", .int 10 t1), (Str.ofString "iterable", .ref l), (Str.ofString "key", .none)]) (ho := rfl) (hcd := rfl) (binds_K (c.X.keeps F.keep) rfl rfl rfl rfl rfl) rfl (fun _ => rfl) ?_ rfl rfl rfl
  intro g L' h₁ m' tk cc oc hm' hcd hcc c' F' N' hncc
  have k1 : m' (Str.ofString "n") = some (.int 10 t1) := (hm' _).trans rfl
  have k2 : m' (Str.ofString "iterable") = some (.ref l) := (hm' _).trans rfl
  have kc : oc.data = .cell (some .none) := hcd.trans rfl
  clear hm' hcd
  have hlv : vs.length = T.length := hR.1
  repeat kt_at_get
  refine iteB (fun h => absurd h (by decide)) (fun _ => ?_)
  repeat kt_at_get
  refine sTry ?_
  repeat kt_at_get
  refine lenN (vs := vs) (by assumption) (.tail _ hm) (by exact zq642 h10 hb hlv) ?_
  repeat kt_at_get
  dsimp only
  repeat kt_at_get
  refine PyProof.Rows.ge_int ?_
  repeat kt_at_get
  refine iteD (fun h => absurd h (by exact zq643 h10 hb hlv h)) (fun _ => ?_)
  repeat kt_at_get
  refine ldCell (by with_unfolding_all rfl) (by assumption) hcc (.head _) kc ?_ (by with_unfolding_all rfl) (by decide)
  refine Constant_none ?_
  refine is_none_none ?_
  repeat kt_at_get
  refine callIter ?_
  refine iterList (vs := vs) (by assumption) (by assumption) (.tail _ hm) ?_
  intro I oI h2 F2 N2 hI0 hI
  repeat kt_at_get
  refine compA (cl := []) (by with_unfolding_all rfl) (by with_unfolding_all rfl) (by rfl) (by decide) (by intro _; with_unfolding_all rfl) ?_
  repeat kt_at_get
  refine callRange (n := 10) (by assumption) (by assumption) ?_
  intro D h3 u v tk3 F3 N3 hD htk3
  repeat kt_at_get
  refine zipRL (n := 10) (D := D) (news := (D, { cls := .type "range", data := .fields #[.int 0 u, .int 10 t1, .int 1 v] }) :: news) (by decide) F3 (nsub N3 (by lcg_sub)) (.head _) hI0 (List.forall_mem_cons.mpr ⟨Ne.symm (hD _ (.head _)), fun p hp => hI p (.tail _ hp)⟩) ?_
  intro z TI TO i1 h4 F4 N4 Z4
  refine zipSelf N4 ?_
  refine zipRng (n := 10) (vs := vs) (P := fun i xs lo hi => ∃ t, xs = [vs.getD i .none, .int i t]) c'.hh F4 N4 Z4 hI0 (.tail _ hm) (by exact zq644 h10 hb hlv) (by decide) ?_ (by decide) rfl rfl rfl (by decide) ?_
  · intro i hi h' tk' t C oC mc nw Q F5 N5 hC hsub hn5 ea eb htk1 htk2 post5
    refine Tuple_ (spliced_more ?_ rfl)
    refine ldC rfl rfl N5 hC hn5 eb ?_ (by decide)
    refine spliced_more ?_ rfl
    refine ldC rfl rfl N5 hC hn5 ea ?_ (by decide)
    refine spliced_none ?_
    refine tupN F5 N5 (by show 2 < 1000; decide) ?_
    intro U h6 F6 N6 hU
    exact post5 U _ h6 _ F6 N6 hU ⟨t, rfl⟩ (Nat.le_refl _)
  intro C Rr oC mc h5 tk5 ts ys lo hi oI5 F5 N5 hn5 hI5 hCR hCI hRI hC5 hR5 hI5' hT5 hyl hys hlo hmono htk5
  refine compEndA F5 N5 hn5 ?_ rfl rfl rfl ?_
  · exact List.forall_mem_cons.mpr ⟨Ne.symm hCR, List.forall_mem_cons.mpr ⟨Ne.symm hCI, hC5⟩⟩
  intro h6 F6 N6
  repeat kt_at_get
  refine truthyN (vs := ys) (by assumption) (.head _) (by exact zq584 hyl) ?_
  refine iteB (fun h => absurd h ?_) (fun _ => ?_)
  · cases ys with
    | nil => cases hyl
    | cons a b => simp
  have hfc : ∀ i j, i < ys.length → j < ys.length → ys.getD i .none = ys.getD j .none → (T.getD i default, (i : Int)) = (T.getD j default, (j : Int)) := by
    intro i j hi hj e
    obtain ⟨T1, xs1, e1, m1, t1, rfl⟩ := hys i (by exact zq645 hyl hi)
    obtain ⟨T2, xs2, e2, m2, t2, rfl⟩ := hys j (by exact zq645 hyl hj)
    rw [e1, e2] at e
    injection e with e
    subst e
    have := tupO_inj (Option.some.inj ((N6 _ (.tail _ (.tail _ (List.mem_append_left _ m1)))).1.symm.trans (N6 _ (.tail _ (.tail _ (List.mem_append_left _ m2)))).1))
    simp only [List.cons.injEq, Value.int.injEq] at this
    have : i = j := by omega
    rw [this]
  obtain ⟨κ, hκ⟩ := exists_kappa ys (fun i => (T.getD i default, (i : Int))) hfc
  have hPR : ∀ v ∈ ys, PR (ts ++ news) v (κ v) := by
    intro v hv
    obtain ⟨j, hj, rfl⟩ := List.getElem_of_mem hv
    have ej : ys[j] = ys.getD j .none := by simp [List.getD, hj]
    rw [ej, hκ j hj]
    obtain ⟨T1, xs1, e1, m1, t1, rfl⟩ := hys j (by exact zq645 hyl hj)
    rw [e1]
    exact ⟨T1, _, t1, rfl, List.mem_append_left _ m1, (hR.2 j (by exact zq647 h10 hb hlv hyl hj)).weak fun p hp => List.mem_append_right _ hp⟩
  repeat kt_at_get
  have N7 : ∀ {h : Heap}, News g L' h ((Rr, listOf ys.toArray ys.length) :: (I, oI5) :: (ts ++ (D, ({ cls := .type "range", data := .fields #[.int 0 u, .int 10 t1, .int 1 v] } : Obj)) :: news)) → News g L' h ((Rr, listOf ys.toArray ys.length) :: (I, oI5) :: (ts ++ news)) := fun N => nsub N (by lcg_sub)
  have hneR : ∀ p ∈ (I, oI5) :: (ts ++ news), p.1 ≠ Rr := List.forall_mem_cons.mpr ⟨Ne.symm hRI, fun p hp => hR5 p (by revert p; lcg_sub)⟩
  have hneI : ∀ p ∈ ts ++ news, p.1 ≠ I := fun p hp => hI5' p (by revert p; lcg_sub)
  refine wpAny_call (heapify_max_call (lt := fun v u => plt3 (κ v) (κ u)) (n := n + 1) (c'.weak (by exact zq648)) (by assumption) (N7 (by assumption)) hneR ((LtOK.pr hPR).weak fun p hp => .tail _ hp) (by exact zq649 hyl) fun h8 tk8 F8 N8 htk8 => ⟨rfl, ?_⟩)
  have hTop : TopK T 10 κ (hfy (ltM κ) (ys.length / 2) ys) := TopK.init hyl (by exact zq650 h10 hb hlv) fun j hj => by rw [hκ j (by exact zq651 hyl hj)]
  have hPR2 : ∀ v ∈ hfy (ltM κ) (ys.length / 2) ys, PR (ts ++ news) v (κ v) := fun v hv => hPR v ((hfy_perm (lt := ltM κ) (ys.length / 2) ys (by exact zq652 hyl)).mem_iff.mp hv)
  have N8' : News g L' h8 ((Rr, listOf (hfy (ltM κ) (ys.length / 2) ys).toArray ys.length) :: (I, oI5) :: (ts ++ news)) := N8
  revert N8' hTop hPR2
  generalize hfy (ltM κ) (ys.length / 2) ys = rs
  intro hTop hPR2 N8'
  clear N8
  obtain ⟨a0, p0, o0, ea0, ma0, hp0⟩ := hPR2 _ (getD_mem (i := 0) (by rw [hTop.len]; decide))
  repeat kt_at_get
  refine itemN0 (vs := rs) (by assumption) (.head _) (by rw [hTop.len]; decide) (by rw [hTop.len]; decide) ?_ (by with_unfolding_all rfl) (by intro _; with_unfolding_all rfl)
  rw [ea0]
  repeat kt_at_get
  refine tupI0 (by assumption) (.tail _ (.tail _ ma0)) (by show 0 < 2; decide) (by show 2 < 1000; decide) ?_ (by with_unfolding_all rfl)
  repeat kt_at_get
  refine iterLI (by assumption) (.tail _ (.head _)) hI5 ?_
  refine forL (I := fun k s' => ∃ h' tk' m₂ i κ rs e ts oI p o to, s' = ⟨h', gs, dr, tk', oo⟩ ∧ k + i = T.length ∧ 10 ≤ i ∧ TopK T i κ rs ∧ Fr g L' h' m₂ ∧ News g L' h' ((I, oI) :: (Rr, listOf rs.toArray e) :: (ts ++ news)) ∧ LI oI l i ∧
      (∀ q ∈ ts ++ news, q.1 ≠ I) ∧ (∀ q ∈ ts ++ news, q.1 ≠ Rr) ∧ Tups ts ∧ (∀ v ∈ rs, PR (ts ++ news) v (κ v)) ∧ PI (ts ++ news) p (κ (rs.getD 0 .none)).1 ∧
      m₂ (Str.ofString "result") = some (.ref Rr) ∧ m₂ (Str.ofString "_heapreplace") = some (.ref 49) ∧ m₂ (Str.ofString "top") = some p ∧ m₂ (Str.ofString "order") = some (.int o to))
    (Z := fun s' => ∃ h' tk' m₂ κ rs e ts, s' = ⟨h', gs, dr, tk', oo⟩ ∧ TopK T T.length κ rs ∧ Fr g L' h' m₂ ∧ News g L' h' ((Rr, listOf rs.toArray e) :: (ts ++ news)) ∧
      (∀ q ∈ ts ++ news, q.1 ≠ Rr) ∧ Tups ts ∧ (∀ v ∈ rs, PR (ts ++ news) v (κ v)) ∧ m₂ (Str.ofString "result") = some (.ref Rr)) ?turn (T.length - 10) ?init ?exit
  case init =>
    refine ⟨_, _, _, 10, κ, rs, _, ts, oI5, p0, _, _, rfl, by exact zq653 h10 hb hlv, Nat.le_refl _, hTop, by assumption, nrot2 (by assumption), hI5, hneI, fun q hq => hneR q (.tail _ hq), hT5, hPR2, hp0, by kt_at_in, by kt_at_in, by kt_at_in, by kt_at_in⟩
  case turn =>
    clear k1 k2 kc hcc hPR hPR2 hTop
    rintro k s' ⟨h', tk', m₂, i, κ, rs, e', ts, oI, p, o, to, rfl, hki, hi10, hTop, F9, N9, hLI, hqI, hqR, hTs, hPR, hPp, q1, q2, q3, q4⟩
    refine nextList c'.hh F9 N9 hLI (List.forall_mem_cons.mpr ⟨hRI, hqI⟩) (.tail _ (List.mem_append_right _ hm)) ?_ ?_
    · intro o' h10 hi10' F10 N10 hLI'
      have hi : i < T.length := by exact zq494 hlv hki hi10'
      have hPx : PI (ts ++ news) (vs.getD i .none) (T.getD i default) := (hR.2 i hi).weak fun p hp => List.mem_append_right _ hp
      refine wpAny_pure ?_
      repeat kt_at_get
      have N11 : ∀ {h : Heap}, News g L' h ((I, o') :: (Rr, listOf rs.toArray e') :: (ts ++ news)) → News g L' h (ts ++ news) := fun N => nsub N (by lcg_sub)
      refine LtV.op (k := 1) (PI.ltV (N11 (by assumption)) hPx hPp) rfl (by have := c'.uni; exact zq654 this) ?_
      repeat kt_at_get
      have ea : (T.getD i default, o).1 = T.getD i default := rfl
      have hlen := hTop.len
      refine iteB (fun hx => ?_) (fun hx => ?_)
      · refine sExprA ?_ (by with_unfolding_all rfl) (by with_unfolding_all rfl)
        repeat kt_at_get
        refine tupN (by assumption) (by assumption) (by show 2 < 1000; decide) ?_
        intro U h11 F11 N11 hU
        repeat kt_at_get
        obtain ⟨κ', hk1, hk2⟩ := exists_upd κ (.ref U) (T.getD i default, o)
        have hUrs : ∀ v ∈ rs, v ≠ .ref U := fun v hv ev => by
          obtain ⟨a, _, _, e1, m1, _⟩ := hPR v hv
          rw [e1] at ev; injection ev with ev
          exact hU _ (.tail _ (.tail _ m1)) ev
        have hTop' := hTop.congr (fun v hv => hk2 v (hUrs v hv))
        have hPR' : ∀ v ∈ Value.ref U :: rs, PR ((U, tupO [vs.getD i .none, .int o to]) :: (ts ++ news)) v (κ' v) := List.forall_mem_cons.mpr ⟨⟨U, _, to, rfl, by rw [hk1]; exact .head _, by rw [hk1]; exact hPx.weak fun p hp => .tail _ hp⟩, fun v hv => by rw [hk2 v (hUrs v hv)]; exact (hPR v hv).weak fun p hp => .tail _ hp⟩
        have hk0 : κ' (rs.getD 0 .none) = κ (rs.getD 0 .none) := hk2 _ (hUrs _ (getD_mem (by exact zq655 hlen)))
        have hnR : ∀ q ∈ (U, tupO [vs.getD i .none, .int o to]) :: (I, o') :: (ts ++ news), q.1 ≠ Rr := List.forall_mem_cons.mpr ⟨Ne.symm (hU (Rr, _) (.tail _ (.head _))), List.forall_mem_cons.mpr ⟨Ne.symm hRI, hqR⟩⟩
        refine wpAny_call (heapreplace_max_call (lt := fun v u => plt3 (κ' v) (κ' u)) (n := n + 1) (news := (U, tupO [vs.getD i .none, .int o to]) :: (I, o') :: (ts ++ news)) (c'.weak (by exact zq648)) F11 (nsub N11 (by lcg_sub)) hnR ((LtOK.pr hPR').weak (by lcg_sub)) (by exact zq655 hlen) (by exact zq649 hlen) fun h12 tk12 F12 N12 htk12 => ?_)
        have hTop2 : TopK T (i + 1) κ' (sup (ltM κ') (rs.set 0 (.ref U)) 0) := hTop'.swap hi (by rw [hk0]; exact hx) (by rw [hk1])
        have hPR2 : ∀ v ∈ sup (ltM κ') (rs.set 0 (.ref U)) 0, PR ((U, tupO [vs.getD i .none, .int o to]) :: (ts ++ news)) v (κ' v) := fun v hv => hPR' v (by
          rcases List.mem_or_eq_of_mem_set ((sup_perm (lt := ltM κ') (by simp; exact zq655 hlen)).mem_iff.mp hv) with h | h
          · exact .tail _ h
          · rw [h]; exact .head _)
        have N12' : News g L' h12 ((Rr, listOf (sup (ltM κ') (rs.set 0 (.ref U)) 0).toArray e') :: (U, tupO [vs.getD i .none, .int o to]) :: (I, o') :: (ts ++ news)) := N12
        revert N12' hTop2 hPR2
        generalize sup (ltM κ') (rs.set 0 (.ref U)) 0 = rs2
        intro hTop2 hPR2 N12'
        have hlen2 := hTop2.len
        clear N12
        obtain ⟨a2, p2, o2, ea2, ma2, hp2⟩ := hPR2 _ (getD_mem (i := 0) (by exact zq655 hlen2))
        have ma2' : ∀ {X : Addr × Obj}, (a2, tupO [p2, Value.int (κ' (rs2.getD 0 Value.none)).2 o2]) ∈ (Rr, listOf rs2.toArray e') :: (U, tupO [vs.getD i .none, .int o to]) :: (I, o') :: (ts ++ news) := by
          intro _
          rcases List.mem_cons.mp ma2 with h | h
          · rw [h]; exact .tail _ (.head _)
          · exact .tail _ (.tail _ (.tail _ h))
        refine sTup ?_ (by with_unfolding_all rfl) (by with_unfolding_all rfl)
        repeat kt_at_get
        refine itemN0 (vs := rs2) N12' (.head _) (by exact zq655 hlen2) (by exact zq584 hlen2) ?_ (by with_unfolding_all rfl) (by intro _; with_unfolding_all rfl)
        rw [ea2]
        refine unpackC (vs := [p2, Value.int (κ' (rs2.getD 0 Value.none)).2 o2]) c'.hh (by assumption) (by assumption) (ma2' (X := (U, tupO []))) rfl rfl ?_
        intro h13 F13 N13
        show wpAny _ _ (assignInOrder [assign _ _, assign _ _] [_, _]) _ _ _
        refine assignInOrder_cons ?_
        repeat kt_at_get
        refine assignInOrder_cons ?_
        repeat kt_at_get
        refine assignInOrder_nil ?_
        refine sAug ?_
        refine lnL (by with_unfolding_all rfl) (by assumption) (by with_unfolding_all rfl) (by kt_at_in) ?_ (by with_unfolding_all rfl)
        repeat kt_at_get
        refine iiAdd ?_
        repeat kt_at_get
        refine ⟨k - 1, by exact zq502 hlv hki hi10', _, _, _, i + 1, κ', rs2, _, (U, tupO [vs.getD i .none, .int o to]) :: ts, o', p2, _, _, rfl, by exact zq503 hlv hki hi10', by exact zq656 hi10, hTop2, by assumption, nsub (by assumption) (by lcg_sub), hLI', ?_, ?_, ?_, hPR2, hp2, by kt_at_in, by kt_at_in, by kt_at_in, by kt_at_in⟩
        · exact List.forall_mem_cons.mpr ⟨Ne.symm (hU (I, o') (.head _)), hqI⟩
        · exact List.forall_mem_cons.mpr ⟨Ne.symm (hU (Rr, _) (.tail _ (.head _))), hqR⟩
        · exact List.forall_mem_cons.mpr ⟨⟨_, rfl⟩, hTs⟩
      · repeat kt_at_get
        exact ⟨k - 1, by exact zq502 hlv hki hi10', _, _, _, i + 1, κ, rs, _, ts, o', p, _, _, rfl, by exact zq503 hlv hki hi10', by exact zq656 hi10, hTop.skip hi hx, by assumption, by assumption, hLI', hqI, hqR, hTs, hPR, hPp, by kt_at_in, by kt_at_in, by kt_at_in, by kt_at_in⟩
    · intro h10 hi10' F10 N10
      obtain rfl : i = T.length := by exact zq510 hlv hki hi10'
      exact ⟨_, _, _, κ, rs, _, ts, rfl, hTop, F10, N10, hqR, hTs, hPR, q1⟩
  case exit =>
    clear k1 k2 kc hcc hPR hPR2 hTop
    rintro s' ⟨h', tk', m₂, κ, rs, e', ts, rfl, hTop, F9, N9, hqR, hTs, hPR, q1⟩
    have hlen := hTop.len
    repeat kt_at_get
    refine methN PySem.F.slot_list_sort PySem.F.type_list_sort (by assumption) (.head _) ?_
    repeat kt_at_get
    refine sortN (T := .type "tuple") (lt := fun v u => plt3 (κ v) (κ u)) (by have := c'.uni; exact zq657 this) F9 N9 hqR c'.X plt3_swo (by exact zq658 hlen) (by exact zq659 hlen) (by decide) (fun h N v hv => (hPR v hv).head N) (fun h X N v hv u hu => ?_) ?_
    · have e1 : (Value.type "tuple" != Value.type "tuple") = false := by decide
      rw [e1]
      exact PR.srt N (hPR v hv) (hPR u hu)
    intro h10 us e2 F10 N10 hperm hsort
    refine ⟨rfl, ?_⟩
    have hlu : us.length = 10 := hperm.length_eq.trans hlen
    have hPU : ∀ v ∈ us, PR (ts ++ news) v (κ v) := fun v hv => hPR v (hperm.mem_iff.mp hv)
    obtain ⟨rest, hp1, hp2, hp3⟩ := hTop.fin hperm hsort
    repeat kt_at_get
    refine compE (cl := []) (by with_unfolding_all rfl) (by rfl) (by decide) (by intro _; with_unfolding_all rfl) ?_
    repeat kt_at_get
    refine iterList (vs := us) F10 N10 (.head _) ?_
    intro I2 oI2 h11 F11 N11 hI2 hneI2
    refine compList (vs := us) (P := fun i x _ _ _ => ∃ a t, us.getD i .none = .ref a ∧ (a, tupO [x, .int (κ (us.getD i .none)).2 t]) ∈ ts ++ news ∧ PI (ts ++ news) x (κ (us.getD i .none)).1) c'.hh F11 N11 hneI2 hI2 (.head _) (by exact zq649 hlu) (fun _ _ _ _ _ _ h _ => h) ?_ (by decide) rfl ?_
    · intro i hi h' tk C oC o' mc nw Q F5 N5 hLI hnC hsub hn5 htk post5
      obtain ⟨a, x, t, ea, ma, hx⟩ := hPU _ (getD_mem hi)
      rw [ea]
      refine wpAny_letOwnedTupleGo_listiter (i := i + 1) (l := Rr) ⟨o', (N5 _ (.tail _ (.head _))).1, hLI.1, hLI.2⟩ ?_
      refine unpackC (vs := [x, .int (κ (us.getD i .none)).2 t]) c'.hh F5 N5 (.tail _ (.tail _ (hsub _ (.tail _ ma)))) rfl rfl ?_
      intro h6 F6 N6
      show wpAny _ _ (assignInOrder [assign _ _, assign _ _] [_, _]) _ _ _
      refine assignInOrder_cons (PyProof.Rows.assign_Name (stC rfl rfl F6 N6 hnC hn5 ?_))
      intro h7 oC7 F7 N7 hn7
      refine assignInOrder_cons (PyProof.Rows.assign_Name (stC rfl rfl F7 N7 hnC hn7 ?_))
      intro h8 oC8 F8 N8 hn8
      refine assignInOrder_nil ?_
      refine ldC rfl rfl N8 (.head _) hn8 (by kt_at_in) ?_ (by decide)
      refine post5 _ [] _ _ _ _ F8 N8 (fun p hp => nomatch hp) hn8 (fun p hp => nomatch hp) ?_ ?_
      · rw [ea] at ma hx
        exact ⟨a, t, by rw [ea], by rw [ea]; exact ma, by rw [ea]; exact hx⟩
      · exact zq11
    intro C D2 oC mc h12 tk12 ts2 ys2 lo2 hi2 F12 N12 hn12 hCD hC12 hD12 hT12 hyl2 hys2 hlo2 hmono2 htk12
    refine compEndE F12 N12 hn12 (List.forall_mem_cons.mpr ⟨Ne.symm hCD, hC12⟩) fun h13 F13 N13 => ?_
    have N13' : News g L' h13 ((D2, listOf ys2.toArray ys2.length) :: (ts ++ news)) := nsub N13 (by lcg_sub)
    repeat kt_at_get
    refine leaveK_ F13 N13' fun F14 N14 => ?_
    intro htok
    refine post _ _ D2 ts ys2 (us.map fun v => (κ v).1) rest F14 N14 (fun p hp => hD12 p (by revert p; lcg_sub)) hTs ⟨by simp [hyl2], fun i hi => ?_⟩ (by simp [hlu]) hp3 hp1 hp2 htok
    have hi' : i < us.length := by simpa using hi
    obtain ⟨a, t, e1, e2, e3⟩ := hys2 i hi'
    have e4 : (us.map fun v => (κ v).1).getD i default = (κ (us.getD i .none)).1 := by simp [List.getD, hi']
    rw [e4]; exact e3
end

open PyProof.Rows.LCg (NsObj ns_obj)
noncomputable def ColT (news : List (Addr × Obj)) (v : Value) (s : Int) : Prop := ∃ T share level tr tg tb, v = .ref T ∧ (T, tupO [.float (fl (col s share level 0)) tr, .float (fl (col s share level 2048)) tg, .float (fl (col s share level 4096)) tb]) ∈ news ∧ (0 ≤ s ∧ s < 1024) ∧ (1 ≤ share ∧ share ≤ 8) ∧ (1 ≤ level ∧ level ≤ 8)
theorem ColT.weak {news news' : List (Addr × Obj)} {v : Value} {z : Int} (h : ColT news v z) (hs : ∀ p ∈ news, p ∈ news') : ColT news' v z := by
  obtain ⟨a, b, c, d, e, f, g, hm, r⟩ := h; exact ⟨a, b, c, d, e, f, g, hs _ hm, r⟩
theorem exists_phi (n : Nat) (τ : Nat → Nat) (f : Nat → Int) (h : ∀ i j, i < j → j < n → τ i ≠ τ j) : ∃ φ : Nat → Int, ∀ i, i < n → φ (τ i) = f i := by
  classical
  refine ⟨fun t => if hv : ∃ i, i < n ∧ τ i = t then f (Classical.choose hv) else 0, fun i hi => ?_⟩
  have hv : ∃ j, j < n ∧ τ j = τ i := ⟨i, hi, rfl⟩
  dsimp only
  rw [dif_pos hv]
  obtain ⟨h1, h2⟩ := Classical.choose_spec hv
  have : Classical.choose hv = i := by
    rcases Nat.lt_trichotomy (Classical.choose hv) i with q | q | q
    · exact absurd h2 (h _ _ q hi)
    · exact q
    · exact absurd h2.symm (h _ _ q h1)
  rw [this]
theorem sPass {prog : Program} {w : World} {A : Around} {E : Value → Shared → Prop} {s : Shared} {env : Env} {Q : Flow → Shared → Prop} {rest : List Stmt} {pos : Pos} (h : wpAny (model prog w) A (execs rest env) Q E s) : wpAny (model prog w) A (execs (.Pass pos :: rest) env) Q E s := sq (wpAny_Pass h)
theorem withCx {α : Type} {M : Model} {n : Nat} {w : World} {A A' : Around} {base g : Heap} {L' : Addr} {env env' : Env} {s : Shared} {t : Sem α} {Q : α → Shared → Prop} {E : Value → Shared → Prop} (K : Below A base [env] g) (XB : (KH w.params).In base) (TB : ∃ loose mean mg mb, Top vw loose mean mg mb base)
    (hh : A.handled = none) (dep : A.depth + 1 + n < recursionLimit) (uni : A.units + 3 + 20 * n < cLine) (hA : A' = A.deeper env') (hf : env'.frame = some L') (hk : env'.scope.kind = .function) (h : Cx n w A' g L' → wpAny M A' t Q E s) : wpAny M A' t Q E s := h (hA ▸ Cx.ofBelow K XB TB hf hk hh dep uni)
theorem withCxM {α : Type} {M : Model} {n : Nat} {w : World} {A A' : Around} {base g : Heap} {L' : Addr} {env env' : Env} {s : Shared} {t : Sem α} {Q : α → Shared → Prop} {E : Value → Shared → Prop} {x : Option Value} (K : Below A base [env] g) (XB : (KH w.params).In base) (TB : ∃ loose mean mg mb, Top vw loose mean mg mb base)
    (hh : A.handled = none) (dep : A.depth + 1 + n < recursionLimit) (uni : A.units + 3 + 20 * n < cLine) (hA : A' = (A.deeper env').mark x) (hf : env'.frame = some L') (hk : env'.scope.kind = .function) (h : Cx n w (A.deeper env') g L' → wpAny M A' t Q E s) : wpAny M A' t Q E s := h (Cx.ofBelow K XB TB hf hk hh dep uni)
section
variable {prog : Program} {w : World} {n : Nat} {A A₀ : Around} {base h₀ : Heap} {L : Addr} {env : Env} {m : Str → Option Value} {news : List (Addr × Obj)} {hp : Heap} {gs : Array GenState} {dr : Drawn} {tk₀ : Nat} {oo : OsState} {R : Result → Shared → Prop} {E : Value → Shared → Prop}
theorem nsK_call {I l : Addr} {oI : Obj} {vs : List Value} {S : List Int} {e : Nat} {t1 : Tok} (c : CxT (n + 7) w A A₀ base h₀ L env) (F : Fr h₀ L hp m) (N : News h₀ L hp ((I, oI) :: news)) (hI : LI oI l 0) (hneI : ∀ p ∈ news, p.1 ≠ I) (hm : (l, listOf vs.toArray e) ∈ news) (hlen : vs.length = S.length) (hR : ∀ i, i < S.length → ColT news (vs.getD i .none) (S.getD i 0)) (h2 : 2 ≤ S.length) (hb : S.length < 60)
    (post : ∀ h' tk D (us : List Value) (hs : List Int), Fr h₀ L h' m → News h₀ L h' ((D, listOf us.toArray us.length) :: news) → (∀ p ∈ news, p.1 ≠ D) → us.length = hs.length → (∀ i, i < hs.length → ColT news (us.getD i .none) (hs.getD i 0)) → hs.Perm S → hs.Pairwise (· ≤ ·) → tk₀ ≤ tk → R (.ok (.ret (.ref D))) ⟨h', gs, dr, tk, oo⟩) :
    codeAny (model prog w) A (.call (.ref 90) ⟨[.int (vs.length : Int) t1, .ref I], [(Str.ofString "key", .ref 118)]⟩) R ⟨hp, gs, dr, tk₀, oo⟩ := by
  refine codeAny_mt ?_
  refine c.callT (nc := Str.ofString "key") F N (f := 90) (binds := [(Str.ofString "n", .int (vs.length : Int) t1), (Str.ofString "iterable", .ref I), (Str.ofString "key", .ref 118)]) (ho := rfl) (hcd := rfl) (binds_K (c.c.X.keeps F.keep) rfl rfl rfl rfl rfl) rfl (fun _ => rfl) ?_ rfl rfl rfl
  intro g L' h₁ m' tk cc oc hm' hcd hcc B' F' N' hncc
  have k1 : m' (Str.ofString "n") = some (.int (vs.length : Int) t1) := (hm' _).trans rfl
  have k2 : m' (Str.ofString "iterable") = some (.ref I) := (hm' _).trans rfl
  have kc : oc.data = .cell (some (.ref 118)) := hcd.trans rfl
  clear hm' hcd
  have dep := c.c.dep
  have uni := c.c.uni
  refine withCx (n := n + 6) B' c.XB c.TB c.c.hh (by exact zq660 dep) (by exact zq661 uni) (by rfl) (by rfl) (by rfl) fun c' => ?_
  repeat kt_at_get
  refine iteB (fun h => ?_) (fun _ => ?_)
  · exfalso
    have : ((vs.length : Int) == 1) = true := h
    rw [beq_iff_eq] at this; exact zq662 hlen h2 hb this
  repeat kt_at_get
  refine sTry ?_
  repeat kt_at_get
  refine len_li c'.hh (N' _ (.tail _ (.head _))).1 hI ?_
  intro h3 tk3 ex hx
  dsimp only
  refine caught_own (news := (cc, oc) :: (I, oI) :: news) rfl rfl B' F' N' hx ?_ ?_
  · intro g₅ Q₅ s₅ K₅ F₅ LT post5
    obtain ⟨h5, gs5, dr5, tk5, oo5⟩ := s₅
    refine withCxM (n := n + 6) K₅ c.XB c.TB c.c.hh (by exact zq660 dep) (by exact zq661 uni) (by rfl) (by rfl) (by rfl) fun c5 => ?_
    clear c' F' N' B'
    repeat kt_at_get
    refine wpAny_newTuple ?_
    have kp : ∀ q o, h5.get? q = some o → (h5.push { cls := .type "tuple", data := .seq [.type "TypeError", .type "AttributeError"].toArray }).get? q = some o := fun _ _ z => Heap.get?_push_of_some _ z
    exact Looks.here (r := true) (exm_tup2 (K := KH w.params) (cls := .type "TypeError") (b := true) ((c5.X.keeps F₅.keep).keeps kp) (LT.keeps kp) (Heap.get?_push_size h5 rfl) (by rfl)) (post5 _ _ kp)
  intro h5 g5 tk5 T5 F5 N5 K5
  refine sPass (wpAny_execs_nil ?_)
  refine withCx (n := n + 6) K5 c.XB c.TB c.c.hh (by exact zq660 dep) (by exact zq661 uni) (by rfl) (by rfl) (by rfl) fun c5 => ?_
  clear c' F' N' B'
  repeat kt_at_get
  refine ldCell (by with_unfolding_all rfl) (by assumption) hcc (.head _) kc ?_ (by with_unfolding_all rfl) (by decide)
  refine Constant_none ?_
  refine is_ref_none ?_
  repeat kt_at_get
  refine callIter ?_
  refine iterLI (by assumption) (.tail _ (.head _)) hI ?_
  repeat kt_at_get
  obtain rfl : L' + 1 = cc := Option.some.inj hcc
  refine compA (cl := [(Str.ofString "key", L' + 1)]) (by with_unfolding_all rfl) (by with_unfolding_all rfl) (by rfl) (by decide) (by intro _; with_unfolding_all rfl) ?_
  repeat kt_at_get
  refine callRange (n := vs.length) (by assumption) (by assumption) ?_
  intro D h6 u v tk6 F6 N6 hD htk6
  repeat kt_at_get
  refine zipRL (n := vs.length) (D := D) (news := (D, { cls := .type "range", data := .fields #[.int 0 u, .int (vs.length : Int) t1, .int 1 v] }) :: (L' + 1, oc) :: news) (by exact zq663 hlen h2 hb) F6 (nsub N6 (by lcg_sub)) (.head _) hI (List.forall_mem_cons.mpr ⟨Ne.symm (hD _ (.tail _ (.head _))), List.forall_mem_cons.mpr ⟨Ne.symm (hncc (I, oI) (.head _)), hneI⟩⟩) ?_
  intro z TI TO i1 h7 F7 N7 Z7
  refine zipSelf N7 ?_
  refine zipRng (n := vs.length) (vs := vs) (P := fun i xs lo hi => ∃ τ t, xs = [.float (fl (S.getD i 0 * 1048576)) τ, .int i t, vs.getD i .none] ∧ lo ≤ τ ∧ τ < hi) c5.hh F7 N7 Z7 hI (.tail _ (.tail _ hm)) (Nat.le_refl _) (by exact zq664 hlen h2 hb) ?_ (by decide) rfl rfl rfl (by decide) ?_
  · intro i hi h' tk' t C oC mc nw Q F8 N8 hC hsub hn8 ea eb htk1 htk2 post8
    obtain ⟨T, share, level, tr, tg, tb, ev, hT, hs, hsh, hlv⟩ := hR i (by exact zq467 hlen hi)
    rw [ev] at eb
    refine Tuple_ (spliced_more ?_ rfl)
    refine Call_ ?_ (by with_unfolding_all rfl)
    refine ldCell (cc := L' + 1) (by with_unfolding_all rfl) N8 (by with_unfolding_all rfl) (hsub _ (.tail _ (.head _))) kc ?_ (by with_unfolding_all rfl) (by decide)
    refine callKF c5 (by constructor) ?_ (by with_unfolding_all rfl) (by with_unfolding_all rfl)
    refine spliced_more ?_ (by with_unfolding_all rfl)
    refine ldC rfl rfl N8 hC hn8 eb ?_ (by decide)
    refine spliced_none ?_
    refine kin c5 F8 ?_
    refine wpAny_call (hue_call (n := n) (c5.weak (by exact zq665)) F8 N8 (hsub _ (.tail _ (.tail _ hT))) (by exact zq515 hs) hsh hlv fun h9 tk9 t9 F9 N9 ht1 ht2 => ?_)
    have es : S.getD i 0 % 1024 = S.getD i 0 := Int.emod_eq_of_lt hs.1 hs.2
    rw [es]
    refine spliced_more ?_ (by with_unfolding_all rfl)
    refine ldC rfl rfl N9 hC hn8 ea ?_ (by decide)
    refine spliced_more ?_ (by with_unfolding_all rfl)
    refine ldC rfl rfl N9 hC hn8 eb ?_ (by decide)
    refine spliced_none ?_
    refine tupN F9 N9 (by show 3 < 1000; decide) ?_
    intro U h10 F10 N10 hU
    exact post8 U _ h10 _ F10 N10 hU ⟨t9, t, by rw [ev], ht1, ht2⟩ (by exact zq666 ht1 ht2)
  intro C Rr oC mc h8 tk8 ts ys lo hi oI8 F8 N8 hn8 hI8 hCR hCI hRI hC8 hR8 hI8' hT8 hyl hys hlo hmono htk8
  refine compEndA F8 N8 hn8 ?_ rfl rfl rfl ?_
  · exact List.forall_mem_cons.mpr ⟨Ne.symm hCR, List.forall_mem_cons.mpr ⟨Ne.symm hCI, hC8⟩⟩
  intro h9 F9 N9
  repeat kt_at_get
  refine truthyN (vs := ys) (by assumption) (.head _) (by exact zq667 hlen h2 hb hyl) ?_
  refine iteB (fun h => absurd h ?_) (fun _ => ?_)
  · cases ys with
    | nil => simp at hyl; exact (zq668 hlen h2 hb hyl).elim
    | cons a b => simp
  have hsk : ∀ i, ∃ τ : Nat, i < vs.length → ∃ T t, ys.getD i .none = .ref T ∧ (T, tupO [.float (fl (S.getD i 0 * 1048576)) τ, .int i t, vs.getD i .none]) ∈ ts ∧ lo i ≤ τ ∧ τ < hi i := fun i => by
    by_cases h : i < vs.length
    · obtain ⟨T, xs, e1, m1, τ, t, rfl, a, b⟩ := hys i h
      exact ⟨τ, fun _ => ⟨T, t, e1, m1, a, b⟩⟩
    · exact ⟨0, fun q => absurd q h⟩
  obtain ⟨τ, hτ⟩ := Classical.skolem.mp hsk
  clear hsk hys
  obtain ⟨φ, hφ⟩ := exists_phi vs.length τ (fun i => S.getD i 0 * 1048576) fun i j hij hj e => by
    obtain ⟨_, _, _, _, a1, b1⟩ := hτ i (by exact zq669 hlen hyl hij hj)
    obtain ⟨_, _, _, _, a2, b2⟩ := hτ j hj
    have := hmono i j hij hj
    exact zq670 e b1 a2 this
  have hfc : ∀ i j, i < ys.length → j < ys.length → ys.getD i .none = ys.getD j .none → (S.getD i 0 * 1048576, (i : Int)) = (S.getD j 0 * 1048576, (j : Int)) := by
    intro i j hi hj e
    obtain ⟨T1, t1, e1, m1, _⟩ := hτ i (by exact zq671 hlen hyl hi)
    obtain ⟨T2, t2, e2, m2, _⟩ := hτ j (by exact zq671 hlen hyl hj)
    rw [e1, e2] at e
    injection e with e
    subst e
    have := tupO_inj (Option.some.inj ((N9 _ (.tail _ (.tail _ (List.mem_append_left _ m1)))).1.symm.trans (N9 _ (.tail _ (.tail _ (List.mem_append_left _ m2)))).1))
    simp only [List.cons.injEq, Value.int.injEq] at this
    have : i = j := by omega
    rw [this]
  obtain ⟨κ, hκ⟩ := exists_kappa ys (fun i => (S.getD i 0 * 1048576, (i : Int))) hfc
  have hix : ∀ v ∈ ys, ∃ j T t, j < vs.length ∧ v = .ref T ∧ κ v = (S.getD j 0 * 1048576, (j : Int)) ∧ v = ys.getD j .none ∧ (T, tupO [.float (fl (S.getD j 0 * 1048576)) (τ j), .int j t, vs.getD j .none]) ∈ ts := by
    intro v hv
    obtain ⟨j, hj, rfl⟩ := List.getElem_of_mem hv
    have ej : ys[j] = ys.getD j .none := by simp [List.getD, hj]
    obtain ⟨T, t, e1, m1, _⟩ := hτ j (by exact zq671 hlen hyl hj)
    exact ⟨j, T, t, by exact zq671 hlen hyl hj, by rw [ej]; exact e1, by rw [ej]; exact hκ j hj, ej, m1⟩
  have hPT : ∀ v ∈ ys, PT φ ts v (κ v) := by
    intro v hv
    obtain ⟨j, T, t, hj, e1, e2, e3, m1⟩ := hix v hv
    obtain ⟨_, _, _, _, _, _, _, _, hs, _⟩ := hR j (by exact zq672 hlen hyl hj)
    have := hlo j hj
    obtain ⟨_, _, _, _, a1, _⟩ := hτ j hj
    rw [e2]
    exact ⟨T, _, t, _, e1, m1, τ j, rfl, by exact zq673 this a1, hφ j hj, by show (S.getD j 0 * 1048576).natAbs < _; exact zq523 hs⟩
  have hne : ∀ v ∈ ys, ∀ u ∈ ys, (κ v).2 = (κ u).2 → v = u ∧ (∃ a, v = .ref a ∧ ∃ p t c, (a, tupO [p, .int (κ v).2 t, .ref c]) ∈ ts) := by
    intro v hv u hu e
    obtain ⟨j, T, t, hj, e1, e2, e3, m1⟩ := hix v hv
    obtain ⟨j', T', t', hj', e1', e2', e3', m1'⟩ := hix u hu
    obtain ⟨c0, _, _, _, _, _, ec, _⟩ := hR j (by exact zq672 hlen hyl hj)
    rw [e2, e2'] at e
    have ejj : j = j' := by have : (j : Int) = j' := e; exact zq674 e
    subst ejj
    refine ⟨e3.trans e3'.symm, T, e1, .float (fl (S.getD j 0 * 1048576)) (τ j), t, c0, ?_⟩
    rw [e2]; rw [ec] at m1; exact m1
  have hLt : LtOK prog w ts (fun v u => plt (κ v) (κ u)) ys := fun v hv u hu A h₀ L s Q E hun hh X N q =>
    (PT.ltV (noneBooked X) N (hPT v hv) (hPT u hu) (hne v hv u hu)).op rfl (by exact zq330 hun) q
  repeat kt_at_get
  have N10 : ∀ {h : Heap}, News g5 L' h ((Rr, listOf ys.toArray ys.length) :: (I, oI8) :: (ts ++ (D, ({ cls := .type "range", data := .fields #[.int 0 u, .int (vs.length : Int) t1, .int 1 v] } : Obj)) :: (L' + 1, oc) :: news)) → News g5 L' h ((Rr, listOf ys.toArray ys.length) :: (I, oI8) :: (ts ++ news)) := fun N => nsub N (by lcg_sub)
  have hneR : ∀ p ∈ (I, oI8) :: (ts ++ news), p.1 ≠ Rr := List.forall_mem_cons.mpr ⟨Ne.symm hRI, fun p hp => hR8 p (by revert p; lcg_sub)⟩
  have hneI' : ∀ p ∈ ts ++ news, p.1 ≠ I := fun p hp => hI8' p (by revert p; lcg_sub)
  refine wpAny_call (heapify_max_call (lt := fun v u => plt (κ v) (κ u)) (n := n + 1) (c5.weak (by exact zq675)) (by assumption) (N10 (by assumption)) hneR (hLt.weak fun p hp => .tail _ (List.mem_append_left _ hp)) (by exact zq676 hlen h2 hb hyl) fun h10 tk10 F10 N11 htk10 => ⟨rfl, ?_⟩)
  have hperm := hfy_perm (lt := fun a b => plt (κ b) (κ a)) (ys.length / 2) ys (by exact zq677 hlen h2 hb hyl)
  revert N11 hperm
  generalize hfy (fun a b => plt (κ b) (κ a)) (ys.length / 2) ys = rs
  intro N11 hperm
  have hrl : rs.length = vs.length := hperm.length_eq.trans hyl
  repeat kt_at_get
  refine itemN0 (vs := rs) (by assumption) (.head _) (by exact zq678 hlen h2 hb hyl hrl) (by exact zq679 hlen h2 hb hyl hrl) ?_ (by with_unfolding_all rfl) (by intro _; with_unfolding_all rfl)
  obtain ⟨j0, T0, t0, hj0, e0, _, _, m0⟩ := hix _ (hperm.mem_iff.mp (getD_mem (vs := rs) (i := 0) (by exact zq678 hlen h2 hb hyl hrl)))
  rw [e0]
  repeat kt_at_get
  refine tupI0 (by assumption) (.tail _ (.tail _ (List.mem_append_left _ m0))) (by show 0 < 3; decide) (by show 3 < 1000; decide) ?_ (by with_unfolding_all rfl)
  repeat kt_at_get
  refine iterLI (by assumption) (.tail _ (.head _)) hI8 ?_
  refine forL (I := fun k s' => ∃ h' tk' m₂ oI, s' = ⟨h', gs, dr, tk', oo⟩ ∧ Fr g5 L' h' m₂ ∧ News g5 L' h' ((I, oI) :: (Rr, listOf rs.toArray ys.length) :: (ts ++ news)) ∧ LI oI l vs.length ∧ m₂ (Str.ofString "result") = some (.ref Rr))
    (Z := fun s' => ∃ h' tk' m₂, s' = ⟨h', gs, dr, tk', oo⟩ ∧ Fr g5 L' h' m₂ ∧ News g5 L' h' ((Rr, listOf rs.toArray ys.length) :: (ts ++ news)) ∧ m₂ (Str.ofString "result") = some (.ref Rr)) ?turn 0 ?init ?exit
  case init => exact ⟨_, _, _, oI8, rfl, by assumption, nrot2 (by assumption), hI8, by kt_at_in⟩
  case turn =>
    rintro k s' ⟨h', tk', m₂, oI', rfl, F12, N12, hLI, q1⟩
    refine nextList c5.hh F12 N12 hLI (List.forall_mem_cons.mpr ⟨hRI, hneI'⟩) (.tail _ (List.mem_append_right _ hm)) ?_ ?_
    · intro o' h13 hlt; exact absurd hlt (Nat.lt_irrefl _)
    · intro h13 _ F13 N13
      exact ⟨_, _, _, rfl, F13, N13, q1⟩
  case exit =>
    clear k1 k2
    rintro s' ⟨h', tk', m₂, rfl, F12, N12, q1⟩
    repeat kt_at_get
    refine methN PySem.F.slot_list_sort PySem.F.type_list_sort (by assumption) (.head _) ?_
    repeat kt_at_get
    refine sortN (T := .type "float") (lt := fun v u => plt (κ v) (κ u)) (by have := c5.uni; exact zq680 this) F12 N12 (fun p hp => hneR p (.tail _ hp)) c5.X plt_swo (by exact zq681 hlen h2 hb hyl hrl) (by exact zq682 hlen h2 hb hyl hrl) (by decide) (fun h N v hv => (hPT v (hperm.mem_iff.mp hv)).head (nsub N fun p hp => List.mem_append_left _ hp)) (fun h X N v hv u hu => ?_) ?_
    · have e1 : (Value.type "float" != Value.type "tuple") = true := by decide
      rw [e1]
      exact PT.srt (noneBooked X) (nsub N fun p hp => List.mem_append_left _ hp) (hPT v (hperm.mem_iff.mp hv)) (hPT u (hperm.mem_iff.mp hu)) (hne v (hperm.mem_iff.mp hv) u (hperm.mem_iff.mp hu))
    intro h13 us e2 F13 N13 hp2 hsort
    refine ⟨rfl, ?_⟩
    have hup : us.Perm ys := hp2.trans hperm
    have hul : us.length = vs.length := hp2.length_eq.trans hrl
    repeat kt_at_get
    refine compE (cl := []) (by with_unfolding_all rfl) (by rfl) (by decide) (by intro _; with_unfolding_all rfl) ?_
    repeat kt_at_get
    refine iterList (vs := us) F13 N13 (.head _) ?_
    intro I2 oI2 h14 F14 N14 hI2 hneI2
    refine compList (vs := us) (P := fun i x _ _ _ => x = vs.getD (κ (us.getD i .none)).2.toNat .none) c5.hh F14 N14 hneI2 hI2 (.head _) (by exact zq683 hlen h2 hb hyl hrl hul) (fun _ _ _ _ _ _ h _ => h) ?_ (by decide) rfl ?_
    · intro i hi h' tk C oC o' mc nw Q F5 N5 hLI hnC hsub hn5 htk post5
      obtain ⟨j, T, t, hj, e1, e2, e3, m1⟩ := hix _ (hup.mem_iff.mp (getD_mem (vs := us) hi))
      have hxj : vs.getD j .none = vs.getD (κ (us.getD i .none)).2.toNat .none := by rw [e2]; rfl
      rw [e1]
      refine wpAny_letOwnedTupleGo_listiter (i := i + 1) (l := Rr) ⟨o', (N5 _ (.tail _ (.head _))).1, hLI.1, hLI.2⟩ ?_
      refine unpackC (vs := [.float (fl (S.getD j 0 * 1048576)) (τ j), .int j t, vs.getD j .none]) c5.hh F5 N5 (.tail _ (.tail _ (hsub _ (.tail _ (List.mem_append_left _ m1))))) rfl rfl ?_
      intro h6 F6 N6
      show wpAny _ _ (assignInOrder [assign _ _, assign _ _, assign _ _] [_, _, _]) _ _ _
      refine assignInOrder_cons (PyProof.Rows.assign_Name (stC rfl rfl F6 N6 hnC hn5 ?_))
      intro h7 oC7 F7 N7 hn7
      refine assignInOrder_cons (PyProof.Rows.assign_Name (stC rfl rfl F7 N7 hnC hn7 ?_))
      intro h8 oC8 F8 N8 hn8
      refine assignInOrder_cons (PyProof.Rows.assign_Name (stC rfl rfl F8 N8 hnC hn8 ?_))
      intro h9 oC9 F9 N9 hn9
      refine assignInOrder_nil ?_
      refine ldC rfl rfl N9 (.head _) hn9 (by kt_at_in) ?_ (by decide)
      exact post5 _ [] _ _ _ _ F9 N9 (fun p hp => nomatch hp) hn9 (fun p hp => nomatch hp) hxj (by exact zq684)
    intro C D2 oC mc h15 tk15 ts2 ys2 lo2 hi2 F15 N15 hn15 hCD hC15 hD15 hT15 hyl2 hys2 hlo2 hmono2 htk15
    refine compEndE F15 N15 hn15 (List.forall_mem_cons.mpr ⟨Ne.symm hCD, hC15⟩) fun h16 F16 N16 => ?_
    have N16' : News g5 L' h16 ((D2, listOf ys2.toArray ys2.length) :: news) := nsub N16 (List.forall_mem_cons.mpr ⟨.head _, fun p hp => by simp only [List.mem_cons, List.mem_append, hp, or_true]⟩)
    repeat kt_at_get
    have hfs : [env].filterMap (·.frame) = [L] := by simp [c.hf]
    rw [hfs] at T5
    refine leaveS0_ F16 N16' T5 fun F17 N17 => ?_
    intro htok
    have eS : ys.map (fun v => S.getD (κ v).2.toNat 0) = S := by
      apply List.ext_getElem
      · simp; exact zq594 hlen hyl
      · intro i h1 h2
        have hi : i < ys.length := by simpa using h1
        have := hκ i hi
        have ej : ys[i] = ys.getD i .none := by simp [List.getD, hi]
        simp only [List.getElem_map]
        rw [ej, this]
        simp [List.getD, h2]
    refine post _ _ D2 ys2 (us.map fun v => S.getD (κ v).2.toNat 0) F17 N17 (fun p hp => hD15 p (by simp only [List.mem_cons, List.mem_append, hp, or_true])) (by simp [hyl2]) (fun i hi => ?_) ((hup.map _).trans (.of_eq eS)) ?_ htok
    · have hi' : i < us.length := by simpa using hi
      obtain ⟨j, T, t, hj, e1, e2, e3, m1⟩ := hix _ (hup.mem_iff.mp (getD_mem (vs := us) hi'))
      have e4 : (us.map fun v => S.getD (κ v).2.toNat 0).getD i 0 = S.getD (κ (us.getD i .none)).2.toNat 0 := by simp [List.getD, hi']
      rw [e4, hys2 i hi', e2]
      exact hR j (by exact zq685 hlen hyl hrl hul hyl2 hj)
    · rw [List.pairwise_map]
      refine hsort.imp_of_mem fun {a b} ha hb h => ?_
      obtain ⟨j, _, _, hj, _, e2, _, _⟩ := hix _ (hup.mem_iff.mp ha)
      obtain ⟨j', _, _, hj', _, e2', _, _⟩ := hix _ (hup.mem_iff.mp hb)
      rw [e2, e2', plt_iff] at h
      rw [e2, e2']
      show S.getD j 0 ≤ S.getD j' 0
      exact zq686 h
end

theorem Rel2.push {α : Type} [Inhabited α] {P : Value → α → Prop} {ys : List Value} {zs : List α} {v : Value} {z : α} (h : Rel2 P ys zs) (hv : P v z) : Rel2 P (ys ++ [v]) (zs ++ [z]) := by
  refine ⟨by simp [h.1], fun i hi => ?_⟩
  have hl := h.1
  rw [List.length_append, List.length_singleton] at hi
  simp only [List.getD_eq_getElem?_getD]
  by_cases e : i = zs.length
  · subst e
    rw [List.getElem?_append_right (by exact zq732 hl), List.getElem?_append_right (Nat.le_refl _), hl]
    simpa using hv
  · rw [List.getElem?_append_left (by exact zq733 hi hl e), List.getElem?_append_left (by exact zq358 hi hl e)]
    have := h.2 i (by exact zq358 hi hl e)
    simpa only [List.getD_eq_getElem?_getD] using this
noncomputable def cell (z : Int × Int) (p k : Nat) : Int × Int := (-(-z.1 / (p : Int)), (z.2 + (k : Int) * (-z.1 / (p : Int))) % 1024)
noncomputable def rowOf (z : Int × Int) (p : Nat) : List (Int × Int) := (List.range p).map (cell z p)
noncomputable def partOf : Nat → Nat
  | 0 => 1
  | 1 => 2
  | 2 => 4
  | _ => 8
noncomputable def tab1 (z : Int × Int) : Nat → List (Int × Int)
  | 0 => []
  | j + 1 => tab1 z j ++ rowOf z (partOf j)
noncomputable def tabOf : List (Int × Int) → List (Int × Int)
  | [] => []
  | z :: r => tab1 z 4 ++ tabOf r
theorem tabOf_append (a b : List (Int × Int)) : tabOf (a ++ b) = tabOf a ++ tabOf b := by
  induction a with
  | nil => rfl
  | cons z r ih => simp [tabOf, ih]
theorem tab1_len (z : Int × Int) : (tab1 z 4).length = 15 := by simp [tab1, rowOf, partOf]
theorem tab1_len_le (z : Int × Int) (j : Nat) (hj : j ≤ 4) : (tab1 z j).length ≤ 15 := by
  have : j = 0 ∨ j = 1 ∨ j = 2 ∨ j = 3 ∨ j = 4 := by exact zq734 hj
  rcases this with rfl | rfl | rfl | rfl | rfl <;> simp [tab1, rowOf, partOf]
theorem tabOf_len (gs : List (Int × Int)) : (tabOf gs).length = 15 * gs.length := by
  induction gs with
  | nil => rfl
  | cons z r ih => simp only [tabOf, List.length_append, tab1_len, ih, List.length_cons]; exact zq735
theorem rowOf_range (z : Int × Int) (p k : Nat) : (List.range (k + 1)).map (cell z p) = (List.range k).map (cell z p) ++ [cell z p k] := by rw [List.range_succ, List.map_append]; rfl
section
variable {prog : Program} {w : World} {n : Nat} {A : Around} {h₀ : Heap} {L : Addr} {m : Str → Option Value} {news : List (Addr × Obj)} {hp : Heap} {gs : Array GenState} {dr : Drawn} {tk₀ : Nat} {oo : OsState} {R : Result → Shared → Prop} {E : Value → Shared → Prop}
theorem tup4 {M : Model} {Q : Value → Shared → Prop} {ta tb tc td : Tok} (F : Fr h₀ L hp m) (N : News h₀ L hp news)
    (h : ∀ D h' (xs4 : List Value), xs4.length = 4 → (∀ j, j < 4 → ∃ t, xs4.getD j .none = .int ((partOf j : Nat) : Int) t) → Fr h₀ L h' m → News h₀ L h' ((D, tupO xs4) :: news) → (∀ p ∈ news, p.1 ≠ D) → Q (.ref D) ⟨h', gs, dr, tk₀, oo⟩) :
    wpAny M A (newTuple [.int 1 ta, .int 2 tb, .int 4 tc, .int 8 td]) Q E ⟨hp, gs, dr, tk₀, oo⟩ := by
  refine tupN F N (by show 4 < 1000; decide) fun D h' F' N' hD => h D h' _ rfl (fun j hj => ?_) F' N' hD
  have : j = 0 ∨ j = 1 ∨ j = 2 ∨ j = 3 := by exact zq736 hj
  rcases this with rfl | rfl | rfl | rfl <;> exact ⟨_, rfl⟩
inductive TbI (g : Heap) (L' I1 P Dg : Addr) (nw : List (Addr × Obj)) (row : List Int) (k : Nat) (h' : Heap) (tk : Nat) : Prop
  | mk (m₂ : Str → Option Value) (i : Nat) (tv : List Value) (e : Nat) (ts : List (Addr × Obj)) (o1 : Obj) (hki : k + i = row.length) (F : Fr g L' h' m₂)
    (N : News g L' h' ((I1, o1) :: (P, listOf (List.toArray tv) e) :: (ts ++ nw))) (hLI : LI o1 Dg i)
    (qP : ∀ q ∈ ts, q.1 ≠ P) (qI : ∀ q ∈ ts, q.1 ≠ I1) (hTs : Tups ts) (hTV : Rel2 (PI ts) tv (tabOf ((gapsOf row).take i))) (q1 : m₂ (Str.ofString "table") = some (.ref P)) : TbI g L' I1 P Dg nw row k h' tk
inductive TbZ (g : Heap) (L' P : Addr) (nw : List (Addr × Obj)) (zs : List (Int × Int)) (h' : Heap) (tk : Nat) : Prop
  | mk (m₂ : Str → Option Value) (tv : List Value) (e : Nat) (ts : List (Addr × Obj)) (F : Fr g L' h' m₂) (N : News g L' h' ((P, listOf (List.toArray tv) e) :: (ts ++ nw)))
    (qP : ∀ q ∈ ts, q.1 ≠ P) (hTs : Tups ts) (hTV : Rel2 (PI ts) tv zs) (q1 : m₂ (Str.ofString "table") = some (.ref P)) : TbZ g L' P nw zs h' tk
inductive TcI (g : Heap) (L' I1 I2 P T4 : Addr) (nw : List (Addr × Obj)) (z0 : List (Int × Int)) (gap spot : Int) (ta tb : Tok) (k : Nat) (h' : Heap) (tk : Nat) : Prop
  | mk (m₂ : Str → Option Value) (j : Nat) (tv : List Value) (e : Nat) (ts : List (Addr × Obj)) (o2 : Obj) (hkj : k + j = 4) (F : Fr g L' h' m₂)
    (N : News g L' h' ((I2, o2) :: (P, listOf (List.toArray tv) e) :: (ts ++ nw))) (hTI : TI o2 T4 j) (qP : ∀ q ∈ ts, q.1 ≠ P) (qI : ∀ q ∈ ts, q.1 ≠ I1) (qI2 : ∀ q ∈ ts, q.1 ≠ I2)
    (hTs : Tups ts) (hTV : Rel2 (PI ts) tv (z0 ++ tab1 (gap, spot) j)) (q1 : m₂ (Str.ofString "table") = some (.ref P)) (q2 : m₂ (Str.ofString "gap") = some (.int gap ta)) (q3 : m₂ (Str.ofString "spot") = some (.int spot tb)) :
    TcI g L' I1 I2 P T4 nw z0 gap spot ta tb k h' tk
inductive TcZ (g : Heap) (L' I1 P : Addr) (nw : List (Addr × Obj)) (zs : List (Int × Int)) (h' : Heap) (tk : Nat) : Prop
  | mk (m₂ : Str → Option Value) (tv : List Value) (e : Nat) (ts : List (Addr × Obj)) (F : Fr g L' h' m₂) (N : News g L' h' ((P, listOf (List.toArray tv) e) :: (ts ++ nw)))
    (qP : ∀ q ∈ ts, q.1 ≠ P) (qI : ∀ q ∈ ts, q.1 ≠ I1) (hTs : Tups ts) (hTV : Rel2 (PI ts) tv zs) (q1 : m₂ (Str.ofString "table") = some (.ref P)) : TcZ g L' I1 P nw zs h' tk
inductive TdI (g : Heap) (L' I1 I2 I3 P : Addr) (nw : List (Addr × Obj)) (z0 : List (Int × Int)) (gap spot : Int) (ta tb : Tok) (pj k : Nat) (h' : Heap) (tk : Nat) : Prop
  | mk (m₂ : Str → Option Value) (kk : Nat) (tv : List Value) (e : Nat) (ts : List (Addr × Obj)) (hkk : k + kk = pj) (F : Fr g L' h' m₂)
    (N : News g L' h' ((I3, riO kk ((pj : Int) - kk) 1) :: (P, listOf (List.toArray tv) e) :: (ts ++ nw))) (qP : ∀ q ∈ ts, q.1 ≠ P) (qI : ∀ q ∈ ts, q.1 ≠ I1) (qI2 : ∀ q ∈ ts, q.1 ≠ I2) (qI3 : ∀ q ∈ ts, q.1 ≠ I3)
    (hTs : Tups ts) (hTV : Rel2 (PI ts) tv (z0 ++ (List.range kk).map (cell (gap, spot) pj))) (q1 : m₂ (Str.ofString "table") = some (.ref P)) (q2 : m₂ (Str.ofString "gap") = some (.int gap ta)) (q3 : m₂ (Str.ofString "spot") = some (.int spot tb))
    (tw : Tok) (q4 : m₂ (Str.ofString "wide") = some (.int (-gap / (pj : Int)) tw)) : TdI g L' I1 I2 I3 P nw z0 gap spot ta tb pj k h' tk
inductive TdZ (g : Heap) (L' I1 I2 P : Addr) (nw : List (Addr × Obj)) (zs : List (Int × Int)) (gap spot : Int) (ta tb : Tok) (h' : Heap) (tk : Nat) : Prop
  | mk (m₂ : Str → Option Value) (tv : List Value) (e : Nat) (ts : List (Addr × Obj)) (F : Fr g L' h' m₂) (N : News g L' h' ((P, listOf (List.toArray tv) e) :: (ts ++ nw)))
    (qP : ∀ q ∈ ts, q.1 ≠ P) (qI : ∀ q ∈ ts, q.1 ≠ I1) (qI2 : ∀ q ∈ ts, q.1 ≠ I2) (hTs : Tups ts) (hTV : Rel2 (PI ts) tv zs) (q1 : m₂ (Str.ofString "table") = some (.ref P)) (q2 : m₂ (Str.ofString "gap") = some (.int gap ta)) (q3 : m₂ (Str.ofString "spot") = some (.int spot tb)) :
    TdZ g L' I1 I2 P nw zs gap spot ta tb h' tk
theorem table_call {l : Addr} {vs : List Value} {S : List Int} {e : Nat} (c : Cx (n + 4) w A h₀ L) (F : Fr h₀ L hp m) (N : News h₀ L hp news) (hm : (l, listOf vs.toArray e) ∈ news) (hI : IntsAre vs S) (h1 : 1 ≤ S.length) (h64 : S.length < 30)
    (post : ∀ h' tk D ts (ys : List Value) e' row, Fr h₀ L h' m → News h₀ L h' ((D, listOf ys.toArray e') :: (ts ++ news)) → (∀ p ∈ ts ++ news, p.1 ≠ D) → Tups ts → row.Perm S → row.Pairwise (· ≤ ·) → Rel2 (PI ts) ys (tabOf (gapsOf row)) → tk₀ ≤ tk → R (.ok (.ret (.ref D))) ⟨h', gs, dr, tk, oo⟩) :
    codeAny (model prog w) A (.call (.ref 130) ⟨[.ref l], []⟩) R ⟨hp, gs, dr, tk₀, oo⟩ := by
  refine codeAny_mt ?_
  refine c.call F N (f := 130) (binds := [(Str.ofString "spots", .ref l)]) (nb := 1) (ho := rfl) (hcd := rfl) (BindsTo.of_eq rfl) (locs rfl) ?_ rfl rfl rfl rfl (by decide)
  clear F N c
  intro g L' h₁ m' hm' c' F' N'
  have k1 : m' (Str.ofString "spots") = some (.ref l) := (hm' _).trans rfl
  clear hm'
  repeat kt_at_item
  refine listN (by assumption) (by assumption) (by decide) ?_
  intro P h2 F2 N2 hP
  repeat kt_at_item
  refine wpAny_call (gaps_call (n := n + 1) c' (by assumption) (by assumption) (.tail _ hm) hI h1 (by exact zq737 h1 h64) fun h3 tk3 Dg tsg ys0 row F3 N3 hDg hTg hP0 hS0 hR0 htk3 => ?_)
  have hlr : row.length = S.length := hP0.length_eq
  have hlg : (gapsOf row).length = row.length := gapsOf_length _ (by exact zq738 h1 h64 hlr)
  have hly : ys0.length = row.length := hR0.1.trans hlg
  repeat kt_at_item
  refine iterList (vs := ys0) F3 N3 (.head _) ?_
  intro I1 o1 h4 F4 N4 hI1 hneI1
  have dPD : P ≠ Dg := hDg (P, _) (List.mem_append_right _ (.head _))
  have dPI : P ≠ I1 := hneI1 (P, _) (.tail _ (List.mem_append_right _ (.head _)))
  have dDI : Dg ≠ I1 := hneI1 (Dg, _) (.head _)
  have hnP : ∀ p ∈ (Dg, listOf ys0.toArray ys0.length) :: (tsg ++ news), p.1 ≠ P := List.forall_mem_cons.mpr ⟨Ne.symm dPD, fun p hp => by
    rcases List.mem_append.mp hp with hp | hp
    · exact Tups.off hTg N4 (fun q hq => .tail _ (.tail _ (List.mem_append_left _ hq))) (.tail _ (.tail _ (List.mem_append_right _ (.head _)))) p hp
    · exact hP p hp⟩
  have hnI1 : ∀ p ∈ (Dg, listOf ys0.toArray ys0.length) :: (tsg ++ news), p.1 ≠ I1 := fun p hp => hneI1 p (by
    rcases List.mem_cons.mp hp with rfl | hp
    · exact .head _
    · rcases List.mem_append.mp hp with hp | hp
      · exact .tail _ (List.mem_append_left _ hp)
      · exact .tail _ (List.mem_append_right _ (.tail _ hp)))
  obtain ⟨nw, hnw⟩ : ∃ nw, nw = (Dg, listOf ys0.toArray ys0.length) :: (tsg ++ news) := ⟨_, rfl⟩
  have mDg : (Dg, listOf ys0.toArray ys0.length) ∈ nw := hnw ▸ .head _
  have mTg : ∀ q ∈ tsg, q ∈ nw := fun q hq => hnw ▸ .tail _ (List.mem_append_left _ hq)
  rw [← hnw] at hnP hnI1
  have N4 : News g L' h4 ((I1, o1) :: (P, listOf (List.toArray []) 0) :: ([] ++ nw)) := nsub N4 (by rw [hnw]; lcg_sub)
  refine forLI (TbI g L' I1 P Dg nw row) (TbZ g L' P nw (tabOf (gapsOf row))) ?turn row.length ?init ?exit
  case init => exact ⟨_, 0, [], 0, [], o1, rfl, F4, N4, hI1, fun _ h => (nomatch h), fun _ h => (nomatch h), fun _ h => (nomatch h), ⟨rfl, fun i hi => absurd hi (Nat.not_lt_zero _)⟩, by kt_at_in⟩
  case turn =>
    clear k1 hneI1
    rintro k h' tk B Y hB ⟨m₂, i, tv, e, ts, o1, hki, F5, N5, hLI, qP, qI, hTs, hTV, q1⟩
    refine nextList c'.hh F5 N5 hLI (List.forall_mem_cons.mpr ⟨dPI, fun q hq => (List.mem_append.mp hq).elim (qI q) (hnI1 q)⟩) (.tail _ (List.mem_append_right _ mDg)) ?_ ?_
    · intro o1' h6 hi F6 N6 hLI'
      have hi : i < (gapsOf row).length := by exact zq739 hlg hly hki hi
      obtain ⟨aT, ta, tb, eT, mT⟩ := hR0.2 i hi
      obtain ⟨gap, spot, ez⟩ : ∃ gap spot, (gapsOf row).getD i default = (gap, spot) := ⟨_, _, rfl⟩
      rw [ez] at mT
      rw [eT]
      refine wpAny_letOwnedTupleGo_listiter (i := i + 1) (l := Dg) ⟨o1', (N6 _ (.head _)).1, hLI'.1, hLI'.2⟩ ?_
      refine unpackC (vs := [.int gap ta, .int spot tb]) c'.hh F6 N6 (.tail _ (.tail _ (List.mem_append_right _ (mTg _ mT)))) rfl rfl ?_
      intro h7 F7 N7
      show wpAny _ _ (assignInOrder [assign _ _, assign _ _] [_, _]) _ _ _
      refine assignInOrder_cons ?_
      repeat kt_at_get
      refine assignInOrder_cons ?_
      repeat kt_at_get
      refine assignInOrder_nil ?_
      repeat kt_at_get
      refine tup4 (by assumption) (by assumption) ?_
      intro T4 h8 xs4 hx4 hv4 F8 N8 hT4
      refine iterTup F8 N8 (.head _) ?_
      intro I2 o2 h9 F9 N9 hTI hI2
      have hlz : (tabOf ((gapsOf row).take i)).length ≤ 450 := by rw [tabOf_len, List.length_take]; exact zq740 h1 h64 hlr hlg hly hki (by assumption)
      have eZ : tabOf ((gapsOf row).take (i + 1)) = tabOf ((gapsOf row).take i) ++ tab1 (gap, spot) 4 := by rw [take_next hi, tabOf_append, ez]; simp [tabOf]
      have dT4P : T4 ≠ P := Ne.symm (hT4 (P, _) (.tail _ (.head _)))
      have dT4I : T4 ≠ I1 := Ne.symm (hT4 (I1, _) (.head _))
      have dI2P : I2 ≠ P := Ne.symm (hI2 (P, _) (.tail _ (.tail _ (.head _))))
      have dI2I : I2 ≠ I1 := Ne.symm (hI2 (I1, _) (.tail _ (.head _)))
      have dI2T : T4 ≠ I2 := hI2 (T4, _) (.head _)
      have hnT4 : ∀ p ∈ nw, p.1 ≠ T4 := fun p hp => hT4 p (.tail _ (.tail _ (List.mem_append_right _ hp)))
      have hnI2 : ∀ p ∈ nw, p.1 ≠ I2 := fun p hp => hI2 p (.tail _ (.tail _ (.tail _ (List.mem_append_right _ hp))))
      refine forLI (TcI g L' I1 I2 P T4 ((T4, tupO xs4) :: (I1, o1') :: nw) (tabOf ((gapsOf row).take i)) gap spot ta tb) (TcZ g L' I1 P ((T4, tupO xs4) :: (I1, o1') :: nw) (tabOf ((gapsOf row).take (i + 1)))) ?turn2 4 ?init2 ?exit2
      case init2 =>
        refine ⟨_, 0, tv, e, ts, o2, rfl, F9, nsub N9 (by lcg_sub), hTI, qP, qI, ?_, hTs, by rw [show tab1 (gap, spot) 0 = [] from rfl, List.append_nil]; exact hTV, by kt_at_in, by kt_at_in, by kt_at_in⟩
        exact fun q hq => hI2 q (.tail _ (.tail _ (.tail _ (List.mem_append_left _ hq))))
      case exit2 =>
        rintro h' tk ⟨m₂, tv, e, ts, F10, N10, qP, qI, hTs, hTV, q1⟩
        repeat kt_at_get
        exact hB.next (k - 1) (by exact zq741 hlg hly hki (by assumption)) ⟨_, i + 1, tv, e, ts, o1', by exact zq742 hlg hly hki (by assumption), F10, nsub N10 (by lcg_sub), hLI', qP, qI, hTs, hTV, q1⟩
      case turn2 =>
        clear qP qI hTs hTV q1 hT4 hI2
        rintro k2 h' tk B2 Y2 hB2 ⟨m₂, j, tv, e, ts, o2, hkj, F10, N10, hTI, qP, qI, qI2, hTs, hTV, q1, q2, q3⟩
        refine nextTup c'.hh F10 N10 hTI ?_ (.tail _ (List.mem_append_right _ (.head _))) ?_ ?_
        · refine List.forall_mem_cons.mpr ⟨Ne.symm dI2P, fun q hq => ?_⟩
          rcases List.mem_append.mp hq with hq | hq
          · exact qI2 q hq
          · rcases List.mem_cons.mp hq with rfl | hq
            · exact dI2T
            · rcases List.mem_cons.mp hq with rfl | hq
              · exact Ne.symm dI2I
              · exact hnI2 q hq
        · intro o2' h11 hj F11 N11 hTI'
          have hj : j < 4 := by exact zq743 hx4 hkj hj
          obtain ⟨tp, ep⟩ := hv4 j hj
          have hp8 : 1 ≤ partOf j ∧ partOf j ≤ 8 := by
            have : j = 0 ∨ j = 1 ∨ j = 2 ∨ j = 3 := by exact zq744 hx4 hkj (by assumption)
            rcases this with rfl | rfl | rfl | rfl <;> decide
          rw [ep]
          have eT : tab1 (gap, spot) (j + 1) = tab1 (gap, spot) j ++ rowOf (gap, spot) (partOf j) := rfl
          have hlt := tab1_len_le (gap, spot) j (by exact zq745 hx4 hkj (by assumption))
          generalize partOf j = pj at *
          refine wpAny_pure ?_
          repeat kt_at_get
          refine UnaryOp_ ?_
          repeat kt_at_get
          refine iNeg ?_
          repeat kt_at_get
          refine iFloor (by exact zq746 hp8) (by exact zq747 hp8) ?_
          repeat kt_at_get
          refine callRange (by assumption) (by assumption) ?_
          intro Dr h12 u v tk12 F12 N12 hDr htk12
          repeat kt_at_get
          refine iterRange (n := pj) (by exact zq748 hp8) F12 N12 (.head _) ?_
          intro I3 h13 F13 N13 hI3
          have dI3P : I3 ≠ P := Ne.symm (hI3 (P, _) (.tail _ (.tail _ (.head _))))
          have hlv : tv.length = (tabOf ((gapsOf row).take i)).length + (tab1 (gap, spot) j).length := by rw [hTV.1, List.length_append]
          obtain ⟨nw3, hnw3⟩ : ∃ nw3, nw3 = (I2, o2') :: (T4, tupO xs4) :: (I1, o1') :: nw := ⟨_, rfl⟩
          have hnI3 : ∀ q ∈ nw3, q.1 ≠ I3 := fun q hq => hI3 q (by
            rw [hnw3] at hq
            rcases List.mem_cons.mp hq with rfl | hq
            · exact .tail _ (.head _)
            · exact .tail _ (.tail _ (.tail _ (List.mem_append_right _ hq))))
          have hnP3 : ∀ q ∈ nw3, q.1 ≠ P := by
            rw [hnw3]; exact List.forall_mem_cons.mpr ⟨dI2P, List.forall_mem_cons.mpr ⟨dT4P, List.forall_mem_cons.mpr ⟨Ne.symm dPI, hnP⟩⟩⟩
          have mI2 : (I2, o2') ∈ nw3 := hnw3 ▸ .head _
          have mI1 : (I1, o1') ∈ nw3 := hnw3 ▸ .tail _ (.tail _ (.head _))
          have N13 : News g L' h13 ((I3, riO ((0 : Nat) : Int) ((pj : Int) - ((0 : Nat) : Int)) 1) :: (P, listOf (List.toArray tv) e) :: (ts ++ nw3)) := by
            have e0 : riO ((0 : Nat) : Int) ((pj : Int) - ((0 : Nat) : Int)) 1 = riO 0 pj 1 := by simp
            rw [e0, hnw3]
            exact nsub N13 (by lcg_sub)
          refine forLI (TdI g L' I1 I2 I3 P nw3 (tabOf ((gapsOf row).take i) ++ tab1 (gap, spot) j) gap spot ta tb pj) (TdZ g L' I1 I2 P nw3 (tabOf ((gapsOf row).take i) ++ tab1 (gap, spot) (j + 1)) gap spot ta tb) ?turn3 pj ?init3 ?exit3
          case init3 =>
            exact ⟨_, 0, tv, e, ts, by exact zq749, F13, N13, qP, qI, qI2, fun q hq => hI3 q (.tail _ (.tail _ (.tail _ (List.mem_append_left _ hq)))), hTs, by simpa using hTV, by kt_at_in, by kt_at_in, by kt_at_in, _, by kt_at_in⟩
          case exit3 =>
            rintro h' tk ⟨m₂, tv, e, ts, F14, N14, qP, qI, qI2, hTs, hTV, q1, q2, q3⟩
            repeat kt_at_get
            exact hB2.next (k2 - 1) (by exact zq750 hx4 hkj (by assumption)) ⟨_, j + 1, tv, e, ts, o2', by exact zq751 hx4 hkj (by assumption), F14, nsub N14 (by rw [hnw3]; lcg_sub), hTI', qP, qI, qI2, hTs, hTV, q1, q2, q3⟩
          case turn3 =>
            clear qP qI qI2 hTs hTV q1 q2 q3 hI3 hDr
            rintro k3 h' tk B3 Y3 hB3 ⟨m₂, kk, tv', e, ts, hkk, F14, N14, qP, qI, qI2, qI3, hTs, hTV, q1, q2, q3, tw, q4⟩
            have hlv' : tv'.length = (tabOf ((gapsOf row).take i)).length + (tab1 (gap, spot) j).length + kk := by rw [hTV.1]; simp; exact zq752
            refine nextRange c'.hh F14 N14 (List.forall_mem_cons.mpr ⟨Ne.symm dI3P, fun q hq => (List.mem_append.mp hq).elim (qI3 q) (hnI3 q)⟩) ?_ ?_
            · intro h15 hpos F15 N15
              have er : riO ((kk : Int) + 1) ((pj : Int) - kk - 1) 1 = riO ((kk + 1 : Nat) : Int) ((pj : Int) - ((kk + 1 : Nat) : Int)) 1 := by
                rw [show ((kk + 1 : Nat) : Int) = (kk : Int) + 1 by exact zq581, show (pj : Int) - ((kk : Int) + 1) = (pj : Int) - kk - 1 by exact zq753]
              rw [er] at N15
              refine wpAny_pure ?_
              repeat kt_at_get
              refine methN PySem.F.slot_list_append PySem.F.type_list_append (by assumption) (.tail _ (.head _)) ?_
              repeat kt_at_get
              refine UnaryOp_ ?_
              repeat kt_at_get
              refine iNeg ?_
              repeat kt_at_get
              refine iMulS (by exact zq754 hp8 hkk) ?_
              repeat kt_at_get
              refine iMod (by decide) ?_
              repeat kt_at_get
              refine tupN (by assumption) (by assumption) (by show 2 < 1000; decide) ?_
              intro U h16 F16 N16 hU
              obtain ⟨oU, ⟨tu, tu', hoU⟩, N16'⟩ : ∃ oU, (∃ t u, oU = tupO [.int (-(-gap / (pj : Int))) t, .int ((spot + (kk : Int) * (-gap / (pj : Int))) % 1024) u]) ∧ News g L' h16 ((U, oU) :: (I3, riO ((kk + 1 : Nat) : Int) ((pj : Int) - ((kk + 1 : Nat) : Int)) 1) :: (P, listOf tv'.toArray e) :: (ts ++ nw3)) := ⟨_, ⟨_, _, rfl⟩, N16⟩
              clear N16
              repeat kt_at_get
              refine appendN (l := P) F16 (nsub N16' (news' := (P, listOf tv'.toArray e) :: (U, oU) :: (I3, riO ((kk + 1 : Nat) : Int) ((pj : Int) - ((kk + 1 : Nat) : Int)) 1) :: (ts ++ nw3)) (by lcg_sub)) ?_ (by exact zq755 hlz hlt hp8 hlv hkk hlv' hpos) ?_
              · exact List.forall_mem_cons.mpr ⟨Ne.symm (hU (P, _) (.tail _ (.head _))), List.forall_mem_cons.mpr ⟨dI3P, fun q hq => (List.mem_append.mp hq).elim (qP q) (hnP3 q)⟩⟩
              intro h17 F17 N17
              refine ⟨rfl, ?_⟩
              repeat kt_at_get
              have hUa : ∀ q ∈ nw3, q.1 ≠ U := fun q hq => hU q (.tail _ (.tail _ (List.mem_append_right _ hq)))
              refine hB3.next (k3 - 1) (by exact zq756 hkk hpos) ⟨_, kk + 1, _, _, (U, oU) :: ts, by exact zq757 hkk hpos, F17, nsub N17 (by lcg_sub), ?_, ?_, ?_, ?_, ?_, ?_, by kt_at_in, by kt_at_in, by kt_at_in, tw, by kt_at_in⟩
              · exact List.forall_mem_cons.mpr ⟨Ne.symm (hU (P, _) (.tail _ (.head _))), qP⟩
              · exact List.forall_mem_cons.mpr ⟨Ne.symm (hUa (I1, _) mI1), qI⟩
              · exact List.forall_mem_cons.mpr ⟨Ne.symm (hUa (I2, _) mI2), qI2⟩
              · exact List.forall_mem_cons.mpr ⟨Ne.symm (hU (I3, _) (.head _)), qI3⟩
              · exact List.forall_mem_cons.mpr ⟨⟨_, hoU⟩, hTs⟩
              · rw [rowOf_range, ← List.append_assoc]
                exact (hTV.mono fun v z h => h.weak fun p hp => .tail _ hp).push ⟨U, tu, tu', rfl, by rw [hoU]; exact .head _⟩
            · intro h15 hpos F15 N15
              obtain rfl : kk = pj := by exact zq758 hkk hpos
              rw [List.append_assoc] at hTV
              exact hB3.fin ⟨_, tv', e, ts, F15, N15, qP, qI, qI2, hTs, by rw [eT]; exact hTV, q1, q2, q3⟩
        · intro h11 hj F11 N11
          obtain rfl : j = 4 := by exact zq759 hx4 hkj hj
          rw [← eZ] at hTV
          exact hB2.fin ⟨_, tv, e, ts, F11, N11, qP, qI, hTs, hTV, q1⟩
    · intro h6 hi F6 N6
      obtain rfl : i = row.length := by exact zq760 hlg hly hki hi
      rw [← hlg, List.take_length] at hTV
      exact hB.fin ⟨_, tv, e, ts, F6, N6, qP, hTs, hTV, q1⟩
  case exit =>
    clear k1 hneI1
    rintro h' tk ⟨m₂, tv, e, ts, F5, N5, qP, hTs, hTV, q1⟩
    repeat kt_at_get
    refine leaveK_ F5 (nsub N5 (news' := (P, listOf tv.toArray e) :: (ts ++ news)) (by rw [hnw]; lcg_sub)) fun F7 N7 => ?_
    intro htok
    exact post _ _ P ts tv e row F7 N7 (fun q hq => (List.mem_append.mp hq).elim (qP q) (fun h => hP q h)) hTs hP0 hS0 hTV htok
end

noncomputable def FB (φ : Nat → Int) (N : Nat) (v : Value) (x : Int) : Prop := ∃ t : Nat, v = .float (fl x) t ∧ 1 ≤ t ∧ t < N ∧ φ t = x ∧ x.natAbs < 2 ^ 50
noncomputable def PB (φ : Nat → Int) (N : Nat) (news : List (Addr × Obj)) (v : Value) (z : Int × Int) : Prop := ∃ a p q, v = .ref a ∧ (a, tupO [p, q]) ∈ news ∧ FB φ N p z.1 ∧ FB φ N q z.2
theorem FB.fv {φ : Nat → Int} {N : Nat} {v : Value} {x : Int} (h : FB φ N v x) : FV φ v x := by
  obtain ⟨t, e, a, b, c, d⟩ := h; exact ⟨t, e, a, c, d⟩
theorem PB.pf {φ : Nat → Int} {N : Nat} {news : List (Addr × Obj)} {v : Value} {z : Int × Int} (h : PB φ N news v z) : PF φ news v z := by
  obtain ⟨a, p, q, e, hm, h1, h2⟩ := h; exact ⟨a, p, q, e, hm, h1.fv, h2.fv⟩
theorem FB.ext {φ φ' : Nat → Int} {N N' : Nat} {v : Value} {x : Int} (h : FB φ N v x) (hN : N ≤ N') (e : ∀ t, t < N → φ' t = φ t) : FB φ' N' v x := by
  obtain ⟨t, e1, a, b, c, d⟩ := h; exact ⟨t, e1, a, by exact zq687 hN b, (e t b).trans c, d⟩
theorem PB.ext {φ φ' : Nat → Int} {N N' : Nat} {news news' : List (Addr × Obj)} {v : Value} {z : Int × Int} (h : PB φ N news v z) (hN : N ≤ N') (e : ∀ t, t < N → φ' t = φ t) (hs : ∀ p ∈ news, p ∈ news') : PB φ' N' news' v z := by
  obtain ⟨a, p, q, e1, hm, h1, h2⟩ := h; exact ⟨a, p, q, e1, hs _ hm, h1.ext hN e, h2.ext hN e⟩
theorem exists_phi2 (φ : Nat → Int) (N t1 t2 : Nat) (x1 x2 : Int) (h1 : N ≤ t1) (h2 : t1 < t2) : ∃ φ' : Nat → Int, (∀ t, t < N → φ' t = φ t) ∧ φ' t1 = x1 ∧ φ' t2 = x2 :=
  ⟨fun t => if t = t1 then x1 else if t = t2 then x2 else φ t, fun t ht => by dsimp only; rw [if_neg (by exact zq688 h1 ht), if_neg (by exact zq689 h1 h2 ht)], by simp, by dsimp only; rw [if_neg (by exact zq690 h2), if_pos rfl]⟩
theorem eqF {prog : Program} {w : World} {h : Heap} {k : Nat} {a b : Int} {t u : Nat} (X : NoneBooked h) (hab : a = b) (ha : a.natAbs < 2 ^ 53) (ht : 1 ≤ t) (hu : 1 ≤ u) : EqV prog w k h (.float (fl a) t) (.float (fl b) u) true := by
  have := (EqV.float (prog := prog) (w := w) (t := (t : Tok)) (u := (u : Tok)) X ha (hab ▸ ha) (by intro e; have : t = 0 := e; exact zq326 ht this) (by intro e; have : u = 0 := e; exact zq326 hu this) (fun _ => hab)).weak (Nat.zero_le k)
  rwa [decide_eq_true hab] at this
section
variable {prog : Program} {w : World} {n : Nat} {A : Around} {h₀ : Heap} {L : Addr} {m : Str → Option Value} {news : List (Addr × Obj)} {hp : Heap} {gs : Array GenState} {dr : Drawn} {tk₀ : Nat} {oo : OsState} {R : Result → Shared → Prop} {E : Value → Shared → Prop}
theorem parted_call {Hh : Addr} {v0 : Value} {hv : List Value} {κ : Value → Int × Int} {φ : Nat → Int} {e : Nat} {step gap spot : Int} {t1 t2 t3 : Tok} (c : Cx (n + 6) w A h₀ L) (F : Fr h₀ L hp m) (N : News h₀ L hp ((Hh, listOf (v0 :: hv).toArray e) :: news)) (hne : ∀ p ∈ news, p.1 ≠ Hh)
    (hPB : ∀ v ∈ v0 :: hv, PB φ tk₀ news v (κ v)) (hH : HeapFrom (fun a b => plt (κ a) (κ b)) 0 (v0 :: hv)) (h0 : κ v0 = (gap * 1048576, spot * 1048576)) (hst : 0 ≤ step ∧ step < 10) (hg : -1024 ≤ gap ∧ gap < 0) (hev : gap % 2 = 0) (hsp : 0 ≤ spot ∧ spot < 1024) (hlen : hv.length < 800)
    (post : ∀ h' tk φ' κ' (hv' : List Value) e' ts, Fr h₀ L h' m → News h₀ L h' ((Hh, listOf hv'.toArray e') :: (ts ++ news)) → (∀ p ∈ ts ++ news, p.1 ≠ Hh) → Tups ts → (∀ v ∈ hv', PB φ' tk (ts ++ news) v (κ' v)) → HeapFrom (fun a b => plt (κ' a) (κ' b)) 0 hv' →
      (hv'.map κ').Perm ((gap / 2 * 1048576, spot * 1048576) :: (gap / 2 * 1048576, (spot - gap / 2) % 1024 * 1048576) :: hv.map κ) → tk₀ ≤ tk → R (.ok (.ret (.bool true))) ⟨h', gs, dr, tk, oo⟩) :
    codeAny (model prog w) A (.call (.ref 137) ⟨[.ref Hh, .int step t1, .int gap t2, .int spot t3], []⟩) R ⟨hp, gs, dr, tk₀, oo⟩ := by
  refine codeAny_mt ?_
  refine c.call F N (f := 137) (binds := [(Str.ofString "heap", .ref Hh), (Str.ofString "step", .int step t1), (Str.ofString "gap", .int gap t2), (Str.ofString "spot", .int spot t3)]) (nb := 4) (ho := rfl) (hcd := rfl) (BindsTo.of_eq rfl) (locs rfl) ?_ rfl rfl rfl rfl (by decide)
  clear F N c
  intro g L' h₁ m' hm' c' F' N'
  have k1 : m' (Str.ofString "heap") = some (.ref Hh) := (hm' _).trans rfl
  have k2 : m' (Str.ofString "step") = some (.int step t1) := (hm' _).trans rfl
  have k3 : m' (Str.ofString "gap") = some (.int gap t2) := (hm' _).trans rfl
  have k4 : m' (Str.ofString "spot") = some (.int spot t3) := (hm' _).trans rfl
  clear hm'
  obtain ⟨a0, p0, q0, ea0, ma0, hfp, hfq⟩ := hPB v0 (.head _)
  obtain ⟨tp, ep, tp1, tpN, tpφ, _⟩ := id hfp
  obtain ⟨tq, eq, tq1, tqN, tqφ, _⟩ := id hfq
  rw [h0] at ep eq tpφ tqφ hfp hfq
  obtain ⟨share, eshare⟩ : ∃ share, share = step % 8 + 1 := ⟨_, rfl⟩
  obtain ⟨level, elevel⟩ : ∃ level, level = 8 - step % 5 := ⟨_, rfl⟩
  have hsh : 1 ≤ share ∧ share ≤ 8 := by exact zq691 eshare elevel
  have hlv : 1 ≤ level ∧ level ≤ 8 := by exact zq692 eshare elevel
  obtain ⟨mid, emid⟩ : ∃ mid, mid = spot - gap / 2 := ⟨_, rfl⟩
  have hmid : 0 ≤ mid ∧ mid < 2048 := by exact zq693 hg hev hsp emid
  refine sTupS (names := [Str.ofString "share", Str.ofString "level"]) ?_ (by with_unfolding_all rfl) (by with_unfolding_all rfl)
  repeat kt_at_get
  refine iMod (by decide) ?_
  repeat kt_at_get
  refine iMod (by decide) ?_
  repeat kt_at_get
  refine tupN (by assumption) (by assumption) (by show 2 < 1000; decide) ?_
  intro D1 h2 F2 N2 hD1
  refine unpackS c'.hh F2 N2 (.head _) rfl ?_
  intro h3 F3 N3
  replace N3 := ntail N3
  show wpAny _ _ (assignInOrder [fun v => bindName _ (Str.ofString "level") v, fun v => bindName _ (Str.ofString "share") v] [_, _]) _ _ _
  refine assignInOrder_cons (bindName_ ?_)
  repeat kt_at_get
  refine assignInOrder_cons (bindName_ ?_)
  repeat kt_at_get
  refine assignInOrder_nil ?_
  rw [← eshare, ← elevel] at *
  clear F2 N2
  refine sTupS (names := [Str.ofString "front", Str.ofString "middle"]) ?_ (by with_unfolding_all rfl) (by with_unfolding_all rfl)
  repeat kt_at_get
  refine itemN0 (vs := v0 :: hv) (by assumption) (.head _) (by simp) (by simp; exact zq694 hlen) ?_ (by with_unfolding_all rfl) (by intro _; with_unfolding_all rfl)
  rw [show (v0 :: hv).getD 0 .none = .ref a0 from ea0]
  repeat kt_at_get
  refine iFloor (by decide) (by decide) ?_
  repeat kt_at_get
  rw [← emid]
  refine tupN (by assumption) (by assumption) (by show 2 < 1000; decide) ?_
  intro D2 h4 F4 N4 hD2
  refine unpackS c'.hh F4 N4 (.head _) rfl ?_
  intro h5 F5 N5
  replace N5 := ntail N5
  show wpAny _ _ (assignInOrder [fun v => bindName _ (Str.ofString "middle") v, fun v => bindName _ (Str.ofString "front") v] [_, _]) _ _ _
  refine assignInOrder_cons (bindName_ ?_)
  repeat kt_at_get
  refine assignInOrder_cons (bindName_ ?_)
  repeat kt_at_get
  refine assignInOrder_nil ?_
  clear F4 N4
  repeat kt_at_get
  refine iDivF (gap * 1048576) c'.hh (by exact zq695 hg hev emid) (by decide) (by exact zq696 hg hev emid) (by exact zq612) ?_
  repeat kt_at_get
  refine iDivF (spot * 1048576) c'.hh (by exact zq697 hsp) (by decide) (by exact zq698 hsp) (by exact zq612) ?_
  repeat kt_at_get
  refine tupN (by assumption) (by assumption) (by show 2 < 1000; decide) ?_
  intro D3 h6 F6 N6 hD3
  refine NeV.op (NeV.tup (k := 0) (N6 _ (.tail _ (.tail _ ma0))).1 (N6 _ (.head _)).1 rfl (r := true) (?_ : LexE _ _ _ _ [(p0, _), (q0, _)] true)) rfl (by have := c'.uni; exact zq699 this) ?_
  · rw [ep, eq]
    exact .eq (eqF (noneBooked (c'.X.keeps F6.keep)) rfl (by show (gap * 1048576).natAbs < _; exact zq696 hg hev emid) tp1 (by exact zq700)) (.eq (eqF (noneBooked (c'.X.keeps F6.keep)) rfl (by show (spot * 1048576).natAbs < _; exact zq698 hsp) tq1 (by exact zq701)) .nil)
  replace N6 := ntail N6
  repeat kt_at_get
  refine iteB (fun h => absurd h (by decide)) (fun _ => ?_)
  repeat kt_at_get
  refine tupI0 (by assumption) (.tail _ ma0) (by show 0 < 2; decide) (by show 2 < 1000; decide) ?_ (by with_unfolding_all rfl)
  rw [show [p0, q0].getD 0 .none = .float (fl (gap * 1048576)) tp from ep]
  repeat kt_at_get
  refine fDivI2 (c := gap / 2 * 1048576) c'.hh (by exact zq702 hg hev emid) (by exact zq703 hev) ?_
  repeat kt_at_get
  refine tupI1 (by assumption) (.tail _ ma0) (by show 1 < 2; decide) (by show 2 < 1000; decide) ?_ (by with_unfolding_all rfl)
  rw [show [p0, q0].getD 1 .none = .float (fl (spot * 1048576)) tq from eq]
  repeat kt_at_get
  refine fSub (by exact zq523 hsp) (by exact zq704 hg hev emid) ?_
  rw [show spot * 1048576 - gap / 2 * 1048576 = mid * 1048576 by exact zq705 emid]
  repeat kt_at_get
  refine iDivF (share * 134217728) c'.hh (by exact zq177 hsh) (by decide) (by exact zq250 hsh) (by exact zq706) ?_
  repeat kt_at_get
  refine iDivF (level * 134217728) c'.hh (by exact zq177 hlv) (by decide) (by exact zq250 hlv) (by exact zq706) ?_
  repeat kt_at_get
  refine wpAny_call (hsv_call (n := n) (c'.weak (by exact zq707)) (by assumption) (by assumption) hmid hsh hlv (by exact zq708) fun h7 tk7 D4 u0 u1 u2 F7 N7 hD4 htk7 a1 a2 a3 a4 a5 a6 => ?_)
  repeat kt_at_get
  refine wpAny_call (colour_call (n := n + 3) (c'.weak (by exact zq709)) (by assumption) (by assumption) hmid hsh hlv fun h8 tk8 D5 w0 w1 w2 F8 N8 hD5 b1 b2 b3 b4 b5 b6 => ?_)
  have cb := fun k => col_b (spot := mid) (corner := k) hsh hlv
  refine NeV.op (NeV.tup (k := 0) (N8 _ (.tail _ (.head _))).1 (N8 _ (.head _)).1 rfl (r := true) (?_ : LexE _ _ _ _ [(_, _), (_, _), (_, _)] true)) rfl (by have := c'.uni; exact zq699 this) ?_
  · have X8 := noneBooked (c'.X.keeps F8.keep)
    have cb0 := cb 0
    have cb1 := cb 2048
    have cb2 := cb 4096
    exact .eq (eqF X8 rfl (by exact zq139 cb0) (by omega) (by exact zq710 a1 a2 b1)) (.eq (eqF X8 rfl (by exact zq139 cb1) (by omega) (by exact zq710 a1 a2 b3)) (.eq (eqF X8 rfl (by exact zq139 cb2) (by omega) (by exact zq710 a1 a2 b5)) .nil))
  replace N8 := ntail N8
  repeat kt_at_get
  refine iteB (fun h => absurd h (by decide)) (fun _ => ?_)
  repeat kt_at_get
  refine wpAny_call (hue_call (n := n + 2) (c'.weak (by exact zq711)) (by assumption) (by assumption) (.head _) hmid hsh hlv fun h9 tk9 th F9 N9 c1 c2 => ?_)
  replace N9 := ntail N9
  repeat kt_at_get
  refine wpAny_allTrue_Or_cons ?_
  repeat kt_at_get
  refine iMod (by decide) ?_
  repeat kt_at_get
  refine iDivF (mid % 1024 * 1048576) c'.hh (by exact zq712 hg hev hsp emid) (by decide) (by exact zq713) (by exact zq714) ?_
  repeat kt_at_get
  refine fNe (by exact zq713) (by exact zq713) ?_
  repeat kt_at_get
  refine iteB (fun h => absurd h (by simp)) (fun _ => ?_)
  refine wpAny_allTrue_Or_cons ?_
  repeat kt_at_get
  refine tupI1 (by assumption) (.tail _ ma0) (by show 1 < 2; decide) (by show 2 < 1000; decide) ?_ (by with_unfolding_all rfl)
  rw [show [p0, q0].getD 1 .none = q0 from rfl]
  repeat kt_at_get
  refine tupN (by assumption) (by assumption) (by show 2 < 1000; decide) ?_
  intro U1 h10 F10 N10 hU1
  obtain ⟨oU1, ⟨tf, hoU1, hfe, hf1, hf2⟩, N10'⟩ : ∃ oU1, (∃ tf : Nat, oU1 = tupO [.float (fl (gap / 2 * 1048576)) tf, q0] ∧ tf = tk₀ + 26 ∧ tk₀ ≤ tf ∧ tf < th) ∧ News g L' h10 ((U1, oU1) :: (Hh, listOf (v0 :: hv).toArray e) :: news) := ⟨_, ⟨_, rfl, by exact zq715, by exact zq716, by exact zq717 htk7 b3 b4 c1⟩, N10⟩
  clear N10
  obtain ⟨φ', hφ, hφ1, hφ2⟩ := exists_phi2 φ tk₀ tf th (gap / 2 * 1048576) (mid % 1024 * 1048576) hf1 hf2
  obtain ⟨κ1, hk1, hk1'⟩ := exists_upd κ (.ref U1) (gap / 2 * 1048576, spot * 1048576)
  have hmem : ∀ v ∈ v0 :: hv, ∀ a, v = .ref a → ∃ o, (a, o) ∈ news := fun v hv' a ea => by
    obtain ⟨a', p, q, e1, m1, _⟩ := hPB v hv'
    rw [ea] at e1; injection e1 with e1
    exact ⟨_, e1 ▸ m1⟩
  have hU1v : ∀ v ∈ v0 :: hv, v ≠ .ref U1 := fun v hv' ev => by
    obtain ⟨o, m1⟩ := hmem v hv' U1 ev
    exact hU1 _ (.tail _ m1) rfl
  have hk1v : ∀ v ∈ v0 :: hv, κ1 v = κ v := fun v hv' => hk1' v (hU1v v hv')
  have hPB1 : ∀ v ∈ Value.ref U1 :: v0 :: hv, PB φ' (th + 1) ((U1, oU1) :: news) v (κ1 v) := List.forall_mem_cons.mpr ⟨⟨U1, _, q0, rfl, by rw [hoU1]; exact .head _, by rw [hk1]; exact ⟨tf, rfl, by exact zq718 hfe, by exact zq324 hf2, hφ1, by show (gap / 2 * 1048576).natAbs < _; exact zq704 hg hev emid⟩, by rw [hk1]; exact hfq.ext (by exact zq719 hfe hf2) hφ⟩, fun v hv' => by rw [hk1v v hv']; exact (hPB v hv').ext (by exact zq719 hfe hf2) hφ fun p hp => .tail _ hp⟩
  repeat kt_at_get
  refine wpAny_call (heapreplace_call (lt := fun a b => plt (κ1 a) (κ1 b)) (n := n + 1) (news := (U1, oU1) :: news) (c'.weak (by exact zq648)) F10 (nrot2 N10') (List.forall_mem_cons.mpr ⟨Ne.symm (hU1 (Hh, _) (.head _)), hne⟩) (LtOK.pf fun v hv' => (hPB1 v hv').pf) (by simp) (by simp; exact zq720 hlen) fun h11 tk11 F11 N11 htk11 => ?_)
  rw [show (v0 :: hv).getD 0 .none = .ref a0 from ea0]
  repeat kt_at_get
  refine NeV.op (NeV.tup (k := 0) (N11 _ (.tail _ (.tail _ ma0))).1 (N11 _ (.tail _ (.tail _ ma0))).1 rfl (r := true) (?_ : LexE _ _ _ _ [(p0, p0), (q0, q0)] true)) rfl (by have := c'.uni; exact zq699 this) ?_
  · rw [ep, eq]
    exact .eq (eqF (noneBooked (c'.X.keeps F11.keep)) rfl (by show (gap * 1048576).natAbs < _; exact zq696 hg hev emid) tp1 tp1) (.eq (eqF (noneBooked (c'.X.keeps F11.keep)) rfl (by show (spot * 1048576).natAbs < _; exact zq698 hsp) tq1 tq1) .nil)
  repeat kt_at_get
  refine iteB (fun h => absurd h (by decide)) (fun _ => ?_)
  refine wpAny_allTrue_Or_nil ?_
  repeat kt_at_get
  have hH1 : HeapFrom (fun a b => plt (κ1 a) (κ1 b)) 0 (sup (fun a b => plt (κ1 a) (κ1 b)) ((v0 :: hv).set 0 (.ref U1)) 0) :=
    sup_heap plt_swo (by simp) (HeapFrom.set0 (hH.congr fun a ha b hb => by rw [hk1v a ha, hk1v b hb]))
  have hP1 := sup_perm (lt := fun a b => plt (κ1 a) (κ1 b)) (vs := (v0 :: hv).set 0 (.ref U1)) (pos := 0) (by simp)
  revert N11 hH1 hP1
  generalize sup (fun a b => plt (κ1 a) (κ1 b)) ((v0 :: hv).set 0 (.ref U1)) 0 = hv1
  intro N11 hH1 hP1
  rw [List.set_cons_zero] at hP1
  have hl1 : hv1.length = hv.length + 1 := hP1.length_eq
  have hPB1' : ∀ v ∈ hv1, PB φ' (th + 1) ((U1, oU1) :: news) v (κ1 v) := fun v hv' => hPB1 v (by
    rcases List.mem_cons.mp (hP1.mem_iff.mp hv') with h | h
    · rw [h]; exact .head _
    · exact .tail _ (.tail _ h))
  refine tupN (by assumption) (by assumption) (by show 2 < 1000; decide) ?_
  intro U2 h12 F12 N12 hU2
  obtain ⟨oU2, hoU2, N12'⟩ : ∃ oU2, (∃ t : Nat, oU2 = tupO [.float (fl (gap / 2 * 1048576)) t, .float (fl (mid % 1024 * 1048576)) th] ∧ t = tk₀ + 26) ∧ News g L' h12 ((U2, oU2) :: (Hh, listOf hv1.toArray e) :: (U1, oU1) :: news) := ⟨_, ⟨_, rfl, by exact zq715⟩, N12⟩
  clear N12
  obtain ⟨t', hoU2, ht'⟩ := hoU2
  obtain rfl : t' = tf := by exact zq721 hfe ht'
  obtain ⟨κ2, hk2, hk2'⟩ := exists_upd κ1 (.ref U2) (gap / 2 * 1048576, mid % 1024 * 1048576)
  have hU2v : ∀ v ∈ hv1, v ≠ .ref U2 := fun v hv' ev => by
    obtain ⟨a, p, q, e1, m1, _⟩ := hPB1' v hv'
    rw [e1] at ev; injection ev with ev
    exact hU2 _ (.tail _ m1) ev
  have hk2v : ∀ v ∈ hv1, κ2 v = κ1 v := fun v hv' => hk2' v (hU2v v hv')
  have hPB2 : ∀ v ∈ hv1 ++ [Value.ref U2], PB φ' (th + 1) ((U2, oU2) :: (U1, oU1) :: news) v (κ2 v) := fun v hv' => by
    rcases List.mem_append.mp hv' with h | h
    · rw [hk2v v h]; exact (hPB1' v h).ext (Nat.le_refl _) (fun _ _ => rfl) fun p hp => .tail _ hp
    · obtain rfl := List.mem_singleton.mp h
      rw [hk2]
      exact ⟨U2, _, _, rfl, by rw [hoU2]; exact .head _, ⟨t', rfl, by exact zq718 ht', by exact zq324 hf2, hφ1, by show (gap / 2 * 1048576).natAbs < _; exact zq704 hg hev emid⟩, ⟨th, rfl, by exact zq722 ht' hf2, by exact zq723, hφ2, by show (mid % 1024 * 1048576).natAbs < _; exact zq724⟩⟩
  have hneH : ∀ p ∈ (U2, oU2) :: (U1, oU1) :: news, p.1 ≠ Hh := List.forall_mem_cons.mpr ⟨Ne.symm (hU2 (Hh, _) (.head _)), List.forall_mem_cons.mpr ⟨Ne.symm (hU1 (Hh, _) (.head _)), hne⟩⟩
  repeat kt_at_get
  refine wpAny_call (heappush_call (lt := fun a b => plt (κ2 a) (κ2 b)) (n := n + 2) (news := (U2, oU2) :: (U1, oU1) :: news) (c'.weak (by exact zq711)) F12 (nrot2 N12') hneH (LtOK.pf fun v hv' => (hPB2 v hv').pf) (by exact zq725 hlen hl1) fun h13 tk13 F13 N13 htk13 => ⟨rfl, ?_⟩)
  have hH2 : HeapFrom (fun a b => plt (κ2 a) (κ2 b)) 0 (sdown (fun a b => plt (κ2 a) (κ2 b)) (hv1 ++ [.ref U2]) 0 hv1.length) :=
    push_heap plt_swo (hH1.congr fun a ha b hb => by rw [hk2v a ha, hk2v b hb])
  have hP2 := sdown_perm (lt := fun a b => plt (κ2 a) (κ2 b)) (start := 0) (vs := hv1 ++ [.ref U2]) (pos := hv1.length) (by simp)
  revert N13 hH2 hP2
  generalize sdown (fun a b => plt (κ2 a) (κ2 b)) (hv1 ++ [.ref U2]) 0 hv1.length = hv2
  intro N13 hH2 hP2
  repeat kt_at_get
  refine Constant_bool ?_
  refine leaveK_ F13 N13 fun F14 N14 => ?_
  intro htok
  rw [← emid] at post
  refine post _ _ φ' κ2 hv2 _ [(U2, oU2), (U1, oU1)] F14 N14 hneH ?_ (fun v hv' => ?_) hH2 ?_ htok
  · intro p hp
    rcases List.mem_cons.mp hp with rfl | hp
    · exact ⟨_, hoU2⟩
    · obtain rfl := List.mem_singleton.mp hp
      exact ⟨_, hoU1⟩
  · exact (hPB2 v (hP2.mem_iff.mp hv')).ext (by exact zq726 c2 htk11 htk13) (fun _ _ => rfl) fun p hp => hp
  · refine (hP2.map κ2).trans ?_
    rw [List.map_append, List.map_cons, List.map_nil, hk2]
    have e1 : hv1.map κ2 = hv1.map κ1 := List.map_congr_left fun v hv' => hk2v v hv'
    rw [e1]
    have e2 : hv.map κ1 = hv.map κ := List.map_congr_left fun v hv' => hk1v v (.tail _ hv')
    have p1 := hP1.map κ1
    rw [List.map_cons, hk1, e2] at p1
    refine (p1.append_right _).trans ?_
    rw [List.cons_append]
    exact List.Perm.cons _ List.perm_append_comm
end

-- the plain law: gaps between neighbours
noncomputable def gp (e : Int) : List Int → List (Int × Int)
  | [] => []
  | [x] => [(x - e, x)]
  | x :: y :: t => (x - y, x) :: gp e (y :: t)
theorem gp_zip (e : Int) : ∀ l : List Int, (l.zip (l.drop 1 ++ [e])).map (fun p => (p.1 - p.2, p.1)) = gp e l
  | [] => rfl
  | [x] => rfl
  | x :: y :: t => by
    have := gp_zip e (y :: t)
    simp only [List.drop_succ_cons, List.drop_zero, List.cons_append, List.zip_cons_cons, List.map_cons, gp] at this ⊢
    rw [this]
theorem gapsOf_gp (x : Int) (t : List Int) : gapsOf (x :: t) = gp (x + 1024) (x :: t) := by
  unfold gapsOf
  rw [List.getD_cons_zero]
  exact gp_zip _ _
noncomputable def lastOf : Int → List Int → Int
  | x, [] => x
  | _, y :: t => lastOf y t
theorem gp_last : ∀ (x : Int) (t : List Int), ∃ rest, ∀ e, (gp e (x :: t)).Perm ((lastOf x t - e, lastOf x t) :: rest)
  | x, [] => ⟨[], fun e => .refl _⟩
  | x, y :: t => by
    obtain ⟨rest, h⟩ := gp_last y t
    exact ⟨(x - y, x) :: rest, fun e => ((h e).cons (x - y, x)).trans (.swap ..)⟩
theorem mem_gp {e : Int} {z : Int × Int} : ∀ {x : Int} {t : List Int}, (x :: t).Pairwise (· ≤ ·) → z ∈ gp e (x :: t) → z.2 ∈ x :: t ∧ (z = (lastOf x t - e, lastOf x t) ∨ ∃ y ∈ t, z.1 = z.2 - y ∧ z.2 ≤ y ∧ (∀ a ∈ x :: t, a ≤ z.2 ∨ y ≤ a))
  | x, [], _, h => by
    obtain rfl := List.mem_singleton.mp h
    exact ⟨.head _, .inl rfl⟩
  | x, y :: t, hs, h => by
    rw [List.pairwise_cons] at hs
    rcases List.mem_cons.mp h with rfl | h
    · refine ⟨.head _, .inr ⟨y, .head _, rfl, hs.1 y (.head _), fun a ha => ?_⟩⟩
      rcases List.mem_cons.mp ha with rfl | ha
      · exact .inl (Int.le_refl _)
      · refine .inr ?_
        rcases List.mem_cons.mp ha with rfl | ha
        · exact Int.le_refl _
        · exact (List.pairwise_cons.mp hs.2).1 a ha
    · obtain ⟨h1, h2⟩ := mem_gp hs.2 h
      refine ⟨.tail _ h1, ?_⟩
      rcases h2 with h2 | ⟨b, hb, e1, e2, e3⟩
      · exact .inl h2
      · refine .inr ⟨b, .tail _ hb, e1, e2, fun a ha => ?_⟩
        rcases List.mem_cons.mp ha with rfl | ha
        · exact .inl (hs.1 _ h1)
        · exact e3 a ha
theorem last_mem : ∀ (x : Int) (t : List Int), lastOf x t ∈ x :: t
  | _, [] => .head _
  | _, y :: t => .tail _ (last_mem y t)
theorem last_max : ∀ {x : Int} {t : List Int}, (x :: t).Pairwise (· ≤ ·) → ∀ a ∈ x :: t, a ≤ lastOf x t
  | x, [], _, a, ha => by obtain rfl := List.mem_singleton.mp ha; exact Int.le_refl _
  | x, y :: t, hs, a, ha => by
    rw [List.pairwise_cons] at hs
    rcases List.mem_cons.mp ha with rfl | ha
    · exact hs.1 _ (last_mem y t)
    · exact last_max hs.2 a ha
theorem gp_sum (e : Int) : ∀ (x : Int) (t : List Int), ((gp e (x :: t)).map (·.1)).sum = x - e
  | x, [] => by simp [gp]
  | x, y :: t => by
    have := gp_sum e y t
    simp only [gp, List.map_cons, List.sum_cons] at this ⊢
    exact zq472 this
theorem gp_len (e : Int) : ∀ (l : List Int), (gp e l).length = l.length
  | [] => rfl
  | [x] => rfl
  | x :: y :: t => by simp only [gp, List.length_cons, gp_len e (y :: t)]
-- a spot put between two neighbours
theorem gp_ins {e : Int} {z : Int × Int} {m : Int} : ∀ {x : Int} {t : List Int}, (x :: t).Pairwise (· ≤ ·) → z ∈ gp e (x :: t) → z.2 ≤ m → m ≤ z.2 - z.1 → (∃ a, a ∈ x :: t ∧ True) →
    ∃ t' rest, (x :: t').Perm (m :: x :: t) ∧ (x :: t').Pairwise (· ≤ ·) ∧ (gp e (x :: t)).Perm (z :: rest) ∧ (gp e (x :: t')).Perm ((z.2 - m, z.2) :: (m - (z.2 - z.1), m) :: rest)
  | x, [], _, h, h1, h2, _ => by
    obtain rfl := List.mem_singleton.mp h
    refine ⟨[m], [], .swap .., ?_, .refl _, ?_⟩
    · simp; exact h1
    · show List.Perm [(x - m, x), (m - e, m)] [(x - m, x), (m - (x - (x - e)), m)]
      rw [show x - (x - e) = e by exact zq473]
  | x, y :: t, hs, h, h1, h2, hx => by
    have hs' := List.pairwise_cons.mp hs
    rcases List.mem_cons.mp h with rfl | h
    · have e1 : x - (x - y) = y := by exact zq473
      refine ⟨m :: y :: t, gp e (y :: t), .swap .., ?_, .refl _, ?_⟩
      · have h2' : m ≤ y := by show m ≤ y; have : m ≤ x - (x - y) := h2; exact zq474 h2
        refine List.pairwise_cons.mpr ⟨fun a ha => ?_, List.pairwise_cons.mpr ⟨fun a ha => ?_, hs'.2⟩⟩
        · rcases List.mem_cons.mp ha with rfl | ha
          · exact h1
          · exact hs'.1 a ha
        · rcases List.mem_cons.mp ha with rfl | ha
          · exact h2'
          · exact Int.le_trans h2' ((List.pairwise_cons.mp hs'.2).1 a ha)
      · show ((x - m, x) :: (m - y, m) :: gp e (y :: t)).Perm ((x - m, x) :: (m - (x - (x - y)), m) :: gp e (y :: t))
        rw [e1]
    · obtain ⟨t', rest, p1, p2, p3, p4⟩ := gp_ins hs'.2 h h1 h2 ⟨y, .head _, trivial⟩
      have hm := (mem_gp hs'.2 h).1
      refine ⟨y :: t', (x - y, x) :: rest, ?_, List.pairwise_cons.mpr ⟨fun a ha => ?_, p2⟩, (p3.cons _).trans (.swap ..), ?_⟩
      · exact (p1.cons x).trans (.swap ..)
      · rcases List.mem_cons.mp (p1.mem_iff.mp ha) with rfl | ha
        · exact Int.le_trans (hs'.1 _ hm) h1
        · exact hs'.1 a ha
      · show ((x - y, x) :: gp e (y :: t')).Perm _
        refine (p4.cons _).trans ?_
        exact (List.Perm.swap ..).trans ((List.Perm.swap ..).cons _)
theorem gaps_split {row : List Int} {z : Int × Int} (hs : row.Pairwise (· ≤ ·)) (hb : ∀ a ∈ row, 0 ≤ a ∧ a < 1024) (hz : z ∈ gapsOf row) (hev : z.1 % 2 = 0) (hneg : z.1 ≤ 0) :
    ∃ row' rest, row'.Perm ((z.2 - z.1 / 2) % 1024 :: row) ∧ row'.Pairwise (· ≤ ·) ∧ (gapsOf row).Perm (z :: rest) ∧ (gapsOf row').Perm ((z.1 / 2, z.2) :: (z.1 / 2, (z.2 - z.1 / 2) % 1024) :: rest) := by
  cases row with
  | nil => exact absurd hz (by simp [gapsOf])
  | cons x t =>
    rw [gapsOf_gp] at hz ⊢
    obtain ⟨h1, h2⟩ := mem_gp hs hz
    have hz2 := hb _ h1
    by_cases hm : z.2 - z.1 / 2 < 1024
    · have em : (z.2 - z.1 / 2) % 1024 = z.2 - z.1 / 2 := by exact zq475 hev hneg hz2 hm
      rw [em]
      obtain ⟨t', rest, p1, p2, p3, p4⟩ := gp_ins (m := z.2 - z.1 / 2) hs hz (by exact zq476 hev hneg) (by exact zq477 hev hneg) ⟨x, .head _, trivial⟩
      refine ⟨x :: t', rest, p1, p2, p3, ?_⟩
      rw [gapsOf_gp]
      have e1 : z.2 - (z.2 - z.1 / 2) = z.1 / 2 := by exact zq478
      have e2 : z.2 - z.1 / 2 - (z.2 - z.1) = z.1 / 2 := by exact zq479 hev
      rw [e1, e2] at p4
      exact p4
    · have hx := hb x (.head _)
      have hlast : z = (lastOf x t - (x + 1024), lastOf x t) := by
        rcases h2 with h2 | ⟨y, hy, e1, e2, _⟩
        · exact h2
        · have := hb y (.tail _ hy); exact (zq480 hev hz2 hm e1 e2 this).elim
      have hz1 : z.1 = z.2 - (x + 1024) := by rw [hlast]
      have em : (z.2 - z.1 / 2) % 1024 = z.2 - z.1 / 2 - 1024 := by exact zq481 hev hz2 hm hx hz1
      rw [em]
      obtain ⟨rest, hr⟩ := gp_last x t
      have hz2' : lastOf x t = z.2 := by rw [hlast]
      refine ⟨(z.2 - z.1 / 2 - 1024) :: x :: t, rest, .refl _, List.pairwise_cons.mpr ⟨fun a ha => ?_, hs⟩, by rw [hlast]; exact hr _, ?_⟩
      · have hxa : x ≤ a := by
          rcases List.mem_cons.mp ha with rfl | ha
          · exact Int.le_refl _
          · exact (List.pairwise_cons.mp hs).1 a ha
        exact zq482 hev hz2 hx hz1 hz2' hxa
      · rw [gapsOf_gp]
        show ((z.2 - z.1 / 2 - 1024 - x, z.2 - z.1 / 2 - 1024) :: gp (z.2 - z.1 / 2 - 1024 + 1024) (x :: t)).Perm _
        have e1 : z.2 - z.1 / 2 - 1024 - x = z.1 / 2 := by exact zq483 hev hz1
        have e2 : z.2 - z.1 / 2 - 1024 + 1024 = z.2 - z.1 / 2 := by exact zq484
        rw [e1, e2]
        have := hr (z.2 - z.1 / 2)
        rw [hz2', show z.2 - (z.2 - z.1 / 2) = z.1 / 2 by exact zq478] at this
        exact (this.cons _).trans (.swap ..)

noncomputable def lch (z : Int × Int) : Int × Int := (z.1 / 2, z.2)
noncomputable def rch (z : Int × Int) : Int × Int := (z.1 / 2, (z.2 - z.1 / 2) % 1024)
noncomputable def desc : Nat → Int × Int → List (Int × Int)
  | 0, _ => []
  | d + 1, z => z :: (desc d (lch z) ++ desc d (rch z))
noncomputable def NodeOk (q : (Int × Int) × Nat) : Prop := (∃ u : Int, 0 ≤ u ∧ u ≤ 39 ∧ q.1.1 = -(2 ^ q.2 * u)) ∧ 0 ≤ q.1.2 ∧ q.1.2 < 1024
theorem NodeOk.step {z : Int × Int} {d : Nat} (h : NodeOk (z, d + 1)) : NodeOk (lch z, d) ∧ NodeOk (rch z, d) ∧ z.1 % 2 = 0 ∧ z.1 ≤ 0 ∧ z.1 / 2 * 2 = z.1 := by
  obtain ⟨⟨u, u0, u1, e⟩, s0, s1⟩ := h
  have e : z.1 = -(2 ^ (d + 1) * u) := e
  have e2 : z.1 = 2 * -(2 ^ d * u) := by rw [e, Int.pow_succ]; grind
  have h2 : z.1 / 2 = -(2 ^ d * u) := by exact zq769 e e2
  have hp : 0 ≤ 2 ^ d * u := Int.mul_nonneg (Int.pow_nonneg (by decide)) u0
  refine ⟨⟨⟨u, u0, u1, h2⟩, s0, s1⟩, ⟨⟨u, u0, u1, h2⟩, ?_, ?_⟩, by exact zq770 e e2 h2, by exact zq771 e e2 h2 hp, by exact zq772 e e2 h2⟩
  · show 0 ≤ (z.2 - z.1 / 2) % 1024; exact zq773
  · show (z.2 - z.1 / 2) % 1024 < 1024; exact zq774
theorem desc_ge : ∀ (d : Nat) (z : Int × Int), NodeOk (z, d) → ∀ y ∈ desc d z, plt y z = false
  | 0, _, _, y, hy => nomatch hy
  | d + 1, z, h, y, hy => by
    obtain ⟨hl, hr, e1, e2, e3⟩ := h.step
    obtain ⟨_, s0, s1⟩ := h
    have s0 : 0 ≤ z.2 := s0
    have s1 : z.2 < 1024 := s1
    have hlz : plt (lch z) z = false := by
      rw [plt_iff]; show ¬ (z.1 / 2 < z.1 ∨ (z.1 / 2 = z.1 ∧ z.2 < z.2)); exact zq775 e1 e2
    have hrz : plt (rch z) z = false := by
      rw [plt_iff]; show ¬ (z.1 / 2 < z.1 ∨ (z.1 / 2 = z.1 ∧ (z.2 - z.1 / 2) % 1024 < z.2)); exact zq776 e1 e2 s0 s1
    rcases List.mem_cons.mp hy with rfl | hy
    · exact plt_irr _
    · rcases List.mem_append.mp hy with hy | hy
      · exact plt_trans hlz (desc_ge d _ hl y hy)
      · exact plt_trans hrz (desc_ge d _ hr y hy)
theorem plt_antisymm {a b : Int × Int} (h1 : plt a b = false) (h2 : plt b a = false) : a = b := by
  rw [plt_iff] at h1 h2
  exact Prod.ext (by exact zq777 h1 h2) (by exact zq778 h1 h2)
structure Inv (k : Nat) (row : List Int) (Fd : List ((Int × Int) × Nat)) (R : List (Int × Int)) : Prop where
  sorted : row.Pairwise (· ≤ ·)
  bound : ∀ a ∈ row, 0 ≤ a ∧ a < 1024
  len : row.length ≤ 8 + k
  gaps : (Fd.map (·.1)).Perm (gapsOf row)
  nodes : ∀ q ∈ Fd, NodeOk q
  rem : R.Perm (Fd.flatMap fun q => desc q.2 q.1)
theorem sum_ge {l : List (Int × Int)} {c : Int} (h : ∀ z ∈ l, c ≤ z.1) : c * l.length ≤ (l.map (·.1)).sum := by
  induction l with
  | nil => simp
  | cons z r ih =>
    have := ih fun y hy => h y (.tail _ hy)
    have h0 := h z (.head _)
    simp only [List.map_cons, List.sum_cons, List.length_cons]
    have e : c * ((r.length + 1 : Nat) : Int) = c * r.length + c := by rw [Int.natCast_add, Int.mul_add]; simp
    rw [e]; exact zq779 this h0 e
theorem flatMap_perm {α β : Type} {f : α → List β} {a b : List α} (h : a.Perm b) : (a.flatMap f).Perm (b.flatMap f) := by
  induction h with
  | nil => exact .refl _
  | cons x _ ih => exact ih.append_left _
  | swap x y l =>
    simp only [List.flatMap_cons, ← List.append_assoc]
    exact List.perm_append_comm.append_right _
  | trans _ _ h1 h2 => exact h1.trans h2
theorem Inv.front {k : Nat} {row : List Int} {Fd : List ((Int × Int) × Nat)} {R : List (Int × Int)} {y f : Int × Int} (h : Inv k row Fd (y :: R)) (hk : k < 10) (hy : ∀ r ∈ R, plt r y = false) (hf : f ∈ Fd.map (·.1)) (hfm : ∀ z ∈ Fd.map (·.1), plt z f = false) : f = y ∧ ∃ d, (f, d + 1) ∈ Fd := by
  obtain ⟨q, hq, rfl⟩ := List.mem_map.mp hf
  have hne : row ≠ [] := fun e => by
    have := h.gaps.mem_iff.mp hf
    rw [e] at this; simp [gapsOf] at this
  obtain ⟨x, t, rfl⟩ : ∃ x t, row = x :: t := by cases row with
    | nil => exact absurd rfl hne
    | cons x t => exact ⟨x, t, rfl⟩
  have hsum : ((gapsOf (x :: t)).map (·.1)).sum = -1024 := by rw [gapsOf_gp, gp_sum]; exact zq780
  have hlen : (gapsOf (x :: t)).length ≤ 17 := by rw [gapsOf_gp, gp_len]; have := h.len; exact zq781 hk this
  have hge := sum_ge (l := gapsOf (x :: t)) (c := q.1.1) fun z hz => by
    have := hfm z (h.gaps.mem_iff.mpr hz)
    rw [plt_iff] at this; exact zq782 this
  rw [hsum] at hge
  obtain ⟨⟨u, u0, u1, e⟩, s⟩ := h.nodes q hq
  have hd : q.2 ≠ 0 := fun e0 => by
    rw [e0] at e
    have e' : q.1.1 = -u := by rw [e]; simp
    have h17 : (((gapsOf (x :: t)).length : Nat) : Int) ≤ 17 := by exact zq783 hlen
    have : -u * ((gapsOf (x :: t)).length : Int) ≥ -u * 17 := by
      have := Int.mul_le_mul_of_nonneg_left h17 u0
      rw [Int.neg_mul, Int.neg_mul]; exact zq784 e this
    rw [e'] at hge
    exact zq785 hge u0 u1 e this
  obtain ⟨d, hd⟩ : ∃ d, q.2 = d + 1 := ⟨q.2 - 1, by exact zq786 hd⟩
  have hqe : q = (q.1, d + 1) := Prod.ext rfl hd
  refine ⟨plt_antisymm ?_ ?_, d, hqe ▸ hq⟩
  · have hin : q.1 ∈ y :: R := h.rem.mem_iff.mpr (List.mem_flatMap.mpr ⟨q, hq, by rw [hd]; exact .head _⟩)
    rcases List.mem_cons.mp hin with e | hin
    · rw [e]; exact plt_irr _
    · exact hy _ hin
  · obtain ⟨q', hq', hy'⟩ := List.mem_flatMap.mp (h.rem.mem_iff.mp (.head _))
    exact plt_trans (hfm q'.1 (List.mem_map.mpr ⟨q', hq', rfl⟩)) (desc_ge q'.2 q'.1 (h.nodes q' hq') y hy')
theorem Inv.next {k : Nat} {row : List Int} {Fd : List ((Int × Int) × Nat)} {R : List (Int × Int)} {y : Int × Int} {d : Nat} (h : Inv k row Fd (y :: R)) (hd : (y, d + 1) ∈ Fd) :
    ∃ row' Fd', row'.Perm ((y.2 - y.1 / 2) % 1024 :: row) ∧ Inv (k + 1) row' Fd' R ∧ ∀ rest, (Fd.map (·.1)).Perm (y :: rest) → (Fd'.map (·.1)).Perm (lch y :: rch y :: rest) := by
  obtain ⟨hl, hr, e1, e2, e3⟩ := (h.nodes _ hd).step
  have hyg : y ∈ gapsOf row := h.gaps.mem_iff.mp (List.mem_map.mpr ⟨_, hd, rfl⟩)
  obtain ⟨row', rest, p1, p2, p3, p4⟩ := gaps_split h.sorted h.bound hyg e1 e2
  have hF : Fd.Perm ((y, d + 1) :: Fd.erase (y, d + 1)) := List.perm_cons_erase hd
  have hrest : ((Fd.erase (y, d + 1)).map (·.1)).Perm rest := ((hF.map (·.1)).symm.trans (h.gaps.trans p3)).cons_inv
  refine ⟨row', (lch y, d) :: (rch y, d) :: Fd.erase (y, d + 1), p1, ⟨p2, fun a ha => ?_, ?_, ?_, fun q hq => ?_, ?_⟩, fun rest2 h2 => ?_⟩
  · rcases List.mem_cons.mp (p1.mem_iff.mp ha) with rfl | ha
    · exact zq787
    · exact h.bound a ha
  · have := p1.length_eq; have := h.len; simp at *; exact zq788 (by assumption) this
  · exact ((hrest.cons _).cons _).trans p4.symm
  · rcases List.mem_cons.mp hq with rfl | hq
    · exact hl
    · rcases List.mem_cons.mp hq with rfl | hq
      · exact hr
      · exact h.nodes q (List.mem_of_mem_erase hq)
  · have q1 := h.rem.trans (flatMap_perm hF)
    simp only [List.flatMap_cons] at q1 ⊢
    have q2 : (y :: R).Perm (y :: ((desc d (lch y) ++ desc d (rch y)) ++ (Fd.erase (y, d + 1)).flatMap fun q => desc q.2 q.1)) := q1
    have q3 := q2.cons_inv
    rw [List.append_assoc] at q3
    exact q3
  · have : ((Fd.erase (y, d + 1)).map (·.1)).Perm rest2 := ((hF.map (·.1)).symm.trans h2).cons_inv
    exact (this.cons _).cons _
theorem desc4 (z : Int × Int) (v : Int) (hv : 0 ≤ v) (e : z.1 = -(16 * v)) (s0 : 0 ≤ z.2) (s1 : z.2 < 1024) : (tab1 z 4).Perm (desc 4 z) := by
  obtain ⟨g, s⟩ := z
  simp only at e s0 s1
  subst e
  have hidx : ([0, 1, 3, 7, 8, 4, 9, 10, 2, 5, 11, 12, 6, 13, 14] : List Nat).Perm (List.range 15) := by decide
  have c1 : ∀ k : Nat, k < 1 → cell (-(16 * v), s) 1 k = (-(16 * v), s) := fun k hk => by
    obtain rfl : k = 0 := by exact zq789 hk
    unfold cell; refine Prod.ext ?_ ?_ <;> simp <;> exact zq790 s0 s1
  have key : (desc 4 (-(16 * v), s)) = ([0, 1, 3, 7, 8, 4, 9, 10, 2, 5, 11, 12, 6, 13, 14] : List Nat).map fun i => (tab1 (-(16 * v), s) 4).getD i default := by
    simp only [desc, lch, rch, tab1, rowOf, partOf, cell, List.range_succ, List.range_zero, List.map_append, List.map_cons, List.map_nil, List.nil_append, List.cons_append, List.append_nil]
    have d2 : -(16 * v) / 2 = -(8 * v) := by exact zq791
    have d4 : -(8 * v) / 2 = -(4 * v) := by exact zq792
    have d8 : -(4 * v) / 2 = -(2 * v) := by exact zq793
    simp only [d2, d4, d8]
    simp only [List.getD_cons_zero, List.getD_cons_succ, List.cons.injEq, Prod.mk.injEq, and_true]
    refine ⟨?_, ?_, ?_, ?_, ?_, ?_, ?_, ?_, ?_, ?_, ?_, ?_, ?_, ?_, ?_⟩ <;> constructor <;> (first | exact zq794 | exact zq795 s0 s1 | exact zq796 | exact zq797 s0 s1 | exact zq798 | exact zq799 s0 s1 | exact zq800 | exact zq801 s0 s1 | exact zq802 | exact zq803 | exact zq804 | exact zq805 | exact zq806 | exact zq807 | exact zq808 | exact zq809 | exact zq810 | exact zq811 | exact zq812)
  rw [key]
  have hmap : (tab1 (-(16 * v), s) 4) = (List.range 15).map fun i => (tab1 (-(16 * v), s) 4).getD i default := by
    apply List.ext_getElem
    · rw [tab1_len]; simp
    · intro i h1 h2
      simp [List.getD, h1]
  have := hidx.map fun i => (tab1 (-(16 * v), s) 4).getD i default
  exact (List.Perm.of_eq hmap).trans this.symm
theorem tabOf_desc : ∀ (gs : List (Int × Int)), (∀ z ∈ gs, ∃ v : Int, 0 ≤ v ∧ z.1 = -(16 * v) ∧ 0 ≤ z.2 ∧ z.2 < 1024) → (tabOf gs).Perm ((gs.map fun z => (z, 4)).flatMap fun q => desc q.2 q.1)
  | [], _ => .refl _
  | z :: r, h => by
    obtain ⟨v, hv, e, s0, s1⟩ := h z (.head _)
    simp only [tabOf, List.map_cons, List.flatMap_cons]
    exact (desc4 z v hv e s0 s1).append (tabOf_desc r fun y hy => h y (.tail _ hy))
theorem Inv.init {row : List Int} {T : List (Int × Int)} (hs : row.Pairwise (· ≤ ·)) (hb : ∀ a ∈ row, 0 ≤ a ∧ a < 1024 ∧ a % 16 = 0) (h1 : 336 ∈ row) (h2 : 960 ∈ row) (hl : row.length ≤ 8) (hT : T.Perm (tabOf (gapsOf row))) : Inv 0 row ((gapsOf row).map fun z => (z, 4)) T := by
  have hok : ∀ z ∈ gapsOf row, ∃ v : Int, 0 ≤ v ∧ v ≤ 39 ∧ z.1 = -(16 * v) ∧ 0 ≤ z.2 ∧ z.2 < 1024 := by
    intro z hz
    cases row with
    | nil => exact absurd h1 (by simp)
    | cons x t =>
      rw [gapsOf_gp] at hz
      obtain ⟨m1, m2⟩ := mem_gp hs hz
      have b1 := hb _ m1
      have bx := hb x (.head _)
      rcases m2 with m2 | ⟨y, hy, e1, e2, e3⟩
      · have l1 := last_max hs 960 h2
        have x1 : x ≤ 336 := by
          rcases List.mem_cons.mp h1 with e | e
          · exact zq813 bx e
          · exact (List.pairwise_cons.mp hs).1 _ e
        have bl := hb _ (last_mem x t)
        have g1 : z.1 = lastOf x t - (x + 1024) := by rw [m2]
        have g2 : z.2 = lastOf x t := by rw [m2]
        exact ⟨-z.1 / 16, by exact zq814 bx l1 x1 bl g1, by exact zq815 bx l1 x1 bl g1, by exact zq816 bx bl g1, by exact zq817 b1 l1 bl g2, by exact zq818 b1 l1 bl g2⟩
      · have by' := hb y (.tail _ hy)
        have f1 := e3 336 h1
        have f2 := e3 960 h2
        exact ⟨-z.1 / 16, by exact zq819 b1 e1 e2 by', by exact zq820 b1 e1 by' f1 f2, by exact zq821 b1 e1 by', by exact zq822 b1, by exact zq823 b1⟩
  refine ⟨hs, fun a ha => ⟨(hb a ha).1, (hb a ha).2.1⟩, by omega, ?_, fun q hq => ?_, hT.trans (tabOf_desc _ fun z hz => ?_)⟩
  · rw [List.map_map]
    exact .of_eq (by simp [Function.comp_def])
  · obtain ⟨z, hz, rfl⟩ := List.mem_map.mp hq
    obtain ⟨v, v0, v1, e, s0, s1⟩ := hok z hz
    exact ⟨⟨v, v0, v1, by show z.1 = -(2 ^ 4 * v); rw [e]; rfl⟩, s0, s1⟩
  · obtain ⟨v, v0, v1, e, s0, s1⟩ := hok z hz
    exact ⟨v, v0, e, s0, s1⟩
theorem Inv.front2 {k : Nat} {row : List Int} {Fd : List ((Int × Int) × Nat)} {R : List (Int × Int)} {f : Int × Int} (h : Inv k row Fd R) (hf : f ∈ Fd.map (·.1)) (hfm : ∀ z ∈ Fd.map (·.1), plt z f = false) : -1024 ≤ f.1 ∧ f.1 < 0 ∧ 0 ≤ f.2 ∧ f.2 < 1024 := by
  have hg := h.gaps.mem_iff.mp hf
  obtain ⟨x, t, rfl⟩ : ∃ x t, row = x :: t := by cases row with
    | nil => simp [gapsOf] at hg
    | cons x t => exact ⟨x, t, rfl⟩
  have hsum : ((gapsOf (x :: t)).map (·.1)).sum = -1024 := by rw [gapsOf_gp, gp_sum]; exact zq780
  have hge := sum_ge (l := gapsOf (x :: t)) (c := f.1) fun z hz => by
    have := hfm z (h.gaps.mem_iff.mpr hz)
    rw [plt_iff] at this; exact zq782 this
  rw [hsum] at hge
  have hneg : f.1 < 0 := by
    by_cases q : f.1 < 0
    · exact q
    · have := Int.mul_nonneg (show 0 ≤ f.1 by exact zq29 q) (show (0 : Int) ≤ ((gapsOf (x :: t)).length : Int) by exact zq4)
      exact zq824 hge this
  rw [gapsOf_gp] at hg
  obtain ⟨m1, m2⟩ := mem_gp h.sorted hg
  have b1 := h.bound _ m1
  refine ⟨?_, hneg, b1.1, b1.2⟩
  rcases m2 with m2 | ⟨y, hy, e1, e2, _⟩
  · have l1 := last_max h.sorted x (.head _)
    rw [m2]; show -1024 ≤ lastOf x t - (x + 1024); exact zq825 l1
  · have := h.bound y (.tail _ hy)
    exact zq826 b1 e1 this

theorem HeapFrom.cut {lt : Value → Value → Bool} {vs : List Value} {x : Value} (h : HeapFrom lt 0 (vs ++ [x])) : HeapFrom lt 0 vs := fun i h0 h1 h2 => by
  have e : ∀ j, j < vs.length → (vs ++ [x]).getD j .none = vs.getD j .none := fun j hj => by simp only [List.getD_eq_getElem?_getD]; rw [List.getElem?_append_left hj]
  have := h i h0 (by simp; exact zq324 h1) h2
  rwa [e i h1, e _ (by exact zq727 h0 h1)] at this
theorem sortedP_uniq : ∀ {a b : List (Int × Int)}, a.Perm b → a.Pairwise (fun x y => plt y x = false) → b.Pairwise (fun x y => plt y x = false) → a = b
  | [], b, h, _, _ => h.nil_eq
  | x :: a, [], h, _, _ => absurd h.length_eq (by simp)
  | x :: a, y :: b, h, ha, hb => by
    have ha' := List.pairwise_cons.mp ha
    have hb' := List.pairwise_cons.mp hb
    have h1 : plt y x = false := by
      rcases List.mem_cons.mp (h.mem_iff.mpr (.head _)) with e | e
      · rw [e]; exact plt_irr _
      · exact ha'.1 y e
    have h2 : plt x y = false := by
      rcases List.mem_cons.mp (h.mem_iff.mp (.head _)) with e | e
      · rw [e]; exact plt_irr _
      · exact hb'.1 x e
    obtain rfl : x = y := plt_antisymm h2 h1
    rw [sortedP_uniq h.cons_inv ha'.2 hb'.2]
theorem gaps_bound {row : List Int} (hs : row.Pairwise (· ≤ ·)) (hb : ∀ a ∈ row, 0 ≤ a ∧ a < 1024) {z : Int × Int} (hz : z ∈ gapsOf row) : -1024 ≤ z.1 ∧ z.1 ≤ 0 ∧ 0 ≤ z.2 ∧ z.2 < 1024 := by
  cases row with
  | nil => simp [gapsOf] at hz
  | cons x t =>
    rw [gapsOf_gp] at hz
    obtain ⟨m1, m2⟩ := mem_gp hs hz
    have b1 := hb _ m1
    have bx := hb x (.head _)
    rcases m2 with m2 | ⟨y, hy, e1, e2, _⟩
    · have l1 := last_max hs x (.head _)
      have bl := hb _ (last_mem x t)
      have g1 : z.1 = lastOf x t - (x + 1024) := by rw [m2]
      exact zq728 b1 bx l1 bl g1
    · have := hb y (.tail _ hy)
      exact zq729 b1 e1 e2 this
section
variable {prog : Program} {w : World} {n : Nat} {A : Around} {h₀ : Heap} {L : Addr} {m : Str → Option Value} {news : List (Addr × Obj)} {hp : Heap} {gs : Array GenState} {dr : Drawn} {tk₀ : Nat} {oo : OsState} {R : Result → Shared → Prop} {lt : Value → Value → Bool}
theorem pop_call {l : Addr} {e : Nat} {hv : List Value} (c : Cx (n + 4) w A h₀ L) (F : Fr h₀ L hp m) (N : News h₀ L hp ((l, listOf hv.toArray e) :: news)) (hne : ∀ p ∈ news, p.1 ≠ l) (hlt : LtOK prog w news lt hv) (h0 : hv ≠ []) (hb : hv.length < 800) (O : SWO lt) (hH : HeapFrom lt 0 hv)
    (post : ∀ h' tk r (hv' : List Value), Fr h₀ L h' m → News h₀ L h' ((l, listOf hv'.toArray (e + 1)) :: news) → (r :: hv').Perm hv → HeapFrom lt 0 hv' → (∀ b ∈ hv', lt b r = false) → tk₀ ≤ tk → R (.ok (.ret r)) ⟨h', gs, dr, tk, oo⟩) :
    codeAny (model prog w) A (.call (.ref 28) ⟨[.ref l], []⟩) R ⟨hp, gs, dr, tk₀, oo⟩ := by
  obtain ⟨vs, x, rfl⟩ : ∃ vs x, hv = vs ++ [x] := ⟨hv.dropLast, hv.getLast h0, (List.dropLast_concat_getLast h0).symm⟩
  have hl : vs.length < 800 := by simp at hb; exact zq730 hb
  refine heappop_call c F N hne hlt (by exact zq731 hl) (fun h' tk hv0 F' N' htk => ?_) (fun h' tk hv0 F' N' htk => ?_)
  · subst hv0
    exact post h' tk x [] F' N' (.refl _) (fun i h1 h2 => absurd h2 (Nat.not_lt_zero _)) (fun b hb => nomatch hb) htk
  · cases vs with
    | nil => exact absurd hv0 (Nat.lt_irrefl _)
    | cons r t =>
      have hroot := heap_root O hH
      have hp := sup_perm (lt := lt) (vs := (r :: t).set 0 x) (pos := 0) (by simp)
      rw [List.set_cons_zero] at hp
      refine post h' tk r _ F' N' ?_ ?_ (fun b hb => ?_) htk
      · rw [List.set_cons_zero]
        refine (hp.cons r).trans ?_
        rw [List.cons_append]
        exact (List.perm_append_comm (l₁ := [x])).cons r
      · exact sup_heap O (by simp) (HeapFrom.set0 hH.cut)
      · rw [List.set_cons_zero] at hb
        have hb' : b ∈ r :: t ++ [x] := by
          rcases List.mem_cons.mp (hp.mem_iff.mp hb) with rfl | h
          · exact List.mem_append_right _ (.head _)
          · exact List.mem_append_left _ (.tail _ h)
        obtain ⟨j, hj, rfl⟩ := List.getElem_of_mem hb'
        have := hroot j hj
        have e1 : (r :: t ++ [x]).getD j .none = (r :: t ++ [x])[j] := by simp only [List.getD_eq_getElem?_getD, List.getElem?_eq_getElem hj, Option.getD_some]
        rw [e1] at this
        exact this
end

open PyProof.Rows.LCg (NsObj ns_obj)
theorem startCx {α : Type} {M : Model} {w : World} {A' : Around} {h₀ : Heap} {L : Addr} {env' : Env} {s : Shared} {t : Sem α} {Q : α → Shared → Prop} {E : Value → Shared → Prop} {loose : List Str} {mean : ExcName → Option Value} {mg mb : Str → Option Value}
    (K : Below callerA h₀ [] h₀) (X : (KH w.params).In h₀) (T : Top vw loose mean mg mb h₀) (hA : A' = callerA.deeper env') (hf : env'.frame = some L) (hk : env'.scope.kind = .function) (h : CxT 20 w A' callerA h₀ h₀ L env' → wpAny M A' t Q E s) : wpAny M A' t Q E s := by
  subst hA
  refine h ⟨⟨X, ⟨_, _, _, _, T⟩, ⟨callerA, h₀, [], env', K, ?_, hf, hk⟩, rfl, ?_, ?_⟩, K, ?_, hf, hk, X, ⟨_, _, _, _, T⟩⟩
  · show callerA.frames.map _ = _; rw [K.stack]; rfl
  · show callerA.depth + 1 + 20 < _; decide
  · show callerA.units + 3 + 20 * 20 < _; decide
  · show callerA.frames.map _ = _; rw [K.stack]; rfl
noncomputable def scl (z : Int × Int) : Int × Int := (z.1 * 1048576, z.2 * 1048576)
theorem getD_memI {l : List Int} {i : Nat} (h : i < l.length) : l.getD i 0 ∈ l := by rw [List.getD_eq_getElem?_getD, List.getElem?_eq_getElem h]; exact List.getElem_mem h
theorem sorted_uniq : ∀ {a b : List Int}, a.Perm b → a.Pairwise (· ≤ ·) → b.Pairwise (· ≤ ·) → a = b
  | [], b, h, _, _ => h.nil_eq
  | x :: a, [], h, _, _ => absurd h.length_eq (by simp)
  | x :: a, y :: b, h, ha, hb => by
    have ha' := List.pairwise_cons.mp ha
    have hb' := List.pairwise_cons.mp hb
    have h1 : x ≤ y := by
      rcases List.mem_cons.mp (h.mem_iff.mpr (.head _)) with e | e
      · exact zq485 e
      · exact ha'.1 y e
    have h2 : y ≤ x := by
      rcases List.mem_cons.mp (h.mem_iff.mp (.head _)) with e | e
      · exact zq485 e
      · exact hb'.1 x e
    obtain rfl : x = y := by exact zq486 h1 h2
    rw [sorted_uniq h.cons_inv ha'.2 hb'.2]
theorem PI.strip {l : Addr} {vs : List Value} {e : Nat} {news : List (Addr × Obj)} {v : Value} {z : Int × Int} (h : PI ((l, listOf vs.toArray e) :: news) v z) : PI news v z := by
  obtain ⟨a, t, u, e1, hm⟩ := h
  rcases List.mem_cons.mp hm with h | h
  · have := congrArg (fun p : Addr × Obj => p.2.cls) h
    simp at this
  · exact ⟨a, t, u, e1, h⟩
theorem PI.tups {news news' : List (Addr × Obj)} {v : Value} {z : Int × Int} (h : PI news v z) (hs : ∀ p ∈ news, p.2.cls = .type "tuple" → p ∈ news') : PI news' v z := by
  obtain ⟨a, t, u, e1, hm⟩ := h
  exact ⟨a, t, u, e1, hs _ hm rfl⟩
theorem PB.tups {φ : Nat → Int} {N : Nat} {news news' : List (Addr × Obj)} {v : Value} {z : Int × Int} (h : PB φ N news v z) (hs : ∀ p ∈ news, p.2.cls = .type "tuple" → p ∈ news') : PB φ N news' v z := by
  obtain ⟨a, p, q, e1, hm, h1, h2⟩ := h
  exact ⟨a, p, q, e1, hs _ hm rfl, h1, h2⟩
theorem plt_scl {a b : Int × Int} (h : plt (scl a) (scl b) = false) : plt a b = false := by
  rw [plt_iff] at h ⊢
  have h : ¬ (a.1 * 1048576 < b.1 * 1048576 ∨ (a.1 * 1048576 = b.1 * 1048576 ∧ a.2 * 1048576 < b.2 * 1048576)) := h
  exact zq487 h
theorem scl_inj {a b : Int × Int} (h : scl a = scl b) : a = b := by
  have h1 := congrArg Prod.fst h
  have h2 := congrArg Prod.snd h
  exact Prod.ext (by have : a.1 * 1048576 = b.1 * 1048576 := h1; exact zq488 this) (by have : a.2 * 1048576 = b.2 * 1048576 := h2; exact zq488 this)
theorem Inv.root {k : Nat} {row : List Int} {Fd : List ((Int × Int) × Nat)} {R : List (Int × Int)} {y : Int × Int} {hv : List Value} {κ : Value → Int × Int} (h : Inv k row Fd (y :: R)) (hk : k < 10) (hy : ∀ r ∈ R, plt r y = false) (hH : HeapFrom (fun a b => plt (κ a) (κ b)) 0 hv) (hm : (hv.map κ).Perm ((Fd.map (·.1)).map scl)) :
    ∃ v0 hv1, hv = v0 :: hv1 ∧ κ v0 = scl y ∧ (∃ d, (y, d + 1) ∈ Fd) ∧ (-1024 ≤ y.1 ∧ y.1 < 0 ∧ 0 ≤ y.2 ∧ y.2 < 1024) ∧ y.1 % 2 = 0 ∧ ∃ rest, (Fd.map (·.1)).Perm (y :: rest) ∧ (hv1.map κ).Perm (rest.map scl) := by
  obtain ⟨q, hq, _⟩ := List.mem_flatMap.mp (h.rem.mem_iff.mp (.head _))
  obtain ⟨v0, hv1, rfl⟩ : ∃ v0 hv1, hv = v0 :: hv1 := by
    cases hv with
    | nil =>
      have := hm.length_eq
      cases Fd with
      | nil => exact nomatch hq
      | cons a b => simp at this
    | cons a b => exact ⟨a, b, rfl⟩
  have h0 : κ v0 ∈ (Fd.map (·.1)).map scl := hm.mem_iff.mp (.head _)
  obtain ⟨f, hf, ef⟩ := List.mem_map.mp h0
  have hmin : ∀ z ∈ Fd.map (·.1), plt z f = false := fun z hz => by
    obtain ⟨v, hv, ev⟩ := List.mem_map.mp (hm.mem_iff.mpr (List.mem_map.mpr ⟨z, hz, rfl⟩))
    obtain ⟨j, hj, rfl⟩ := List.getElem_of_mem hv
    have := heap_root plt_swo hH j hj
    have e : (v0 :: hv1).getD j .none = (v0 :: hv1)[j] := by simp only [List.getD_eq_getElem?_getD, List.getElem?_eq_getElem hj, Option.getD_some]
    rw [e, ev, List.getD_cons_zero, ← ef] at this
    exact plt_scl this
  obtain ⟨rfl, d, hd⟩ := h.front hk hy hf hmin
  have hb := h.front2 hf hmin
  have hn := (h.nodes _ hd).step
  have hp : (Fd.map (·.1)).Perm (f :: (Fd.map (·.1)).erase f) := List.perm_cons_erase hf
  refine ⟨v0, hv1, rfl, ef.symm, ⟨d, hd⟩, hb, hn.2.2.1, _, hp, ?_⟩
  have h2 := hm.trans (hp.map scl)
  rw [List.map_cons, List.map_cons, ← ef] at h2
  exact h2.cons_inv
theorem scl_plt {a b : Int × Int} (h : plt a b = false) : plt (scl a) (scl b) = false := by
  rw [plt_iff] at h ⊢
  show ¬ (a.1 * 1048576 < b.1 * 1048576 ∨ (a.1 * 1048576 = b.1 * 1048576 ∧ a.2 * 1048576 < b.2 * 1048576))
  exact zq489 h
theorem CallK_ {M : Model} {A : Around} {E : Value → Shared → Prop} {s : Shared} {env : Env} {func : Expr} {args : List Expr} {kws : List Keyword} {pos : Pos} {Q : Value → Shared → Prop}
    (h : wpAny M A (eval func env) (fun f s₁ => wpAny M A (callWith pos f [] (backTo pos (starEach args env)) (backToKw pos (keywordEach kws env))) Q E s₁) E s)
    (he : eval (.Call func args kws pos) env = (do callWith pos (← eval func env) [] (backTo pos (starEach args env)) (backToKw pos (keywordEach kws env)))) : wpAny M A (eval (.Call func args kws pos) env) Q E s := by
  rw [he]; exact wpAny_bind h
theorem law_holds : PySem.Challenge.rw_mq0298_01.Holds := by
  refine hd ?_
  k_go0
  all_goals (try k_fold)
  rename Fr _ _ _ _ => F
  rename News _ _ _ _ => N
  rename Top _ _ _ _ _ _ => T
  rename Frag.In _ _ => KX
  rename Heap.IsList _ _ _ => hL
  rename ReadsAll _ _ _ _ => ra
  rename IntsAre _ _ => hI
  rename Below _ _ _ _ => K0
  rename _ = #[] => hg
  rename_i w s₀ s₁ mg mb G Y fa o pm doc kV ho X V GL B TE TW _ _ M _ _ hcd ns hs hlay0 hLa hr1 hl2 as1 as2 la vs asa w1 r0 hr hc1 hc2 hD hp
  refine wpAny_mono (Q := fun f s' => f = .ret (.bool true) ∧ ∃ h' tk m', s' = ⟨h', s₁.gens, s₁.drawn, tk, s₁.os⟩ ∧ Fr s₁.heap s₁.heap.objs.size h' m') (E := fun _ _ => False) ?_ ?_ (fun _ _ x => x.elim)
  rotate_left
  · rintro f s' ⟨rfl, h', tk, m', rfl, F'⟩
    show GoodW _ _ _ _ _ (.ok (.ret (.bool true))) _
    refine goodW_bool F' hg (raisesW_false ?_) ?_
    · wrow_none_raised
    · kc_post
  clear G Y X V GL B TE TW M hs hlay0 hLa hr1 hl2 w1 r0 hr ra hD hcd ho
  refine startCx (show Below callerA s₁.heap [] s₁.heap from K0) KX T (by rfl) (by rfl) (by rfl) fun c => ?_
  clear K0 T hg
  have c' := c.c
  obtain ⟨m', k1, F'⟩ : ∃ m' : Str → Option Value, m' (Str.ofString "script") = some (.ref la) ∧ Fr s₁.heap s₁.heap.objs.size hp m' := ⟨_, rfl, F⟩
  clear F
  have hLk : ∀ {h : Heap} {m : Str → Option Value}, Fr s₁.heap s₁.heap.objs.size h m → h.IsList la vs.toArray := fun F => by
    obtain ⟨o, a, b⟩ := hL
    exact ⟨o, F.keep _ _ a, b⟩
  clear hL
  dsimp only at c c' ⊢
  generalize s₁.heap.objs.size = L at *
  generalize s₁.heap = h₀ at *
  generalize s₁.gens = gs at *
  generalize s₁.drawn = dr at *
  generalize s₁.os = oo at *
  generalize s₁.toks + _ = tk₀ at *
  have hns : ns.length ≤ 63 := by exact zq490 hc1
  refine sTupS (names := [Str.ofString "colours", Str.ofString "spots"]) ?_ (by with_unfolding_all rfl) (by with_unfolding_all rfl)
  repeat kt_at_get
  refine listN F' N (by decide) ?_
  intro C0 h2 F2 N2 _
  repeat kt_at_get
  refine listN (by assumption) (by assumption) (by decide) ?_
  intro S0 h3 F3 N3 hS0
  have dCS : C0 ≠ S0 := hS0 (C0, _) (.head _)
  repeat kt_at_get
  refine tupN (by assumption) (by assumption) (by show 2 < 1000; decide) ?_
  intro D1 h4 F4 N4 hD1
  refine unpackS c'.hh F4 N4 (.head _) rfl ?_
  intro h5 F5 N5
  replace N5 := ntail N5
  clear F2 N2 F3 N3 F4 N4
  show wpAny _ _ (assignInOrder [fun v => bindName _ (Str.ofString "spots") v, fun v => bindName _ (Str.ofString "colours") v] [_, _]) _ _ _
  refine assignInOrder_cons (bindName_ ?_)
  repeat kt_at_get
  refine assignInOrder_cons (bindName_ ?_)
  repeat kt_at_get
  refine assignInOrder_nil ?_
  clear F5 N5
  repeat kt_at_get
  refine slcTo ?_
  repeat kt_at_get
  refine takeN6 (vs := vs) (by assumption) (by assumption) (hLk (by assumption)) (by rw [hI.length]; exact zq491 hc1) ?_ (by with_unfolding_all rfl) (by intro _; with_unfolding_all rfl)
  intro D2 h6 F6 N6 hD2
  repeat kt_at_get
  refine listN (by assumption) (by assumption) (by show 2 < 1000; decide) ?_
  intro D3 h7 F7 N7 hD3
  repeat kt_at_get
  refine addN (vs := vs.take 6) F7 N7 (N7.isList (.tail _ (.head _))) (N7.isList (.head _)) (by simp; exact zq492) ?_
  intro Dn h8 F8 N8 hDn
  obtain ⟨nvs, nums, hIn, hnum, N8'⟩ : ∃ nvs nums, IntsAre nvs nums ∧ nums = ns.take 6 ++ [3324, 3861] ∧ News h₀ L h8 ((Dn, listOf nvs.toArray 0) :: (S0, listOf #[] 0) :: (C0, listOf #[] 0) :: []) := ⟨_, _, (hI.take 6).append (.cons _ _ (.cons _ _ .nil)), rfl, nsub N8 (by lcg_sub)⟩
  have dDS : Dn ≠ S0 := Ne.symm (hDn (S0, _) (.tail _ (.tail _ (.head _))))
  have dDC : Dn ≠ C0 := Ne.symm (hDn (C0, _) (.tail _ (.tail _ (.tail _ (.head _)))))
  clear N8 N7 F7 F6 N6 hD2 hD3 hDn hI hLk
  have hnl : nums.length ≤ 8 := by rw [hnum]; simp; exact zq493 hc1
  have hnv : nvs.length = nums.length := hIn.length
  repeat kt_at_get
  refine iterList (vs := nvs) F8 N8' (.head _) ?_
  intro In oIn h9 F9 N9 hIn0 hneIn
  have dIS : In ≠ S0 := Ne.symm (hneIn (S0, _) (.tail _ (.head _)))
  have dIC : In ≠ C0 := Ne.symm (hneIn (C0, _) (.tail _ (.tail _ (.head _))))
  have dID : In ≠ Dn := Ne.symm (hneIn (Dn, _) (.head _))
  refine forL (I := fun k s' => ∃ h' tk m₂ i o svs cvs es ec ts, s' = ⟨h', gs, dr, tk, oo⟩ ∧ k + i = nums.length ∧ Fr h₀ L h' m₂ ∧ News h₀ L h' ((In, o) :: (S0, listOf (List.toArray svs) es) :: (C0, listOf (List.toArray cvs) ec) :: (ts ++ [(Dn, listOf nvs.toArray 0)])) ∧ LI o Dn i ∧
      (∀ q ∈ ts, q.1 ≠ In) ∧ (∀ q ∈ ts, q.1 ≠ S0) ∧ (∀ q ∈ ts, q.1 ≠ C0) ∧ Tups ts ∧ IntsAre svs ((nums.take i).map fun x => x % 64 * 16) ∧ cvs.length = i ∧ (∀ j, j < i → ColT ts (cvs.getD j .none) (((nums.take i).map fun x => x % 64 * 16).getD j 0)) ∧
      m₂ (Str.ofString "colours") = some (.ref C0) ∧ m₂ (Str.ofString "spots") = some (.ref S0))
    (Z := fun s' => ∃ h' tk m₂ svs cvs es ec ts, s' = ⟨h', gs, dr, tk, oo⟩ ∧ Fr h₀ L h' m₂ ∧ News h₀ L h' ((S0, listOf (List.toArray svs) es) :: (C0, listOf (List.toArray cvs) ec) :: ts) ∧
      (∀ q ∈ ts, q.1 ≠ S0) ∧ (∀ q ∈ ts, q.1 ≠ C0) ∧ Tups ts ∧ IntsAre svs (nums.map fun x => x % 64 * 16) ∧ cvs.length = nums.length ∧ (∀ j, j < nums.length → ColT ts (cvs.getD j .none) ((nums.map fun x => x % 64 * 16).getD j 0)) ∧
      m₂ (Str.ofString "colours") = some (.ref C0) ∧ m₂ (Str.ofString "spots") = some (.ref S0)) ?turn nums.length ?init ?exit
  case init => exact ⟨_, _, _, 0, oIn, [], [], 0, 0, [], rfl, rfl, F9, nsub N9 (by lcg_sub), hIn0, fun _ h => (nomatch h), fun _ h => (nomatch h), fun _ h => (nomatch h), fun _ h => (nomatch h), .nil, rfl, fun j hj => absurd hj (Nat.not_lt_zero _), by kt_at_in, by kt_at_in⟩
  case turn =>
    clear k1 hneIn
    rintro k s' ⟨h', tk, m₂, i, o, svs, cvs, es, ec, ts, rfl, hki, F10, N10, hLI, qI, qS, qC, hTs, hSv, hCl, hCv, q1, q2⟩
    refine nextList c'.hh F10 N10 hLI ?_ (.tail _ (.tail _ (List.mem_append_right _ (.head _)))) ?_ ?_
    · refine List.forall_mem_cons.mpr ⟨Ne.symm dIS, List.forall_mem_cons.mpr ⟨Ne.symm dIC, fun q hq => (List.mem_append.mp hq).elim (qI q) fun h => ?_⟩⟩
      obtain rfl := List.mem_singleton.mp h
      exact Ne.symm dID
    · intro o' h11 hi F11 N11 hLI'
      have hi : i < nums.length := by exact zq494 hnv hki hi
      obtain ⟨tx, ex⟩ := intsAt hIn hi
      have etk : (nums.take (i + 1)).map (fun x => x % 64 * 16) = (nums.take i).map (fun x => x % 64 * 16) ++ [nums.getD i 0 % 64 * 16] := by
        rw [List.take_succ, List.map_append]
        congr 1
        rw [List.getD_eq_getElem?_getD, List.getElem?_eq_getElem hi]; rfl
      rw [ex]
      have hsl : svs.length = i := by rw [hSv.length]; simp; exact zq495 hnv hki hCl (by assumption)
      generalize nums.getD i 0 = num at *
      refine wpAny_pure ?_
      repeat kt_at_get
      refine methN PySem.F.slot_list_append PySem.F.type_list_append (by assumption) (.tail _ (.head _)) ?_
      repeat kt_at_get
      refine iMod (by decide) ?_
      repeat kt_at_get
      refine iMulS (by exact zq496) ?_
      repeat kt_at_get
      refine appendN (l := S0) (by assumption) (nsub (news' := (S0, listOf svs.toArray es) :: (In, o') :: (C0, listOf cvs.toArray ec) :: (ts ++ [(Dn, listOf nvs.toArray 0)])) (by assumption) (by lcg_sub)) ?_ (by exact zq497 hnl hnv hki hCl (by assumption) hsl) ?_
      · refine List.forall_mem_cons.mpr ⟨dIS, List.forall_mem_cons.mpr ⟨dCS, fun q hq => (List.mem_append.mp hq).elim (qS q) fun h => ?_⟩⟩
        obtain rfl := List.mem_singleton.mp h
        exact dDS
      intro h12 F12 N12
      obtain ⟨tsv, svs', esv, N12'⟩ : ∃ tsv : Tok, ∃ svs' : List Value, svs' = svs ++ [.int (num % 64 * 16) tsv] ∧ News h₀ L h12 ((S0, listOf svs'.toArray (es + 1)) :: (In, o') :: (C0, listOf cvs.toArray ec) :: (ts ++ [(Dn, listOf nvs.toArray 0)])) := ⟨_, _, rfl, N12⟩
      clear N12
      refine ⟨rfl, ?_⟩
      repeat kt_at_get
      refine methN PySem.F.slot_list_append PySem.F.type_list_append (by assumption) (.tail _ (.tail _ (.head _))) ?_
      repeat kt_at_get
      refine UnaryOp_ ?_
      repeat kt_at_get
      refine iNeg ?_
      refine itemL1 (vs := svs) (x := .int (num % 64 * 16) tsv) (by assumption) (by rw [← esv]; exact .head _) (by exact zq497 hnl hnv hki hCl (by assumption) hsl) ?_ (by with_unfolding_all rfl) (by intro _; with_unfolding_all rfl)
      repeat kt_at_get
      refine iFloor (by decide) (by decide) ?_
      repeat kt_at_get
      refine iMod (by decide) ?_
      repeat kt_at_get
      refine iFloor (by decide) (by decide) ?_
      repeat kt_at_get
      refine iMod (by decide) ?_
      repeat kt_at_get
      refine wpAny_call (colour_call (n := 18) c' (by assumption) (by assumption) (by exact zq498) (by exact zq499) (by exact zq500) fun h13 tk13 U u0 u1 u2 F13 N13 hU _ _ _ _ _ _ => ?_)
      obtain ⟨oU, hoU, N13'⟩ : ∃ oU, oU = tupO [.float (fl (col (num % 64 * 16) (num / 64 % 8 + 1) (num / 512 % 8 + 1) 0)) u0, .float (fl (col (num % 64 * 16) (num / 64 % 8 + 1) (num / 512 % 8 + 1) 2048)) u1, .float (fl (col (num % 64 * 16) (num / 64 % 8 + 1) (num / 512 % 8 + 1) 4096)) u2] ∧ News h₀ L h13 ((U, oU) :: (S0, listOf svs'.toArray (es + 1)) :: (In, o') :: (C0, listOf cvs.toArray ec) :: (ts ++ [(Dn, listOf nvs.toArray 0)])) := ⟨_, rfl, N13⟩
      clear N13
      repeat kt_at_get
      refine appendN (l := C0) (by assumption) (nsub (news' := (C0, listOf cvs.toArray ec) :: (U, oU) :: (S0, listOf svs'.toArray (es + 1)) :: (In, o') :: (ts ++ [(Dn, listOf nvs.toArray 0)])) (by assumption) (by lcg_sub)) ?_ (by exact zq501 hnl hnv hki hCl (by assumption) hsl) ?_
      · refine List.forall_mem_cons.mpr ⟨Ne.symm (hU (C0, _) (.tail _ (.tail _ (.head _)))), List.forall_mem_cons.mpr ⟨Ne.symm dCS, List.forall_mem_cons.mpr ⟨dIC, fun q hq => (List.mem_append.mp hq).elim (qC q) fun h => ?_⟩⟩⟩
        obtain rfl := List.mem_singleton.mp h
        exact dDC
      intro h14 F14 N14
      refine ⟨rfl, ?_⟩
      repeat kt_at_get
      refine ⟨k - 1, by exact zq502 hnv hki (by assumption), h14, _, _, i + 1, o', svs', cvs ++ [.ref U], _, _, (U, oU) :: ts, rfl, by exact zq503 hnv hki (by assumption), F14, nsub N14 (by lcg_sub), hLI', ?_, ?_, ?_, ?_, ?_, by simp [hCl], ?_, by kt_at_in, by kt_at_in⟩
      · exact List.forall_mem_cons.mpr ⟨Ne.symm (hU (In, _) (.tail _ (.head _))), qI⟩
      · exact List.forall_mem_cons.mpr ⟨Ne.symm (hU (S0, _) (.head _)), qS⟩
      · exact List.forall_mem_cons.mpr ⟨Ne.symm (hU (C0, _) (.tail _ (.tail _ (.head _)))), qC⟩
      · exact List.forall_mem_cons.mpr ⟨⟨_, hoU⟩, hTs⟩
      · rw [etk, esv]; exact hSv.append (.cons _ _ .nil)
      · intro j hj
        rw [etk]
        have hl1 : ((nums.take i).map fun x => x % 64 * 16).length = i := by simp; exact zq504 hnv hki hCl (by assumption) hsl
        by_cases ej : j = i
        · subst ej
          have e1 : (cvs ++ [Value.ref U]).getD j .none = .ref U := by simp [List.getD, ← hCl]
          have e2 : ((nums.take j).map (fun x => x % 64 * 16) ++ [num % 64 * 16]).getD j 0 = num % 64 * 16 := by
            rw [List.getD_eq_getElem?_getD, List.getElem?_append_right (by exact zq505 hCl hsl hl1), hl1]; simp
          rw [e1, e2]
          exact ⟨U, _, _, u0, u1, u2, rfl, by rw [hoU]; exact .head _, by exact zq506, by exact zq499, by exact zq500⟩
        · have e1 : (cvs ++ [Value.ref U]).getD j .none = cvs.getD j .none := by simp only [List.getD_eq_getElem?_getD]; rw [List.getElem?_append_left (by exact zq507 hCl hsl hj hl1 ej)]
          have e2 : ((nums.take i).map (fun x => x % 64 * 16) ++ [num % 64 * 16]).getD j 0 = ((nums.take i).map (fun x => x % 64 * 16)).getD j 0 := by
            simp only [List.getD_eq_getElem?_getD]; rw [List.getElem?_append_left (by exact zq508 hCl hsl hj hl1 ej)]
          rw [e1, e2]
          exact (hCv j (by exact zq509 hCl hsl hj hl1 ej)).weak fun p hp => .tail _ hp
    · intro h11 hi F11 N11
      obtain rfl : i = nums.length := by exact zq510 hnv hki hi
      rw [List.take_length] at hSv hCv
      exact ⟨_, _, _, svs, cvs, es, ec, ts, rfl, F11, nsub N11 (by lcg_sub), qS, qC, hTs, hSv, hCl, hCv, q1, q2⟩
  case exit =>
    clear k1 hneIn
    rintro s' ⟨h', tk, m₂, svs, cvs, es, ec, ts, rfl, F10, N10, qS, qC, hTs, hSv, hCl, hCv, q1, q2⟩
    obtain ⟨S, hSn, hS2, hS8, hSb, h336, h960⟩ : ∃ S : List Int, S = nums.map (fun x => x % 64 * 16) ∧ 2 ≤ S.length ∧ S.length ≤ 8 ∧ (∀ a ∈ S, 0 ≤ a ∧ a < 1024 ∧ a % 16 = 0) ∧ 336 ∈ S ∧ 960 ∈ S := by
      refine ⟨_, rfl, by rw [List.length_map, hnum]; simp, by simp; omega, fun a ha => ?_, List.mem_map.mpr ⟨3861, by rw [hnum]; simp, by decide⟩, List.mem_map.mpr ⟨3324, by rw [hnum]; simp, by decide⟩⟩
      obtain ⟨x, _, rfl⟩ := List.mem_map.mp ha
      exact zq511
    have hSl : nums.length = S.length := by rw [hSn]; simp
    rw [hSl] at hCl hCv
    rw [← hSn] at hSv hCv
    clear hSn hSl hnl hnv hIn
    have hsl : svs.length = S.length := hSv.length
    repeat kt_at_get
    refine compA (cl := []) (by with_unfolding_all rfl) (by with_unfolding_all rfl) (by rfl) (by decide) (by intro _; with_unfolding_all rfl) ?_
    repeat kt_at_get
    refine CallK_ ?_ (by with_unfolding_all rfl)
    repeat kt_at_get
    refine callWith_KW (K := KH w.params) (h₀ := h₀) KX (FA.k (by constructor) _) (by with_unfolding_all rfl) ?_ (by with_unfolding_all rfl) (by with_unfolding_all rfl)
    repeat kt_at_get
    refine lenN (vs := cvs) (by assumption) (.tail _ (.head _)) (by exact zq512 hCl hS2 hS8 hsl) ?_
    repeat kt_at_get
    refine callIter ?_
    refine iterList (vs := cvs) (by assumption) (by assumption) (.tail _ (.head _)) ?_
    intro Ic oIc h11 F11 N11 hIc hneIc
    repeat kt_at_get
    refine kwAll_cons ?_
    repeat kt_at_get
    refine kwAll_nil ⟨c'.X.keeps F11.keep, ?_⟩
    refine wpAny_call (pos := [.int (cvs.length : Int) _, .ref Ic]) (kw := [(Str.ofString "key", .ref 118)]) (nsK_call (n := 13) (S := S) c F11 N11 hIc hneIc (.tail _ (.head _)) hCl (fun i hi => (hCv i hi).weak fun p hp => .tail _ (.tail _ hp)) hS2 (by exact zq513 hS2 hS8 hsl) fun h12 tk12 D us hus F12 N12 hD hul huR hup hus' htk12 => ?_)
    have hhl : hus.length = S.length := hup.length_eq
    have hub : ∀ i, i < hus.length → 0 ≤ hus.getD i 0 ∧ hus.getD i 0 < 1024 := fun i hi => by
      obtain ⟨_, _, _, _, _, _, _, _, b, _⟩ := huR i hi; exact b
    refine iterList (vs := us) F12 N12 (.head _) ?_
    intro I2 oI2 h13 F13 N13 hI2 hneI2
    refine compList (vs := us) (P := fun i x _ lo hi => ∃ t : Nat, x = .float (fl (hus.getD i 0 * 1048576)) t ∧ 1 ≤ t ∧ lo ≤ t ∧ t < hi) c'.hh F13 N13 hneI2 hI2 (.head _) (by exact zq514 hS2 hS8 hsl hul hhl) (fun _ _ _ _ _ _ h _ => h) ?_ (by decide) rfl ?_
    · intro i hi h' tk C oC o' mc nw Q F5 N5 hLI hnC hsub hn5 htk post5
      obtain ⟨T, share, level, tr, tg, tb, ev, hT, hs, hsh, hlv⟩ := huR i (by exact zq467 hul hi)
      rw [ev]
      refine wpAny_pure ?_
      refine PyProof.Rows.assign_Name (stC rfl rfl F5 N5 hnC hn5 ?_)
      intro h6 oC6 F6 N6 hn6
      refine Call_ ?_ (by with_unfolding_all rfl)
      repeat kt_at_get
      refine ldC rfl rfl N6 (.head _) hn6 (by kt_at_in) ?_ (by decide)
      repeat kt_at_get
      refine wpAny_call (hue_call (n := 17) c' F6 N6 (.tail _ (.tail _ (hsub _ (.tail _ hT)))) (by exact zq515 hs) hsh hlv fun h9 tk9 t9 F9 N9 ht1 ht2 => ?_)
      have es : hus.getD i 0 % 1024 = hus.getD i 0 := Int.emod_eq_of_lt hs.1 hs.2
      rw [es]
      exact post5 _ [] _ _ _ _ F9 N9 (fun p hp => nomatch hp) hn6 (fun p hp => nomatch hp) ⟨t9, rfl, by exact zq516 htk12 htk ht1, by exact zq119 ht1, ht2⟩ (by exact zq517 ht1 ht2)
    intro C Hu oC mc h14 tk14 ts2 hvs lo2 hi2 F14 N14 hn14 hCD hC14 hD14 hT14 hhv hPh hlo2 hmono2 htk14
    refine compEndA F14 N14 hn14 (List.forall_mem_cons.mpr ⟨Ne.symm hCD, hC14⟩) (by with_unfolding_all rfl) (by with_unfolding_all rfl) (by with_unfolding_all rfl) fun h15 F15 N15 => ?_
    repeat kt_at_get
    obtain ⟨θ, hθ⟩ := Classical.skolem.mp (fun i => (by
      by_cases h : i < us.length
      · obtain ⟨t, a⟩ := hPh i h; exact ⟨t, fun _ => a⟩
      · exact ⟨0, fun q => absurd q h⟩ : ∃ t : Nat, i < us.length → hvs.getD i .none = .float (fl (hus.getD i 0 * 1048576)) t ∧ 1 ≤ t ∧ lo2 i ≤ t ∧ t < hi2 i))
    have dHS : Hu ≠ S0 := Ne.symm (hD14 (S0, _) (List.mem_append_right _ (.tail _ (.head _))))
    have hvl : hvs.length = hus.length := hhv.trans hul
    replace N15 : News h₀ L h15 ((Hu, listOf hvs.toArray hvs.length) :: (S0, listOf svs.toArray es) :: []) := nsub N15 (by lcg_sub)
    clear N10 qS qC hTs hCl hCv N11 hIc hneIc F11 F12 N12 hD huR F13 N13 hI2 hneI2 hPh F14 N14 hn14 hCD hC14 hD14 hT14 F10 q1
    refine compA (cl := []) (by with_unfolding_all rfl) (by with_unfolding_all rfl) (by rfl) (by decide) (by intro _; with_unfolding_all rfl) ?_
    repeat kt_at_get
    refine slcFrom ?_
    repeat kt_at_get
    refine dropN1 (vs := hvs) (by assumption) (by assumption) (News.isList (by assumption) (.head _)) (by exact zq518 hS2 hS8 hsl hul hhl hhv) (by exact zq519 hS2 hS8 hsl hul hhl hhv) ?_ (by with_unfolding_all rfl) (by intro _; with_unfolding_all rfl)
    intro E2 h16 F16 N16 hE2
    repeat kt_at_get
    refine itemN0 (vs := hvs) (by assumption) (.tail _ (.head _)) (by exact zq520 hS2 hS8 hsl hul hhl hhv) (by exact zq518 hS2 hS8 hsl hul hhl hhv) ?_ (by with_unfolding_all rfl) (by intro _; with_unfolding_all rfl)
    rw [(hθ 0 (by exact zq521 hS2 hS8 hsl hul hhl hhv)).1]
    repeat kt_at_get
    refine fAdd (by have := hub 0 (by exact zq522 hS2 hS8 hsl hul hhl hhv); exact zq523 this) (by decide) ?_
    repeat kt_at_get
    refine listN (by assumption) (by assumption) (by show 1 < 1000; decide) ?_
    intro E3 h17 F17 N17 hE3
    repeat kt_at_get
    refine addN (vs := hvs.drop 1) F17 N17 (N17.isList (.tail _ (.head _))) (N17.isList (.head _)) (by simp; exact zq524 hS2 hS8 hsl hul hhl hhv) ?_
    intro E4 h18 F18 N18 hE4
    obtain ⟨tq, N18a⟩ : ∃ tq : Tok, News h₀ L h18 ((E4, listOf (hvs.drop 1 ++ [Value.float (fl (hus.getD 0 0 * 1048576 + 1073741824)) tq]).toArray 0) :: (Hu, listOf hvs.toArray hvs.length) :: (S0, listOf svs.toArray es) :: []) := ⟨_, nsub N18 (by lcg_sub)⟩
    clear N18 hE4 hE3 hE2 N17 N16
    obtain ⟨us2, nxt, hnx, hnl2, hul2, hnv2, N18'⟩ : ∃ (us2 : List Value) (nxt : List Int), nxt = hus.drop 1 ++ [hus.getD 0 0 + 1024] ∧ nxt.length = hus.length ∧ us2.length = hvs.length ∧ (∀ i, i < hus.length → ∃ t, us2.getD i .none = .float (fl (nxt.getD i 0 * 1048576)) t) ∧ News h₀ L h18 ((E4, listOf us2.toArray 0) :: (Hu, listOf hvs.toArray hvs.length) :: (S0, listOf svs.toArray es) :: []) := by
      refine ⟨_, _, rfl, by simp; exact zq525 hS2 hS8 hsl hul hhl hhv, by simp; exact zq526 hS2 hS8 hsl hul hhl hhv, fun i hi => ?_, N18a⟩
      by_cases e : i + 1 < hus.length
      · refine ⟨θ (i + 1), ?_⟩
        have e1 : (hvs.drop 1 ++ [Value.float (fl (hus.getD 0 0 * 1048576 + 1073741824)) tq]).getD i .none = hvs.getD (i + 1) .none := by
          simp only [List.getD_eq_getElem?_getD]
          rw [List.getElem?_append_left (by simp; exact zq527 hS2 hS8 hsl hul hhl hhv e), List.getElem?_drop, Nat.add_comm]
        have e2 : (hus.drop 1 ++ [hus.getD 0 0 + 1024]).getD i 0 = hus.getD (i + 1) 0 := by
          simp only [List.getD_eq_getElem?_getD]
          rw [List.getElem?_append_left (by simp; exact zq528 hS2 hS8 hsl hul hhl hhv e), List.getElem?_drop, Nat.add_comm]
        rw [e1, e2]
        exact (hθ (i + 1) (by exact zq529 hul hhv e)).1
      · have hil : i = hus.length - 1 := by exact zq530 hS2 hS8 hsl hul hhl hhv hi e
        refine ⟨tq, ?_⟩
        have e1 : (hvs.drop 1 ++ [Value.float (fl (hus.getD 0 0 * 1048576 + 1073741824)) tq]).getD i .none = .float (fl (hus.getD 0 0 * 1048576 + 1073741824)) tq := by
          simp only [List.getD_eq_getElem?_getD]
          rw [List.getElem?_append_right (by simp; exact zq531 hul hhv hi e)]
          have : i - (List.drop 1 hvs).length = 0 := by simp; exact zq532 hS2 hS8 hsl hul hhl hhv hi e hil
          rw [this]; rfl
        have e2 : (hus.drop 1 ++ [hus.getD 0 0 + 1024]).getD i 0 = hus.getD 0 0 + 1024 := by
          simp only [List.getD_eq_getElem?_getD]
          rw [List.getElem?_append_right (by simp; exact zq533 hul hhv hi e)]
          have : i - (List.drop 1 hus).length = 0 := by simp; exact zq534 hil
          rw [this]; rfl
        rw [e1, e2, show (hus.getD 0 0 + 1024) * 1048576 = hus.getD 0 0 * 1048576 + 1073741824 by exact zq535]
    clear N18a
    repeat kt_at_get
    have hSh : ∀ a ∈ hus, 0 ≤ a ∧ a < 1024 := fun a ha => by have := hSb a (hup.mem_iff.mp ha); exact zq536 this
    have hnb : ∀ x ∈ nxt, 0 ≤ x ∧ x < 2048 := fun x hx => by
      rw [hnx] at hx
      rcases List.mem_append.mp hx with h | h
      · have := hSh x (List.mem_of_mem_drop h); exact zq515 this
      · have := hub 0 (by exact zq537 hS2 hS8 hsl hul hhl hhv hnl2 hul2)
        obtain rfl := List.mem_singleton.mp h
        exact zq538 this
    refine zipLists F18 N18' (.tail _ (.head _)) (.head _) ?_
    intro z TI TO i1 i2 o1 o2 h19 F19 N19 Z19 z1 z2
    refine zipSelf N19 ?_
    refine zipPairs (vs := hvs) (us := us2) (x := fun i t => .float (fl (hus.getD i 0 * 1048576 - nxt.getD i 0 * 1048576)) t) c'.hh F19 N19 Z19 z1 z2 (.tail _ (.head _)) (.head _) hul2 (by exact zq539 hS2 hS8 hsl hul hhl hhv hnl2 hul2) ?_ (by decide) rfl rfl rfl (by decide) (by decide) (by decide) ?_
    · intro i hi A s Q E h
      obtain ⟨tb, eb⟩ := hnv2 i (by exact zq540 hul hhv hnl2 hul2 hi)
      have b1 := hub i (by exact zq540 hul hhv hnl2 hul2 hi)
      have b2 := hnb _ (getD_memI (l := nxt) (i := i) (by exact zq541 hul hhv hnl2 hul2 hi))
      rw [(hθ i (by exact zq542 hul hhv hnl2 hul2 hi)).1]
      refine Eq.mpr (congrArg (fun v => wpAny _ A (binaryOp .Sub _ v) Q E s) eb) ?_
      obtain ⟨sh, sg, sd, st, so⟩ := s
      exact fSub (by exact zq523 b1) (by exact zq543 b2) h
    intro C Hh oC mc h20 tk20 ts3 ys τ F20 N20 hn20 hCD hC20 hD20 hT20 hyl hys hτ hmono htk20
    refine compEndA F20 N20 hn20 (List.forall_mem_cons.mpr ⟨Ne.symm hCD, hC20⟩) (by with_unfolding_all rfl) (by with_unfolding_all rfl) (by with_unfolding_all rfl) fun h21 F21 N21 => ?_
    repeat kt_at_get
    dsimp only at hτ htk20
    have hgz : ∀ i, i < hus.length → (gapsOf hus).getD i default = (hus.getD i 0 - nxt.getD i 0, hus.getD i 0) := fun i hi => by rw [gapsOf_get hi, hnx]
    obtain ⟨φ, hφ⟩ := exists_phi (2 * hus.length) (fun k => if k < hus.length then θ k else τ (k - hus.length)) (fun k => if k < hus.length then hus.getD k 0 * 1048576 else hus.getD (k - hus.length) 0 * 1048576 - nxt.getD (k - hus.length) 0 * 1048576) fun i j hij hj e => by
      by_cases h1 : j < hus.length
      · rw [if_pos (show i < hus.length by exact zq544 hul hhv hnl2 hul2 hyl hij h1), if_pos h1] at e
        have a1 := hθ i (by exact zq545 hul hhv hnl2 hul2 hyl hij h1)
        have a2 := hθ j (by exact zq546 hul hhv hnl2 hul2 hyl h1)
        have a3 := hmono2 i j hij (by exact zq546 hul hhv hnl2 hul2 hyl h1)
        omega
      · rw [if_neg h1] at e
        have a2 := hτ (j - hus.length) (by exact zq548 hul hhv hnl2 hul2 hyl hj h1)
        by_cases h2 : i < hus.length
        · rw [if_pos h2] at e
          have a1 := hθ i (by exact zq546 hul hhv hnl2 hul2 hyl h2)
          have a3 := hlo2 i (by exact zq546 hul hhv hnl2 hul2 hyl h2)
          omega
        · rw [if_neg h2] at e
          have := hmono (i - hus.length) (j - hus.length) (by exact zq550 hul hhv hnl2 hul2 hyl hij h1 h2) (by exact zq548 hul hhv hnl2 hul2 hyl hj h1)
          exact zq551 e this
    have hφ1 : ∀ i, i < hus.length → φ (θ i) = hus.getD i 0 * 1048576 := fun i hi => by
      have := hφ i (by exact zq552 hul hhv hnl2 hul2 hyl hi)
      simp only [if_pos hi] at this
      exact this
    have hφ2 : ∀ i, i < hus.length → φ (τ i) = hus.getD i 0 * 1048576 - nxt.getD i 0 * 1048576 := fun i hi => by
      have := hφ (hus.length + i) (by exact zq553 hul hhv hnl2 hul2 hyl hi)
      rw [if_neg (show ¬ hus.length + i < hus.length by exact zq446), if_neg (show ¬ hus.length + i < hus.length by exact zq446), show hus.length + i - hus.length = i by exact zq554] at this
      exact this
    have hfc : ∀ i j, i < ys.length → j < ys.length → ys.getD i .none = ys.getD j .none → scl ((gapsOf hus).getD i default) = scl ((gapsOf hus).getD j default) := by
      intro i j hi hj e
      obtain ⟨T1, e1, m1⟩ := hys i (by exact zq555 hul hhv hnl2 hul2 hyl hi)
      obtain ⟨T2, e2, m2⟩ := hys j (by exact zq555 hul hhv hnl2 hul2 hyl hj)
      rw [e1, e2] at e
      injection e with e
      subst e
      have := tupO_inj (Option.some.inj ((N21 _ (.tail _ (List.mem_append_left _ m1))).1.symm.trans (N21 _ (.tail _ (List.mem_append_left _ m2))).1))
      simp only [List.cons.injEq, Value.float.injEq] at this
      have et : τ i = τ j := this.1.2
      have : i = j := by
        rcases Nat.lt_trichotomy i j with q | q | q
        · have := hmono i j q (by exact zq555 hul hhv hnl2 hul2 hyl hj); exact zq556 et this
        · exact q
        · have := hmono j i q (by exact zq555 hul hhv hnl2 hul2 hyl hi); exact zq557 et this
      rw [this]
    obtain ⟨κ, hκ⟩ := exists_kappa ys (fun i => scl ((gapsOf hus).getD i default)) hfc
    have hPB : ∀ v ∈ ys, PB φ tk20 ts3 v (κ v) := by
      intro v hv
      obtain ⟨j, hj, rfl⟩ := List.getElem_of_mem hv
      have ej : ys[j] = ys.getD j .none := by simp [List.getD, hj]
      have hj' : j < hus.length := by exact zq558 hul hhv hnl2 hul2 hyl hj
      rw [ej, hκ j hj, hgz j hj']
      obtain ⟨T1, e1, m1⟩ := hys j (by exact zq555 hul hhv hnl2 hul2 hyl hj)
      obtain ⟨a1, a2, a3, a4⟩ := hθ j (by exact zq559 hul hhv hnl2 hul2 hyl hj)
      have b1 := hub j hj'
      have b2 := hnb _ (getD_memI (l := nxt) (i := j) (by exact zq560 hul hhv hnl2 hul2 hyl hj))
      have a5 := hlo2 j (by exact zq559 hul hhv hnl2 hul2 hyl hj)
      have a6 := hτ j (by exact zq555 hul hhv hnl2 hul2 hyl hj)
      rw [e1]
      refine ⟨T1, _, _, rfl, m1, ⟨τ j, ?_, by exact zq561 htk12 htk14 a6, by exact zq562 a6, (hφ2 j hj').trans ?_, ?_⟩, ⟨θ j, a1, a2, by exact zq563 a4 a5 a6, hφ1 j hj', ?_⟩⟩
      · show Value.float _ _ = Value.float (fl ((hus.getD j 0 - nxt.getD j 0) * 1048576)) _
        rw [show (hus.getD j 0 - nxt.getD j 0) * 1048576 = hus.getD j 0 * 1048576 - nxt.getD j 0 * 1048576 by exact zq564]
      · show _ = (hus.getD j 0 - nxt.getD j 0) * 1048576
        exact zq565
      · show ((hus.getD j 0 - nxt.getD j 0) * 1048576).natAbs < _
        exact zq566 b1 b2
      · show (hus.getD j 0 * 1048576).natAbs < _
        exact zq523 b1
    have hmapκ : ys.map κ = (gapsOf hus).map scl := by
      have hgl := gapsOf_length hus (by exact zq567 hS2 hS8 hsl hul hhl hhv hnl2 hul2 hyl)
      apply List.ext_getElem
      · simp; exact zq568 hul hhv hnl2 hul2 hyl hgl
      · intro i h1 h2
        have hi : i < ys.length := by simpa using h1
        have hg : i < (gapsOf hus).length := by simpa using h2
        have := hκ i hi
        simp only [List.getElem_map]
        simp only [List.getD_eq_getElem?_getD, List.getElem?_eq_getElem hi, List.getElem?_eq_getElem hg, Option.getD_some] at this
        exact this
    have dSH : S0 ≠ Hh := hD20 (S0, _) (List.mem_append_right _ (.tail _ (.tail _ (.head _))))
    have hH3 : ∀ q ∈ ts3, q.1 ≠ Hh := fun q hq => hD20 q (List.mem_append_left _ hq)
    have hS3 : ∀ q ∈ ts3, q.1 ≠ S0 := Tups.off hT20 N21 (fun q hq => .tail _ (List.mem_append_left _ hq)) (.tail _ (List.mem_append_right _ (.tail _ (.tail _ (.head _)))))
    have hl20 : tk14 ≤ tk20 := by exact zq569 htk20
    replace N21 : News h₀ L h21 ((Hh, listOf ys.toArray ys.length) :: (S0, listOf svs.toArray es) :: ts3) := nsub N21 (by lcg_sub)
    clear hn20 hC20 hD20 F20 N20 N19 F19 Z19 z1 z2 F18 N18' F17 F16 hfc hκ hys hτ hmono hφ hφ1 hφ2 hθ hgz hnv2 hlo2 hmono2 F15 N15
    refine wpAny_call (heapify_call (lt := fun a b => plt (κ a) (κ b)) (n := 16) c' F21 N21 (List.forall_mem_cons.mpr ⟨dSH, hH3⟩) (LtOK.pf fun v hv => ((hPB v hv).ext (Nat.le_refl _) (fun _ _ => rfl) fun p hp => .tail _ hp).pf) (by exact zq570 hS2 hS8 hsl hul hhl hhv hnl2 hul2 hyl) fun h22 tk22 F22 N22 htk22 => ⟨rfl, ?_⟩)
    have hHp := hfy_perm (lt := fun a b => plt (κ a) (κ b)) (ys.length / 2) ys (by exact zq571 hS2 hS8 hsl hul hhl hhv hnl2 hul2 hyl)
    have hHh : HeapFrom (fun a b => plt (κ a) (κ b)) 0 (hfy (fun a b => plt (κ a) (κ b)) (ys.length / 2) ys) := hfy_heap plt_swo _ _ (by exact zq571 hS2 hS8 hsl hul hhl hhv hnl2 hul2 hyl) (heapFrom_half ys)
    revert N22 hHp hHh
    generalize hfy (fun a b => plt (κ a) (κ b)) (ys.length / 2) ys = hv0
    intro N22 hHp hHh
    replace hPB : ∀ v ∈ hv0, PB φ tk22 ts3 v (κ v) := fun v hv => (hPB v (hHp.mem_iff.mp hv)).ext (by exact zq119 htk22) (fun _ _ => rfl) fun p hp => hp
    have hHm : (hv0.map κ).Perm ((gapsOf hus).map scl) := (hHp.map κ).trans (.of_eq hmapκ)
    clear hmapκ
    repeat kt_at_get
    refine wpAny_call (table_call (n := 16) c' (by assumption) (by assumption) (.tail _ (.head _)) hSv (by exact zq572 hS2 hS8 hsl hul hhl hhv hnl2 hul2 hyl) (by exact zq573 hS2 hS8 hsl hul hhl hhv hnl2 hul2 hyl) fun h23 tk23 Dt tst yst et row0 F23 N23 hDt hTt hr1 hr2 hRt htk23 => ?_)
    obtain rfl : row0 = hus := sorted_uniq (hr1.trans hup.symm) hr2 hus'
    have hgl : (gapsOf row0).length = row0.length := gapsOf_length _ (by exact zq574 hS2 hS8 hsl hhl hnl2)
    repeat kt_at_get
    refine wpAny_call (nsI_call (n := 14) (T := tabOf (gapsOf row0)) c' F23 N23 (.head _) (hRt.mono fun v z h => h.weak fun p hp => .tail _ (List.mem_append_left _ hp)) (by rw [tabOf_len]; exact zq575 hS2 hS8 hsl hhl hnl2 hgl) (by rw [tabOf_len]; exact zq576 hS2 hS8 hsl hhl hnl2 hgl) fun h24 tk24 Du tsu dys zs rest F24 N24 hDu hTu hRu hz10 hzs hzp hzr htk24 => ?_)
    repeat kt_at_get
    refine callRange (n := 10) (by assumption) (by assumption) ?_
    intro Dr h25 ur vr tk25 F25 N25 hDr htk25
    repeat kt_at_get
    refine iterRange (n := 10) (by decide) F25 N25 (.head _) ?_
    intro Ir h26 F26 N26 hIr
    have hRd : Rel2 (PI (tsu ++ (tst ++ ts3))) dys zs := hRu.mono fun v z h => h.tups fun p hp hc => by
      rcases List.mem_append.mp hp with hp | hp
      · exact List.mem_append_left _ hp
      refine List.mem_append_right _ ?_
      rcases List.mem_cons.mp hp with rfl | hp
      · simp at hc
      rcases List.mem_append.mp hp with hp | hp
      · exact List.mem_append_left _ hp
      refine List.mem_append_right _ ?_
      rcases List.mem_cons.mp hp with rfl | hp
      · simp at hc
      rcases List.mem_cons.mp hp with rfl | hp
      · simp at hc
      · exact hp
    have hTd : Tups (tsu ++ (tst ++ ts3)) := fun p hp => by
      rcases List.mem_append.mp hp with hp | hp
      · exact hTu p hp
      · rcases List.mem_append.mp hp with hp | hp
        · exact hTt p hp
        · exact hT20 p hp
    have hsub26 : ∀ p ∈ tsu ++ (tst ++ ts3), p ∈ tsu ++ (Dt, listOf yst.toArray et) :: (tst ++ (Hh, listOf hv0.toArray ys.length) :: (S0, listOf svs.toArray es) :: ts3) := fun p hp => by
      rcases List.mem_append.mp hp with hp | hp
      · exact List.mem_append_left _ hp
      · refine List.mem_append_right _ (.tail _ ?_)
        rcases List.mem_append.mp hp with hp | hp
        · exact List.mem_append_left _ hp
        · exact List.mem_append_right _ (.tail _ (.tail _ hp))
    have mH : (Hh, listOf hv0.toArray ys.length) ∈ tsu ++ (Dt, listOf yst.toArray et) :: (tst ++ (Hh, listOf hv0.toArray ys.length) :: (S0, listOf svs.toArray es) :: ts3) := List.mem_append_right _ (.tail _ (List.mem_append_right _ (.head _)))
    have mS : (S0, listOf svs.toArray es) ∈ tsu ++ (Dt, listOf yst.toArray et) :: (tst ++ (Hh, listOf hv0.toArray ys.length) :: (S0, listOf svs.toArray es) :: ts3) := List.mem_append_right _ (.tail _ (List.mem_append_right _ (.tail _ (.head _))))
    have dDuH : Du ≠ Hh := Ne.symm (hDu _ mH)
    have dDuS : Du ≠ S0 := Ne.symm (hDu _ mS)
    have dIH : Ir ≠ Hh := Ne.symm (hIr _ (.tail _ (.tail _ mH)))
    have dIS' : Ir ≠ S0 := Ne.symm (hIr _ (.tail _ (.tail _ mS)))
    have dIDu : Ir ≠ Du := Ne.symm (hIr _ (.tail _ (.head _)))
    have hqI : ∀ q ∈ tsu ++ (tst ++ ts3), q.1 ≠ Ir := fun q hq => hIr q (.tail _ (.tail _ (hsub26 q hq)))
    have hqDu : ∀ q ∈ tsu ++ (tst ++ ts3), q.1 ≠ Du := fun q hq => hDu q (hsub26 q hq)
    have hqH : ∀ q ∈ tsu ++ (tst ++ ts3), q.1 ≠ Hh := Tups.off hTd N24 (fun q hq => .tail _ (hsub26 q hq)) (.tail _ mH)
    have hqS : ∀ q ∈ tsu ++ (tst ++ ts3), q.1 ≠ S0 := Tups.off hTd N24 (fun q hq => .tail _ (hsub26 q hq)) (.tail _ mS)
    have N26' : News h₀ L h26 ((Ir, riO 0 10 1) :: (Hh, listOf hv0.toArray ys.length) :: (S0, listOf svs.toArray es) :: (Du, listOf dys.toArray dys.length) :: (tsu ++ (tst ++ ts3))) := nsub N26 fun p hp => by
      rcases List.mem_cons.mp hp with rfl | hp
      · exact .head _
      rcases List.mem_cons.mp hp with rfl | hp
      · exact .tail _ (.tail _ (.tail _ mH))
      rcases List.mem_cons.mp hp with rfl | hp
      · exact .tail _ (.tail _ (.tail _ mS))
      rcases List.mem_cons.mp hp with rfl | hp
      · exact .tail _ (.tail _ (.head _))
      · exact .tail _ (.tail _ (.tail _ (hsub26 p hp)))
    have hPBd : ∀ v ∈ hv0, PB φ tk25 (tsu ++ (tst ++ ts3)) v (κ v) := fun v hv => (hPB v hv).ext (by exact zq577 htk23 htk24 htk25) (fun _ _ => rfl) fun p hp => List.mem_append_right _ (List.mem_append_right _ hp)
    have hInv : Inv 0 row0 ((gapsOf row0).map fun z => (z, 4)) (zs.drop 0 ++ rest) := Inv.init hus' (fun a ha => hSb a (hup.mem_iff.mp ha)) (hup.mem_iff.mpr h336) (hup.mem_iff.mpr h960) (by exact zq578 hS2 hS8 hsl hhl hnl2 hgl) hzp
    have hHm' : (hv0.map κ).Perm ((((gapsOf row0).map fun z => (z, 4)).map (·.1)).map scl) := by rw [List.map_map]; simpa [Function.comp_def] using hHm
    revert hRd hTd hqI hqDu hqH hqS N26' hPBd
    generalize tsu ++ (tst ++ ts3) = tsd
    intro hRd hTd hqI hqDu hqH hqS N26' hPBd
    clear hRu hDu hIr hDr N24 F24 N23 F23 N25 F25 N26 mH mS hsub26 N22 F22 hHm hPB hDt hTt hTu hT20 hRt hS3 hH3
    refine forL (I := fun k s' => ∃ h' tk m₂ i hv κ φ eH svs eS Sp ts row Fd, s' = ⟨h', gs, dr, tk, oo⟩ ∧ k + i = 10 ∧ Fr h₀ L h' m₂ ∧ News h₀ L h' ((Ir, riO i ((10 : Int) - i) 1) :: (Hh, listOf (List.toArray hv) eH) :: (S0, listOf (List.toArray svs) eS) :: (Du, listOf dys.toArray dys.length) :: ts) ∧
        (∀ q ∈ ts, q.1 ≠ Ir) ∧ (∀ q ∈ ts, q.1 ≠ Du) ∧ (∀ q ∈ ts, q.1 ≠ Hh) ∧ (∀ q ∈ ts, q.1 ≠ S0) ∧ Tups ts ∧ (∀ v ∈ hv, PB φ tk ts v (κ v)) ∧ HeapFrom (fun a b => plt (κ a) (κ b)) 0 hv ∧ (hv.map κ).Perm ((Fd.map (·.1)).map scl) ∧ IntsAre svs Sp ∧ 2 ≤ Sp.length ∧ row.Perm Sp ∧ Inv i row Fd (zs.drop i ++ rest) ∧ Rel2 (PI ts) dys zs ∧
        m₂ (Str.ofString "heap") = some (.ref Hh) ∧ m₂ (Str.ofString "spots") = some (.ref S0) ∧ m₂ (Str.ofString "due") = some (.ref Du))
      (Z := fun s' => ∃ h' tk m₂ hv κ φ eH svs eS Sp ts row Fd, s' = ⟨h', gs, dr, tk, oo⟩ ∧ Fr h₀ L h' m₂ ∧ News h₀ L h' ((Hh, listOf (List.toArray hv) eH) :: (S0, listOf (List.toArray svs) eS) :: ts) ∧
        (∀ q ∈ ts, q.1 ≠ Hh) ∧ (∀ q ∈ ts, q.1 ≠ S0) ∧ Tups ts ∧ (∀ v ∈ hv, PB φ tk ts v (κ v)) ∧ HeapFrom (fun a b => plt (κ a) (κ b)) 0 hv ∧ (hv.map κ).Perm ((Fd.map (·.1)).map scl) ∧ IntsAre svs Sp ∧ 2 ≤ Sp.length ∧ row.Perm Sp ∧ Inv 10 row Fd (zs.drop 10 ++ rest) ∧
        m₂ (Str.ofString "heap") = some (.ref Hh) ∧ m₂ (Str.ofString "spots") = some (.ref S0)) ?turn2 10 ?init2 ?exit2
    case init2 => exact ⟨_, _, _, 0, hv0, κ, φ, _, svs, _, S, tsd, row0, _, rfl, rfl, F26, N26', hqI, hqDu, hqH, hqS, hTd, hPBd, hHh, hHm', hSv, hS2, hup, hInv, hRd, by kt_at_in, by kt_at_in, by kt_at_in⟩
    case turn2 =>
      clear hqI hqDu hqH hqS hTd hPBd hHh hHm' hSv hInv hRd q2 F26 N26' htk25 htk24 htk23 hsl
      rintro k s' ⟨h', tk, m₂, i, hv, κ, φ, eH, svs, eS, Sp, ts, row, Fd, rfl, hki, F27, N27, qI, qD, qH, qS, hTs, hPB, hHh, hHm, hSv, hSp2, hrow, hInv, hRd, q1, q2, q3⟩
      refine nextRange c'.hh F27 N27 (List.forall_mem_cons.mpr ⟨Ne.symm dIH, List.forall_mem_cons.mpr ⟨Ne.symm dIS', List.forall_mem_cons.mpr ⟨Ne.symm dIDu, qI⟩⟩⟩) ?_ ?_
      · intro h28 hpos F28 N28
        have hi : i < 10 := by exact zq579 hki hpos
        have hiz : i < zs.length := by exact zq580 hz10 hki hpos
        have er : riO ((i : Int) + 1) ((10 : Int) - i - 1) 1 = riO ((i + 1 : Nat) : Int) ((10 : Int) - ((i + 1 : Nat) : Int)) 1 := by
          rw [show ((i + 1 : Nat) : Int) = (i : Int) + 1 by exact zq581, show (10 : Int) - ((i : Int) + 1) = (10 : Int) - i - 1 by exact zq582]
        rw [er] at N28
        have hdrop : zs.drop i = zs.getD i default :: zs.drop (i + 1) := by
          rw [List.drop_eq_getElem_cons hiz]
          congr 1
          simp [List.getD, hiz]
        have hy : ∀ r ∈ zs.drop (i + 1) ++ rest, plt r (zs.getD i default) = false := fun r hr => by
          rcases List.mem_append.mp hr with hr | hr
          · have := (hdrop ▸ hzs.drop (i := i) : (zs.getD i default :: zs.drop (i + 1)).Pairwise fun a b => plt b a = false)
            exact (List.pairwise_cons.mp this).1 r hr
          · refine hzr r hr _ ?_
            rw [List.getD_eq_getElem?_getD, List.getElem?_eq_getElem hiz]; exact List.getElem_mem hiz
        obtain ⟨aT, ta, tb, eT, mT⟩ := hRd.2 i hiz
        rw [hdrop] at hInv
        obtain ⟨gap, spot, ez⟩ : ∃ gap spot, zs.getD i default = (gap, spot) := ⟨_, _, rfl⟩
        rw [ez] at hInv hy mT
        obtain ⟨v0, hv1, rfl, hk0, ⟨d, hd⟩, hb, hev, rest2, hp1, hp2⟩ := hInv.root hi hy hHh hHm
        obtain ⟨row', Fd', hr', hInv', hFd'⟩ := hInv.next hd
        have hlenF : hv1.length + 1 = row.length := by
          have a1 := hHm.length_eq
          have a2 := hInv.gaps.length_eq
          have a3 : (gapsOf row).length = row.length := by
            cases row with
            | nil => rfl
            | cons x t => rw [gapsOf_gp, gp_len]
          simp at a1 a2; exact zq583 a3 a1 a2
        have hlr := hInv.len
        have hlS : svs.length = row.length := hSv.length.trans hrow.length_eq.symm
        refine wpAny_pure ?_
        repeat kt_at_get
        refine sTup ?_ (by with_unfolding_all rfl) (by with_unfolding_all rfl)
        repeat kt_at_get
        refine itemN (vs := dys) (k := i) (by assumption) (.tail _ (.tail _ (.tail _ (.head _)))) (by rw [hRd.1]; omega) (by rw [hRd.1]; exact zq584 hz10) ?_ (by with_unfolding_all rfl) (by intro _; with_unfolding_all rfl)
        rw [eT]
        refine unpackC (vs := [.int gap ta, .int spot tb]) c'.hh (by assumption) (by assumption) (.tail _ (.tail _ (.tail _ (.tail _ mT)))) rfl rfl ?_
        intro h29 F29 N29
        show wpAny _ _ (assignInOrder [assign _ _, assign _ _] [_, _]) _ _ _
        refine assignInOrder_cons ?_
        repeat kt_at_get
        refine assignInOrder_cons ?_
        repeat kt_at_get
        refine assignInOrder_nil ?_
        repeat kt_at_get
        refine wpAny_call (parted_call (n := 14) (v0 := v0) (hv := hv1) (κ := κ) (φ := φ) (step := (i : Int)) (news := (Ir, riO ((i + 1 : Nat) : Int) ((10 : Int) - ((i + 1 : Nat) : Int)) 1) :: (S0, listOf svs.toArray eS) :: (Du, listOf dys.toArray dys.length) :: ts) c' (by assumption) (nrot2 (by assumption)) (List.forall_mem_cons.mpr ⟨dIH, List.forall_mem_cons.mpr ⟨dSH, List.forall_mem_cons.mpr ⟨dDuH, qH⟩⟩⟩)
          (fun v hv => (hPB v hv).ext (by exact zq585) (fun _ _ => rfl) fun p hp => .tail _ (.tail _ (.tail _ hp))) hHh hk0 (by exact zq586 hki hpos) ⟨hb.1, hb.2.1⟩ hev hb.2.2 (by exact zq587 hki hpos hlenF hlr hlS) fun h30 tk30 φ' κ' hv' e' ts' F30 N30 hne30 hTs' hPB' hHh' hmap' htk30 => ?_)
        repeat kt_at_get
        refine iteB (fun h => absurd h (by decide)) (fun _ => ?_)
        repeat kt_at_get
        refine methN PySem.F.slot_list_append PySem.F.type_list_append (by assumption) (.tail _ (List.mem_append_right _ (.tail _ (.head _)))) ?_
        repeat kt_at_get
        refine iFloor (by decide) (by decide) ?_
        repeat kt_at_get
        refine iMod (by decide) ?_
        repeat kt_at_get
        have qall : ∀ {x : Addr}, (∀ q ∈ ts', q.1 ≠ x) → (∀ q ∈ ts, q.1 ≠ x) → ∀ q ∈ ts' ++ ts, q.1 ≠ x := fun a b q hq => (List.mem_append.mp hq).elim (a q) (b q)
        have hS' : ∀ q ∈ ts', q.1 ≠ S0 := Tups.off hTs' N30 (fun q hq => .tail _ (List.mem_append_left _ hq)) (.tail _ (List.mem_append_right _ (.tail _ (.head _))))
        have hD' : ∀ q ∈ ts', q.1 ≠ Du := Tups.off hTs' N30 (fun q hq => .tail _ (List.mem_append_left _ hq)) (.tail _ (List.mem_append_right _ (.tail _ (.tail _ (.head _)))))
        have hI' : ∀ q ∈ ts', q.1 ≠ Ir := fun q hq e => by
          obtain ⟨xs, hx⟩ := hTs' q hq
          have a1 := (N30 q (.tail _ (List.mem_append_left _ hq))).1
          have a2 := (N30 _ (.tail _ (List.mem_append_right _ (.head _)))).1
          rw [e, hx] at a1
          have := congrArg Obj.cls (Option.some.inj (a1.symm.trans a2))
          injection this with this
          revert this
          decide
        refine appendN (l := S0) F30 (nsub N30 (news' := (S0, listOf svs.toArray eS) :: (Ir, riO ((i + 1 : Nat) : Int) ((10 : Int) - ((i + 1 : Nat) : Int)) 1) :: (Hh, listOf hv'.toArray e') :: (Du, listOf dys.toArray dys.length) :: (ts' ++ ts)) (by lcg_sub)) ?_ (by exact zq588 hki hpos hlr hlS) ?_
        · exact List.forall_mem_cons.mpr ⟨dIS', List.forall_mem_cons.mpr ⟨Ne.symm dSH, List.forall_mem_cons.mpr ⟨dDuS, qall hS' qS⟩⟩⟩
        intro h31 F31 N31
        refine ⟨rfl, ?_⟩
        repeat kt_at_get
        refine ⟨k - 1, by exact zq589 hki hpos, h31, _, _, i + 1, hv', κ', φ', _, _, _, Sp ++ [(spot - gap / 2) % 1024], ts' ++ ts, row', Fd', rfl, by exact zq590 hki hpos, F31, nsub N31 (by lcg_sub), qall hI' qI, qall hD' qD, qall (fun q hq => hne30 q (List.mem_append_left _ hq)) qH, qall hS' qS, ?_, fun v hv => ((hPB' v hv).tups ?_).ext (by exact zq591) (fun _ _ => rfl) fun p hp => hp, hHh', ?_, hSv.append (.cons _ _ .nil), by simp; exact zq592 hSp2, ?_, hInv', hRd.mono fun v z h => h.weak fun p hp => List.mem_append_right _ hp, by kt_at_in, by kt_at_in, by kt_at_in⟩
        · intro p hp
          rcases List.mem_append.mp hp with hp | hp
          · exact hTs' p hp
          · exact hTs p hp
        · intro p hp hc
          rcases List.mem_append.mp hp with hp | hp
          · exact List.mem_append_left _ hp
          refine List.mem_append_right _ ?_
          rcases List.mem_cons.mp hp with rfl | hp
          · simp at hc
          rcases List.mem_cons.mp hp with rfl | hp
          · simp at hc
          rcases List.mem_cons.mp hp with rfl | hp
          · simp at hc
          · exact hp
        · refine hmap'.trans (List.Perm.trans ?_ ((hFd' rest2 hp1).map scl).symm)
          rw [List.map_cons, List.map_cons]
          exact (hp2.cons _).cons _
        · exact hr'.trans ((List.Perm.cons _ hrow).trans (List.perm_append_comm (l₁ := [_])))
      · intro h28 hpos F28 N28
        obtain rfl : i = 10 := by exact zq593 hki hpos
        exact ⟨_, _, _, hv, κ, φ, _, svs, _, Sp, ts, row, Fd, rfl, F28, nsub N28 (List.forall_mem_cons.mpr ⟨.head _, List.forall_mem_cons.mpr ⟨.tail _ (.head _), fun p hp => .tail _ (.tail _ (.tail _ hp))⟩⟩), qH, qS, hTs, hPB, hHh, hHm, hSv, hSp2, hrow, hInv, q1, q2⟩
    case exit2 =>
      clear hqI hqDu hqH hqS hTd hPBd hHh hHm' hSv hInv hRd q2 F26 N26' htk25 htk24 htk23 hsl
      rintro s' ⟨h', tk, m₂, hv, κ, φ, eH, svs, eS, Sp, ts, row, Fd, rfl, F27, N27, qH, qS, hTs, hPB, hHh, hHm, hSv, hSp2, hrow, hInv, q1, q2⟩
      have hlr := hInv.len
      have hlG : (gapsOf row).length = row.length := by
        cases row with
        | nil => rfl
        | cons x t => rw [gapsOf_gp, gp_len]
      have hG : (hv.map κ).Perm ((gapsOf row).map scl) := hHm.trans (hInv.gaps.map scl)
      have hgb : ∀ z ∈ gapsOf row, -1024 ≤ z.1 ∧ z.1 ≤ 0 ∧ 0 ≤ z.2 ∧ z.2 < 1024 := fun z hz => gaps_bound hInv.sorted hInv.bound hz
      have hrs := hInv.sorted
      have hll : hv.length = row.length := by have := hG.length_eq; simp at this; exact zq594 hlG this
      have hlS : svs.length = row.length := hSv.length.trans hrow.length_eq.symm
      have hrl2 : 2 ≤ row.length := by have := hrow.length_eq; exact zq595 hSp2 hlr hlG hll hlS this
      clear hHm hInv hzr hzp hzs
      repeat kt_at_get
      refine listN (by assumption) (by assumption) (by decide) ?_
      intro Lf h28 F28 N28 hLf
      have dLH : Lf ≠ Hh := Ne.symm (hLf (Hh, _) (.head _))
      have dLS : Lf ≠ S0 := Ne.symm (hLf (S0, _) (.tail _ (.head _)))
      have qL : ∀ q ∈ ts, q.1 ≠ Lf := fun q hq => hLf q (.tail _ (.tail _ hq))
      repeat kt_at_get
      refine sWhile (I := fun k s' => ∃ h' tk' m₂ hv' lv eH eL, s' = ⟨h', gs, dr, tk', oo⟩ ∧ k = hv'.length ∧ tk ≤ tk' ∧ Fr h₀ L h' m₂ ∧ News h₀ L h' ((Lf, listOf (List.toArray lv) eL) :: (Hh, listOf (List.toArray hv') eH) :: (S0, listOf svs.toArray eS) :: ts) ∧ (lv ++ hv').Perm hv ∧ HeapFrom (fun a b => plt (κ a) (κ b)) 0 hv' ∧
            (lv.map κ).Pairwise (fun x y => plt y x = false) ∧ (∀ a ∈ lv, ∀ b ∈ hv', plt (κ b) (κ a) = false) ∧ m₂ (Str.ofString "heap") = some (.ref Hh) ∧ m₂ (Str.ofString "spots") = some (.ref S0) ∧ m₂ (Str.ofString "left") = some (.ref Lf))
          (Z := fun s' => ∃ h' tk' m₂ lv eL, s' = ⟨h', gs, dr, tk', oo⟩ ∧ tk ≤ tk' ∧ Fr h₀ L h' m₂ ∧ News h₀ L h' ((Lf, listOf (List.toArray lv) eL) :: (S0, listOf svs.toArray eS) :: ts) ∧ lv.Perm hv ∧
            (lv.map κ).Pairwise (fun x y => plt y x = false) ∧ m₂ (Str.ofString "spots") = some (.ref S0) ∧ m₂ (Str.ofString "left") = some (.ref Lf)) ?turn3 hv.length ?init3 ?exit3
      case init3 => exact ⟨_, _, _, hv, [], _, _, rfl, rfl, by exact zq596, by assumption, by assumption, .refl _, hHh, .nil, fun a ha => (nomatch ha), by kt_at_in, by kt_at_in, by kt_at_in⟩
      case turn3 =>
        clear q1 q2 hHh F27 N27 F28 N28 hLf
        rintro k s' ⟨h', tk', m₂, hv', lv, eH, eL, rfl, rfl, htk', F29, N29, hpm, hHh, hlv, hmin, q1, q2, q3⟩
        have hlen' : lv.length + hv'.length = row.length := by have := hpm.length_eq; simp at this; exact zq597 hlG hll hlS this
        repeat kt_at_get
        refine listN (by assumption) (by assumption) (by decide) ?_
        intro En h30 F30 N30 hEn
        refine neNil (vs := hv') N30 (.tail _ (.tail _ (.head _))) (.head _) (by have := c'.uni; exact zq598 this) ?_
        repeat kt_at_get
        replace N30 := ntail N30
        refine iteB (fun hb => ?_) (fun hb => ?_)
        · have hne : hv' ≠ [] := fun e => by rw [e] at hb; exact absurd hb (by decide)
          repeat kt_at_get
          refine methN PySem.F.slot_list_append PySem.F.type_list_append (by assumption) (.head _) ?_
          repeat kt_at_get
          refine wpAny_call (pop_call (lt := fun a b => plt (κ a) (κ b)) (n := 16) (news := (Lf, listOf lv.toArray eL) :: (S0, listOf svs.toArray eS) :: ts) c' (by assumption) (nrot2 (by assumption)) (List.forall_mem_cons.mpr ⟨dLH, List.forall_mem_cons.mpr ⟨dSH, qH⟩⟩) (LtOK.pf (φ := φ) fun v hv2 => ((hPB v (hpm.mem_iff.mp (List.mem_append_right _ hv2))).ext (Nat.le_refl _) (fun _ _ => rfl) fun p hp => .tail _ (.tail _ hp)).pf) hne (by exact zq599 hlr hlG hll hlS hrl2 hlen') plt_swo hHh fun h31 tk31 r hv2 F31 N31 hp31 hH31 hm31 htk31 => ?_)
          repeat kt_at_get
          refine appendN (l := Lf) F31 (nrot2 N31) (List.forall_mem_cons.mpr ⟨Ne.symm dLH, List.forall_mem_cons.mpr ⟨Ne.symm dLS, qL⟩⟩) (by exact zq600 hlr hlG hll hlS hrl2 hlen') ?_
          intro h32 F32 N32
          refine ⟨rfl, ?_⟩
          repeat kt_at_get
          have hr : r ∈ hv' := hp31.mem_iff.mp (.head _)
          refine ⟨hv2.length, by have := hp31.length_eq; simp at this; exact zq601 this, h32, _, _, hv2, lv ++ [r], _, _, rfl, rfl, by exact zq602 htk' htk31, F32, N32, ?_, hH31, ?_, ?_, by kt_at_in, by kt_at_in, by kt_at_in⟩
          · rw [List.append_assoc]
            exact (hp31.append_left lv).trans hpm
          · rw [List.map_append, List.pairwise_append]
            refine ⟨hlv, List.pairwise_singleton _ _, fun a ha b hb => ?_⟩
            obtain ⟨a', ha', rfl⟩ := List.mem_map.mp ha
            obtain rfl := List.mem_singleton.mp hb
            exact hmin a' ha' r hr
          · intro a ha b hb2
            rcases List.mem_append.mp ha with ha | ha
            · exact hmin a ha b (hp31.mem_iff.mp (.tail _ hb2))
            · obtain rfl := List.mem_singleton.mp ha
              exact hm31 b hb2
        · obtain rfl : hv' = [] := by
            cases hv' with
            | nil => rfl
            | cons a b => simp at hb
          rw [List.append_nil] at hpm
          exact ⟨_, _, _, lv, eL, rfl, by omega, by assumption, nsub N30 (List.forall_mem_cons.mpr ⟨.head _, fun p hp => .tail _ (.tail _ hp)⟩), hpm, hlv, q2, q3⟩
      case exit3 =>
        clear q1 q2 hHh F27 N27 F28 N28 hLf
        rintro s' ⟨h', tk', m₂, lv, eL, rfl, htk', F29, N29, hpm, hlv, q2, q3⟩
        have hll2 : lv.length = row.length := hpm.length_eq.trans hll
        have hPBl : ∀ v ∈ lv, PB φ tk' ts v (κ v) := fun v hv => (hPB v (hpm.mem_iff.mp hv)).ext htk' (fun _ _ => rfl) fun p hp => hp
        have hGl : (lv.map κ).Perm ((gapsOf row).map scl) := (hpm.map κ).trans hG
        clear hPB hG hpm hll htk'
        repeat kt_at_get
        refine compE (cl := []) (by with_unfolding_all rfl) (by rfl) (by decide) (by intro _; with_unfolding_all rfl) ?_
        repeat kt_at_get
        refine wpAny_call (gaps_call (n := 18) c' (by assumption) (by assumption) (.tail _ (.head _)) hSv (by exact zq592 hSp2) (by have := hrow.length_eq; exact zq603 hlr hlG hlS hrl2 hll2 this) fun h30 tk30 Dg tsg ysg row2 F30 N30 hDg hTg hP2 hs2 hRg htk30 => ?_)
        obtain rfl : row2 = row := sorted_uniq (hP2.trans hrow.symm) hs2 hrs
        have hyg : ysg.length = row2.length := hRg.1.trans hlG
        repeat kt_at_get
        have hfc2 : ∀ i j, i < ysg.length → j < ysg.length → ysg.getD i .none = ysg.getD j .none → (gapsOf row2).getD i default = (gapsOf row2).getD j default := fun i j hi hj e => by
          have a1 := hRg.2 i (by exact zq604 hlG hlS hll2 hyg hi)
          have a2 := hRg.2 j (by exact zq604 hlG hlS hll2 hyg hj)
          rw [← e] at a2
          exact PI.uniq (nsub N30 fun p hp => .tail _ (List.mem_append_left _ hp)) a1 a2
        obtain ⟨κ2, hκ2⟩ := exists_kappa ysg (fun i => (gapsOf row2).getD i default) hfc2
        have hPI : ∀ v ∈ ysg, PI tsg v (κ2 v) := fun v hv => by
          obtain ⟨j, hj, rfl⟩ := List.getElem_of_mem hv
          have ej : ysg[j] = ysg.getD j .none := by simp [List.getD, hj]
          rw [ej, hκ2 j hj]
          exact hRg.2 j (by exact zq604 hlG hlS hll2 hyg hj)
        have hmap2 : ysg.map κ2 = gapsOf row2 := by
          apply List.ext_getElem
          · simp; exact zq605 hlG hlS hll2 hyg
          · intro i h1 h2
            have hi : i < ysg.length := by simpa using h1
            have := hκ2 i hi
            simp only [List.getElem_map]
            simp only [List.getD_eq_getElem?_getD, List.getElem?_eq_getElem hi, List.getElem?_eq_getElem h2, Option.getD_some] at this
            exact this
        refine sortedN (T := .type "int") (lt := fun v u => plt (κ2 v) (κ2 u)) (by have := c'.uni; exact zq606 this) F30 N30 (.head _) c'.X plt_swo (by exact zq607 hlr hlG hlS hrl2 hll2 hyg) (by exact zq608 hlr hlG hlS hrl2 hll2 hyg) (by decide) (fun h N v hv => (hPI v hv).head (nsub N fun p hp => .tail _ (List.mem_append_left _ hp))) (fun h X N v hv u hu => ?_) ?_
        · have e1 : (Value.type "int" != Value.type "tuple") = true := by decide
          rw [e1]
          exact PI.srt (nsub N fun p hp => .tail _ (List.mem_append_left _ hp)) (hPI v hv) (hPI u hu)
        intro D4 h31 us4 e4 F31 N31 hD4 hup4 hus4
        have hul4 : us4.length = row2.length := hup4.length_eq.trans hyg
        have hmm : lv.map κ = (us4.map κ2).map scl := by
          refine sortedP_uniq (hGl.trans (((hup4.map κ2).trans (.of_eq hmap2)).map scl).symm) hlv ?_
          rw [List.pairwise_map, List.pairwise_map]
          exact hus4.imp fun h => scl_plt h
        refine iterList (vs := us4) F31 N31 (.head _) ?_
        intro I5 oI5 h32 F32 N32 hI5 hneI5
        refine compList (vs := us4) (P := fun i x ts lo hi => ∃ U, ∃ p : Nat × Nat, x = .ref U ∧ (U, tupO [.float (fl ((κ2 (us4.getD i .none)).1 * 1048576)) p.1, .float (fl ((κ2 (us4.getD i .none)).2 * 1048576)) p.2]) ∈ ts ∧ lo < p.1 ∧ p.1 < p.2 ∧ p.2 < hi) c'.hh F32 N32 hneI5 hI5 (.head _) (by exact zq609 hlr hlG hlS hrl2 hll2 hyg hul4) (fun i x us ts lo hi h hs => by
          obtain ⟨U, p, a, b, r⟩ := h; exact ⟨U, p, a, hs _ b, r⟩) ?_ (by decide) rfl ?_
        · intro i hi h' tk C oC o' mc nw Q F5 N5 hLI hnC hsub hn5 htk post5
          have hmem := hup4.mem_iff.mp (getD_mem (vs := us4) hi)
          have hz : κ2 (us4.getD i .none) ∈ gapsOf row2 := by rw [← hmap2]; exact List.mem_map.mpr ⟨_, hmem, rfl⟩
          have hzb := hgb _ hz
          obtain ⟨aT, tA, tB, eT, mT⟩ := hPI _ hmem
          generalize κ2 (us4.getD i .none) = zz at *
          rw [eT]
          refine wpAny_letOwnedTupleGo_listiter (i := i + 1) (l := D4) ⟨o', (N5 _ (.tail _ (.head _))).1, hLI.1, hLI.2⟩ ?_
          refine unpackC (vs := [.int zz.1 tA, .int zz.2 tB]) c'.hh F5 N5 (.tail _ (.tail _ (hsub _ (.tail _ (.tail _ (List.mem_append_left _ mT)))))) rfl rfl ?_
          intro h6 F6 N6
          show wpAny _ _ (assignInOrder [assign _ _, assign _ _] [_, _]) _ _ _
          refine assignInOrder_cons (PyProof.Rows.assign_Name (stC rfl rfl F6 N6 hnC hn5 ?_))
          intro h7 oC7 F7 N7 hn7
          refine assignInOrder_cons (PyProof.Rows.assign_Name (stC rfl rfl F7 N7 hnC hn7 ?_))
          intro h8 oC8 F8 N8 hn8
          refine assignInOrder_nil ?_
          refine Tuple_ (spliced_more ?_ rfl)
          refine wpAny_BinOp ?_
          refine ldC rfl rfl N8 (.head _) hn8 (by kt_at_in) ?_ (by decide)
          refine cInt ?_
          refine iDivF (zz.1 * 1048576) c'.hh (by exact zq610 hzb) (by decide) (by exact zq611 hzb) (by exact zq612) ?_
          refine spliced_more ?_ rfl
          refine wpAny_BinOp ?_
          refine ldC rfl rfl N8 (.head _) hn8 (by kt_at_in) ?_ (by decide)
          refine cInt ?_
          refine iDivF (zz.2 * 1048576) c'.hh (by exact zq613 hzb) (by decide) (by exact zq614 hzb) (by exact zq612) ?_
          refine spliced_none ?_
          refine tupN F8 N8 (by show 2 < 1000; decide) ?_
          intro U h9 F9 N9 hU
          obtain ⟨oU, ⟨ua, ub, hoU, hu1, hu2, hu3⟩, N9'⟩ : ∃ oU, (∃ ua ub : Nat, oU = tupO [.float (fl (zz.1 * 1048576)) ua, .float (fl (zz.2 * 1048576)) ub] ∧ tk < ua ∧ ua < ub ∧ ub < tk + 6) ∧ News h₀ L h9 ((U, oU) :: (C, oC8) :: (I5, o') :: nw) := ⟨_, ⟨_, _, rfl, by exact zq615, by exact zq174, by exact zq616⟩, N9⟩
          refine post5 (.ref U) [(U, oU)] _ _ oC8 _ F9 (nsub N9' ?_) ?_ hn8 ?_ ⟨U, (ua, ub), rfl, by rw [hoU]; exact .head _, hu1, hu2, by dsimp only; omega⟩ (by exact zq617)
          · intro p hp
            rcases List.mem_cons.mp hp with rfl | hp
            · exact .tail _ (.head _)
            rcases List.mem_cons.mp hp with rfl | hp
            · exact .tail _ (.tail _ (.head _))
            rcases List.mem_cons.mp hp with rfl | hp
            · exact .head _
            · exact .tail _ (.tail _ (.tail _ hp))
          · intro p hp
            obtain rfl := List.mem_singleton.mp hp
            exact ⟨Ne.symm (hU (C, _) (.head _)), fun q hq => hU q (.tail _ hq)⟩
          · intro p hp
            obtain rfl := List.mem_singleton.mp hp
            exact ⟨_, hoU⟩
        intro C D5 oC mc h33 tk33 ts5 ys5 lo5 hi5 F33 N33 hn33 hCD5 hC33 hD33 hT33 hyl5 hP5 hlo5 hmono5 htk33
        refine compEndE F33 N33 hn33 (List.forall_mem_cons.mpr ⟨Ne.symm hCD5, hC33⟩) fun h34 F34 N34 => ?_
        obtain ⟨p5, hp5⟩ := Classical.skolem.mp (fun i => (by
          by_cases h : i < us4.length
          · obtain ⟨U, p, a⟩ := hP5 i h; exact ⟨p, fun _ => ⟨U, a⟩⟩
          · exact ⟨(0, 0), fun q => absurd q h⟩ : ∃ p : Nat × Nat, i < us4.length → ∃ U, ys5.getD i .none = .ref U ∧ (U, tupO [.float (fl ((κ2 (us4.getD i .none)).1 * 1048576)) p.1, .float (fl ((κ2 (us4.getD i .none)).2 * 1048576)) p.2]) ∈ ts5 ∧ lo5 i < p.1 ∧ p.1 < p.2 ∧ p.2 < hi5 i))
        obtain ⟨φ5, hφ5⟩ := exists_phi (2 * us4.length) (fun k => if k % 2 = 0 then (p5 (k / 2)).1 else (p5 (k / 2)).2) (fun k => if k % 2 = 0 then (κ2 (us4.getD (k / 2) .none)).1 * 1048576 else (κ2 (us4.getD (k / 2) .none)).2 * 1048576) fun i j hij hj e => by
          obtain ⟨_, _, _, a1, a2, a3⟩ := hp5 (i / 2) (by exact zq618 hyl5 hij hj)
          obtain ⟨_, _, _, b1, b2, b3⟩ := hp5 (j / 2) (by exact zq619 hyl5 hj)
          have hm : i / 2 < j / 2 → hi5 (i / 2) ≤ lo5 (j / 2) := fun h => hmono5 _ _ h (by exact zq619 hyl5 hj)
          have hs : i / 2 = j / 2 → p5 (i / 2) = p5 (j / 2) := fun h => by rw [h]
          by_cases q : i / 2 = j / 2
          · have hs := hs q
            rw [if_pos (by exact zq620 hij q), if_neg (by exact zq621 hij q), hs] at e
            exact zq551 e b2
          · have hm := hm (by exact zq622 hij q)
            split at e <;> split at e <;> (first | exact zq623 a2 a3 b1 hm e | exact zq624 a2 a3 b1 b2 hm e | exact zq625 a3 b1 hm e | exact zq626 a3 b1 b2 hm e)
        have hA : ∀ i, i < us4.length → φ5 (p5 i).1 = (κ2 (us4.getD i .none)).1 * 1048576 := fun i hi => by
          have := hφ5 (2 * i) (by exact zq627 hyl5 hi)
          rw [if_pos (by exact zq628), if_pos (by exact zq628), show 2 * i / 2 = i by exact zq629] at this
          exact this
        have hB : ∀ i, i < us4.length → φ5 (p5 i).2 = (κ2 (us4.getD i .none)).2 * 1048576 := fun i hi => by
          have := hφ5 (2 * i + 1) (by exact zq630 hyl5 hi)
          rw [if_neg (by exact zq631), if_neg (by exact zq631), show (2 * i + 1) / 2 = i by exact zq632] at this
          exact this
        have hφ' : ∀ t, t < tk' → (fun t => if t < tk' then φ t else φ5 t) t = φ t := fun t ht => by dsimp only; rw [if_pos ht]
        have hsub34 : ∀ p ∈ ts, p ∈ (D5, listOf ys5.toArray ys5.length) :: (ts5 ++ (D4, listOf us4.toArray e4) :: (Dg, listOf ysg.toArray ysg.length) :: (tsg ++ (Lf, listOf lv.toArray eL) :: (S0, listOf svs.toArray eS) :: ts)) := fun p hp => .tail _ (List.mem_append_right _ (.tail _ (.tail _ (List.mem_append_right _ (.tail _ (.tail _ hp))))))
        refine eqLists (φ := fun t => if t < tk' then φ t else φ5 t) (vs := lv) (us := ys5) (noneBooked (c'.X.keeps F34.keep)) N34 (.tail _ (List.mem_append_right _ (.tail _ (.tail _ (List.mem_append_right _ (.head _)))))) (.head _) (by have := c'.uni; exact zq598 this) (by exact zq633 hlG hlS hll2 hyg hul4 hyl5) (fun i hi => ?_) ?_
        · have hi4 : i < us4.length := by exact zq634 hlG hlS hll2 hyg hul4 hyl5 hi
          refine ⟨κ (lv.getD i .none), ((hPBl _ (getD_mem hi)).ext (Nat.le_refl _) hφ' hsub34).pf, ?_⟩
          have ez : κ (lv.getD i .none) = scl (κ2 (us4.getD i .none)) := by
            have h1 : i < (lv.map κ).length := by simpa using hi
            have h2 : i < ((us4.map κ2).map scl).length := by simpa using hi4
            have := List.getElem_of_eq hmm h1
            simp only [List.getElem_map] at this
            simp only [List.getD_eq_getElem?_getD, List.getElem?_eq_getElem hi, List.getElem?_eq_getElem hi4, Option.getD_some]
            exact this
          rw [ez]
          obtain ⟨U, e1, m1, a1, a2, a3⟩ := hp5 i hi4
          have a4 := hlo5 i hi4
          have hzb := hgb _ (by rw [← hmap2]; exact List.mem_map.mpr ⟨_, hup4.mem_iff.mp (getD_mem (vs := us4) hi4), rfl⟩ : κ2 (us4.getD i .none) ∈ gapsOf row2)
          have hA' := hA i hi4
          have hB' := hB i hi4
          refine ⟨U, _, _, e1, .tail _ (List.mem_append_left _ m1), ⟨(p5 i).1, rfl, by exact zq635 a1, ?_, ?_⟩, ⟨(p5 i).2, rfl, by exact zq636 a1 a2, ?_, ?_⟩⟩
          · dsimp only; rw [if_neg (by exact zq637 htk30 a1 a4)]; exact hA'
          · show ((κ2 (us4.getD i .none)).1 * 1048576).natAbs < _; exact zq638 hzb
          · dsimp only; rw [if_neg (by exact zq639 htk30 a1 a2 a4)]; exact hB'
          · show ((κ2 (us4.getD i .none)).2 * 1048576).natAbs < _; exact zq640 hzb
        · repeat kt_at_get
          exact ⟨rfl, _, _, _, rfl, F34⟩

end Mine
theorem PySem.Challenge.cw_mq0298_01_holds : PySem.Challenge.rw_mq0298_01.Holds :=
  Mine.law_holds
